import JvmDerived
import JvmDerived.Pilot.@@N@@Statement
import JvmDerived.Pilot.@@N@@Code
set_option linter.unusedVariables false
set_option linter.unusedSimpArgs false
namespace Jvm.Pilot.@@N@@
open Jvm Jvm.ClassFile Sem Op Lib Jvm.Free Jvm.Stand Jvm.LawKit Jvm.RoadKit Bundle Jvm.Pilot.@@N@@.Jvm.D
/-! own small kit: the goal of a walk, backward; the leaves -/
def Gl (tb : Tables) (e : Env) (below : List Frame) (QQ : Outcome → State → Prop) (st : State) : Prop := ∃ s₂ o, Steps tb e below st s₂ ∧ s₂.status = .running ∧ Ended s₂ below o ∧ QQ o s₂
theorem Gl.go {tb : Tables} {e : Env} {below : List Frame} {QQ : Outcome → State → Prop} {st st' : State} (h : ∀ t, Steps tb e below st' t → Steps tb e below st t) (g : Gl tb e below QQ st') : Gl tb e below QQ st := by
  obtain ⟨s2, o, h1, h2⟩ := g
  exact ⟨s2, o, h _ h1, h2⟩
def QQof (s : State) (Q : Option Value → Heap → List Loc → Prop) (k n : Nat) : Outcome → State → Prop := fun o U => ∃ v L, o = .returned v ∧ Q v U.heap L ∧ FrameEnd s o U L k n
section Leaf
variable {p : Program} {l : Launch} {e : Env} {R : Room} {s : State} {m : MethodId} {args : Array Value} {below : List Frame} {meth : Method} {c : Code} {T : State} {locs : List Loc} {cells slots : Nat} {pc : Nat} {Ls : Array Slot} {rest : List Value} {Q : Option Value → Heap → List Loc → Prop} {k n : Nat}
theorem leafN (X : Stand p l e R s m args below meth c T locs cells slots) (hx : p.tables.exec = Jvm.exec) (hlk : meth.locks = false) {z : Int32} {t : FieldType} (hret : meth.sig.returnType = some t) (ht : t = .boolean ∨ t = .byte ∨ t = .char ∨ t = .short) (hd : decode c.code pc = .ok (.ireturn, 1))
    (hq : Q (some (.int (nar t z))) T.heap locs) (hk : cells ≤ k) (hn : slots ≤ n) : Gl p.tables e below (QQof s Q k n) (T.setTop (mkF m pc Ls (.int z :: rest))) := by
  obtain ⟨fs, hr, hrun, hended, hW, hsame⟩ := X.leave (v := some (.int (nar t z))) (fun h => by rw [hret] at h; cases h) hlk
  exact ⟨_, _, retN X hx hret ht hd hr, hrun, hended, _, _, rfl, hq, ⟨_, rfl⟩, hW, hsame.mono hk hn⟩
theorem leafI (X : Stand p l e R s m args below meth c T locs cells slots) (hx : p.tables.exec = Jvm.exec) (hlk : meth.locks = false) {z : Int32} (hret : meth.sig.returnType = some .int) (hd : decode c.code pc = .ok (.ireturn, 1))
    (hq : Q (some (.int z)) T.heap locs) (hk : cells ≤ k) (hn : slots ≤ n) : Gl p.tables e below (QQof s Q k n) (T.setTop (mkF m pc Ls (.int z :: rest))) := by
  obtain ⟨fs, hr, hrun, hended, hW, hsame⟩ := X.leave (v := some (.int z)) (fun h => by rw [hret] at h; cases h) hlk
  exact ⟨_, _, retOut X hx hret rfl (Or.inl ⟨rfl, Or.inl rfl, _, rfl⟩) hd hr, hrun, hended, _, _, rfl, hq, ⟨_, rfl⟩, hW, hsame.mono hk hn⟩
theorem leafL (X : Stand p l e R s m args below meth c T locs cells slots) (hx : p.tables.exec = Jvm.exec) (hlk : meth.locks = false) {z : Int64} (hret : meth.sig.returnType = some .long) (hd : decode c.code pc = .ok (.lreturn, 1))
    (hq : Q (some (.long z)) T.heap locs) (hk : cells ≤ k) (hn : slots ≤ n) : Gl p.tables e below (QQof s Q k n) (T.setTop (mkF m pc Ls (.long z :: rest))) := by
  obtain ⟨fs, hr, hrun, hended, hW, hsame⟩ := X.leave (v := some (.long z)) (fun h => by rw [hret] at h; cases h) hlk
  exact ⟨_, _, retOut X hx hret rfl (Or.inr (Or.inl ⟨rfl, rfl, _, rfl⟩)) hd hr, hrun, hended, _, _, rfl, hq, ⟨_, rfl⟩, hW, hsame.mono hk hn⟩
theorem leafD (X : Stand p l e R s m args below meth c T locs cells slots) (hx : p.tables.exec = Jvm.exec) (hlk : meth.locks = false) {z : UInt64} (hret : meth.sig.returnType = some .double) (hd : decode c.code pc = .ok (.dreturn, 1))
    (hq : Q (some (.double z)) T.heap locs) (hk : cells ≤ k) (hn : slots ≤ n) : Gl p.tables e below (QQof s Q k n) (T.setTop (mkF m pc Ls (.double z :: rest))) := by
  obtain ⟨fs, hr, hrun, hended, hW, hsame⟩ := X.leave (v := some (.double z)) (fun h => by rw [hret] at h; cases h) hlk
  exact ⟨_, _, retOut X hx hret rfl (Or.inr (Or.inr (Or.inl ⟨rfl, rfl, _, rfl⟩))) hd hr, hrun, hended, _, _, rfl, hq, ⟨_, rfl⟩, hW, hsame.mono hk hn⟩
theorem narrowR {t : FieldType} {w : Value} (ht : t.isReference = true) (hw : w.isRef = true) : narrow t w = w := by
  cases w <;> simp [Value.isRef] at hw <;> cases t <;> simp [FieldType.isReference] at ht <;> rfl
theorem leafA (X : Stand p l e R s m args below meth c T locs cells slots) (hx : p.tables.exec = Jvm.exec) (hlk : meth.locks = false) {w : Value} {t : FieldType} (hret : meth.sig.returnType = some t) (ht : t.isReference = true) (hw : w.isRef = true) (hd : decode c.code pc = .ok (.areturn, 1))
    (hq : Q (some w) T.heap locs) (hk : cells ≤ k) (hn : slots ≤ n) : Gl p.tables e below (QQof s Q k n) (T.setTop (mkF m pc Ls (w :: rest))) := by
  obtain ⟨fs, hr, hrun, hended, hW, hsame⟩ := X.leave (v := some w) (fun h => by rw [hret] at h; cases h) hlk
  exact ⟨_, _, retOut X hx hret (narrowR ht hw) (Or.inr (Or.inr (Or.inr (Or.inr ⟨rfl, ht, hw⟩)))) hd hr, hrun, hended, _, _, rfl, hq, ⟨_, rfl⟩, hW, hsame.mono hk hn⟩
theorem leafV (X : Stand p l e R s m args below meth c T locs cells slots) (hx : p.tables.exec = Jvm.exec) (hlk : meth.locks = false) (hret : meth.sig.returnType = none) (hd : decode c.code pc = .ok (.return_, 1))
    (hq : Q none T.heap locs) (hk : cells ≤ k) (hn : slots ≤ n) : Gl p.tables e below (QQof s Q k n) (T.setTop (mkF m pc Ls [])) := by
  obtain ⟨fs, hr, hrun, hended, hW, hsame⟩ := X.leave (v := none) (fun _ => rfl) hlk
  exact ⟨_, _, X.returnOut hx hret hd hr, hrun, hended, _, _, rfl, hq, ⟨_, rfl⟩, hW, hsame.mono hk hn⟩
end Leaf
theorem fitsR {t : FieldType} {w : Value} (ht : t.isReference = true) (hw : w.isRef = true) : fits t w = true := by
  cases w <;> simp [Value.isRef] at hw <;> cases t <;> simp [FieldType.isReference] at ht <;> rfl
theorem nar1 : nar .boolean (1 : Int32) = 1 := by decide
theorem nar0 : nar .boolean (0 : Int32) = 0 := by decide
theorem int_at {args : Array Value} {s : State} {t : Term} {k : Int32} (h : (Jvm.Cond.eq t (.int k)).value args s none s [] = some true) : t.eval args s none [] s = some (.int k) := by
  obtain ⟨x, y, hx, hy, kx, ky⟩ := cmp_v (Or.inl h)
  have hk : y = .int k := Option.some.inj (hy.symm.trans (Term.int_eval k))
  subst hk
  obtain ⟨z, rfl⟩ := ky
  have hz := gotT (Cond.eq_ints hx (Term.int_eval k)) h
  rw [hx, hz]
theorem fld_int {args : Array Value} {s : State} {t : Term} {C n d : String} {k : Int32} {x : Addr} (ht : t.eval args s none [] s = some (.ref x)) (h : (Jvm.Cond.eq (.field t C n d) (.int k)).value args s none s [] = some true) : Fld s s.heap x C n d (.int k) := Fld.start ((fld_at ht).symm.trans (int_at h))
theorem ref_at {args : Array Value} {s : State} {a b : Term} {x : Addr} (hb : b.eval args s none [] s = some (.ref x)) (h : (Jvm.Cond.eq a b).value args s none s [] = some true) : a.eval args s none [] s = some (.ref x) := by
  obtain ⟨y, z, hy, hz, ky, kz⟩ := cmp_v (Or.inl h)
  have hk : z = .ref x := Option.some.inj (hz.symm.trans hb)
  subst hk
  have hr : y.isRef = true := kz.2
  have he := gotT (eq_R hy hb hr rfl) h
  rw [hy, he]
theorem ext_of_keep {h h' : Heap} (K : Keep h h' []) : Ext h h' := ⟨K.1, fun a c q => K.2.1 a c q nin0⟩
theorem arr_len {args : Array Value} {s : State} {t : Term} {a : Addr} {cl : Cell} {ty : FieldType} {k : Int32} (ev : t.eval args s none [] s = some (.ref a)) (A : Arr s s.heap a cl ty) (h : (Jvm.Cond.eq (.length t) (.int k)).value args s none s [] = some true) : cl.slots.size < 2 ^ 31 ∧ cl.slots.size.toInt32 = k := by
  obtain ⟨b, cell, e1, e2, e3, e4⟩ := Jvm.Lib.length_spec (int_at h)
  have hb : a = b := Value.ref.inj (Option.some.inj (ev.symm.trans e1))
  subst hb
  have hc : cl = cell := Option.some.inj ((A.fin (Vm.Alike.refl _)).symm.trans e2)
  subst hc
  exact ⟨e3, (Value.int.inj e4).symm⟩
theorem arr_elem {args : Array Value} {s : State} {t : Term} {a : Addr} {cl : Cell} {ty : FieldType} {j : Int32} {v : Value} (ev : t.eval args s none [] s = some (.ref a)) (A : Arr s s.heap a cl ty) (h : (Term.elem t (.int j)).eval args s none [] s = some v) : cl.slots[j.toNatClampNeg]? = some v := (elem_in h ev (Term.int_eval j) A.1).2

def byB (a : Int32) : Int32 := nar .byte (a.toInt8.toInt32)
def orB (acc v : Int32) : Int32 := (acc ||| ((1 : Int32) <<< ((v &&& (15 : Int32)) &&& 31)))
def chV (x : Int32) : Int32 := nar .char (x.toUInt32.toUInt16.toUInt32.toInt32)
def sgV (x cls : Int32) : Int32 := if ((cls.toUInt32 >>> ((x &&& (15 : Int32)) &&& 31).toUInt32).toInt32) = (1 : Int32) then (1 : Int32) else (0 : Int32)
theorem own_len (n : Int32) : (n &&& (3 : Int32)) = 0 ∨ (n &&& (3 : Int32)) = 1 ∨ (n &&& (3 : Int32)) = 2 ∨ (n &&& (3 : Int32)) = 3 := by
  have h : (n &&& (3 : Int32)).toBitVec.toNat ≤ 3 := by
    simp only [Int32.toBitVec_and, BitVec.toNat_and]
    exact Nat.and_le_right
  have e : (n &&& (3 : Int32)) = Int32.ofBitVec (BitVec.ofNat 32 (n &&& (3 : Int32)).toBitVec.toNat) := by
    apply Int32.toBitVec_inj.mp
    simp
  generalize (n &&& (3 : Int32)).toBitVec.toNat = k at h e
  rw [e]
  have : k = 0 ∨ k = 1 ∨ k = 2 ∨ k = 3 := by omega
  rcases this with rfl | rfl | rfl | rfl <;> decide
theorem own_nib (n : Int32) : ∃ k : Nat, k < 16 ∧ (n &&& (15 : Int32)) = Int32.ofBitVec (BitVec.ofNat 32 k) := by
  refine ⟨(n &&& (15 : Int32)).toBitVec.toNat, ?_, ?_⟩
  · have : (n &&& (15 : Int32)).toBitVec.toNat ≤ 15 := by
      simp only [Int32.toBitVec_and, BitVec.toNat_and]
      exact Nat.and_le_right
    omega
  · apply Int32.toBitVec_inj.mp
    simp
theorem own_chbv (x : Int32) : (chV x).toBitVec = (x.toBitVec.setWidth 16).setWidth 32 := by
  show (((x.toBitVec.setWidth 16).setWidth 32).setWidth 16).setWidth 32 = _
  apply BitVec.eq_of_getLsbD_eq
  intro i hi
  simp only [BitVec.getLsbD_setWidth]
  by_cases h : i < 16 <;> simp [h] <;> omega
theorem own_ch_or (x y : Int32) : chV (x ||| y) = (chV x ||| chV y) := by
  apply Int32.toBitVec_inj.mp
  rw [Int32.toBitVec_or, own_chbv, own_chbv, own_chbv, Int32.toBitVec_or, BitVec.setWidth_or, BitVec.setWidth_or]
theorem own_or (acc v : Int32) : orB acc v = (acc ||| orB 0 v) := by
  unfold orB
  rw [Int32.zero_or]
theorem own_ch0 : chV 0 = 0 := by decide
theorem own_by (a : Int32) : ((byB a) &&& (15 : Int32)) = (a &&& (15 : Int32)) := by
  apply Int32.toBitVec_inj.mp
  show ((((a.toBitVec.signExtend 8).signExtend 32).signExtend 8).signExtend 32) &&& 15#32 = a.toBitVec &&& 15#32
  apply BitVec.eq_of_getLsbD_eq
  intro i hi
  by_cases h : i < 4
  · have h8 : i < 8 := by omega
    have h32 : i < 32 := by omega
    simp only [BitVec.getLsbD_and, BitVec.getLsbD_signExtend, h8, h32, decide_true, Bool.true_and, if_true]
  · have : (15#32).getLsbD i = false := by
      have : i ∈ List.range 32 := List.mem_range.mpr hi
      revert h
      revert i
      decide
    simp [BitVec.getLsbD_and, this]
theorem own_sg (a : Int32) : sgV a (chV (orB 0 (byB a))) = 1 := by
  unfold sgV orB
  rw [own_by]
  obtain ⟨k, hk, e⟩ := own_nib a
  rw [e]
  clear e
  revert k
  decide +kernel
theorem pn_0 : plainName "com/example/aloud/aloud/PathPattern" = true := by first | (simp [plainName, overriddenIn]; done) | decide +kernel
theorem ef_bc0 (m : MethodId) (x0 : Addr) : entryFrame m #[(.ref x0)] 6 = mkF m 0 #[.val (.ref x0), .unset, .unset, .unset, .unset, .unset] [] := by first | (simp [entryFrame, mkF, argsToLocals, Value.category]; done) | rfl
theorem d1_0 : decode prog_15_method_9_code 0 = .ok (.iconst 0, 1) := by decide +kernel
theorem d1_1 : decode prog_15_method_9_code 1 = .ok (.istore_n 1, 1) := by decide +kernel
theorem d1_2 : decode prog_15_method_9_code 2 = .ok (.aload_n 0, 1) := by decide +kernel
theorem d1_3 : decode prog_15_method_9_code 3 = .ok (.astore_n 2, 1) := by decide +kernel
theorem d1_4 : decode prog_15_method_9_code 4 = .ok (.aload_n 2, 1) := by decide +kernel
theorem d1_5 : decode prog_15_method_9_code 5 = .ok (.arraylength, 1) := by decide +kernel
theorem d1_6 : decode prog_15_method_9_code 6 = .ok (.istore_n 3, 1) := by decide +kernel
theorem d1_7 : decode prog_15_method_9_code 7 = .ok (.iconst 0, 1) := by decide +kernel
theorem d1_8 : decode prog_15_method_9_code 8 = .ok (.istore 4, 2) := by decide +kernel
theorem d1_10 : decode prog_15_method_9_code 10 = .ok (.iload 4, 2) := by decide +kernel
theorem d1_12 : decode prog_15_method_9_code 12 = .ok (.iload_n 3, 1) := by decide +kernel
theorem d1_13 : decode prog_15_method_9_code 13 = .ok (.if_icmp .ge 25, 3) := by decide +kernel
theorem d1_38 : decode prog_15_method_9_code 38 = .ok (.iload_n 1, 1) := by decide +kernel
theorem d1_39 : decode prog_15_method_9_code 39 = .ok (.i2c, 1) := by decide +kernel
theorem d1_40 : decode prog_15_method_9_code 40 = .ok (.ireturn, 1) := by decide +kernel
theorem ef_bc1 (m : MethodId) (x0 : Addr) : entryFrame m #[(.ref x0)] 6 = mkF m 0 #[.val (.ref x0), .unset, .unset, .unset, .unset, .unset] [] := by first | (simp [entryFrame, mkF, argsToLocals, Value.category]; done) | rfl
theorem d1_16 : decode prog_15_method_9_code 16 = .ok (.aload_n 2, 1) := by decide +kernel
theorem d1_17 : decode prog_15_method_9_code 17 = .ok (.iload 4, 2) := by decide +kernel
theorem d1_19 : decode prog_15_method_9_code 19 = .ok (.baload, 1) := by decide +kernel
theorem d1_20 : decode prog_15_method_9_code 20 = .ok (.istore 5, 2) := by decide +kernel
theorem d1_22 : decode prog_15_method_9_code 22 = .ok (.iload_n 1, 1) := by decide +kernel
theorem d1_23 : decode prog_15_method_9_code 23 = .ok (.iconst 1, 1) := by decide +kernel
theorem d1_24 : decode prog_15_method_9_code 24 = .ok (.iload 5, 2) := by decide +kernel
theorem d1_26 : decode prog_15_method_9_code 26 = .ok (.bipush 15, 2) := by decide +kernel
theorem d1_28 : decode prog_15_method_9_code 28 = .ok (.iand, 1) := by decide +kernel
theorem d1_29 : decode prog_15_method_9_code 29 = .ok (.ishl, 1) := by decide +kernel
theorem d1_30 : decode prog_15_method_9_code 30 = .ok (.ior, 1) := by decide +kernel
theorem d1_31 : decode prog_15_method_9_code 31 = .ok (.istore_n 1, 1) := by decide +kernel
theorem d1_32 : decode prog_15_method_9_code 32 = .ok (.iinc 4 1, 3) := by decide +kernel
theorem d1_35 : decode prog_15_method_9_code 35 = .ok (.goto (-25), 3) := by decide +kernel
theorem ef_bc2 (m : MethodId) (x0 : Addr) : entryFrame m #[(.ref x0)] 6 = mkF m 0 #[.val (.ref x0), .unset, .unset, .unset, .unset, .unset] [] := by first | (simp [entryFrame, mkF, argsToLocals, Value.category]; done) | rfl
theorem ef_bc3 (m : MethodId) (x0 : Addr) : entryFrame m #[(.ref x0)] 6 = mkF m 0 #[.val (.ref x0), .unset, .unset, .unset, .unset, .unset] [] := by first | (simp [entryFrame, mkF, argsToLocals, Value.category]; done) | rfl
theorem pn_1 : plainName "com/example/aloud/aloud/PathPatternByteClassesPinLaw" = true := by first | (simp [plainName, overriddenIn]; done) | decide +kernel
theorem ef_sg (m : MethodId) (x0 : Int32) (x1 : Int32) : entryFrame m #[(.int x0), (.int x1)] 2 = mkF m 0 #[.val (.int x0), .val (.int x1)] [] := by first | (simp [entryFrame, mkF, argsToLocals, Value.category]; done) | rfl
theorem d2_0 : decode method_2_code 0 = .ok (.iload_n 1, 1) := by decide +kernel
theorem d2_1 : decode method_2_code 1 = .ok (.iload_n 0, 1) := by decide +kernel
theorem d2_2 : decode method_2_code 2 = .ok (.bipush 15, 2) := by decide +kernel
theorem d2_4 : decode method_2_code 4 = .ok (.iand, 1) := by decide +kernel
theorem d2_5 : decode method_2_code 5 = .ok (.iushr, 1) := by decide +kernel
theorem d2_6 : decode method_2_code 6 = .ok (.iconst 1, 1) := by decide +kernel
theorem d2_7 : decode method_2_code 7 = .ok (.if_icmp .ne 7, 3) := by decide +kernel
theorem d2_10 : decode method_2_code 10 = .ok (.iconst 1, 1) := by decide +kernel
theorem d2_11 : decode method_2_code 11 = .ok (.goto 4, 3) := by decide +kernel
theorem d2_15 : decode method_2_code 15 = .ok (.ireturn, 1) := by decide +kernel
theorem d2_14 : decode method_2_code 14 = .ok (.iconst 0, 1) := by decide +kernel
theorem ef_law (m : MethodId) (x0 : Int32) (x1 : Int32) (x2 : Int32) (x3 : Int32) : entryFrame m #[(.int x0), (.int x1), (.int x2), (.int x3)] maxLocals = mkF m 0 #[.val (.int x0), .val (.int x1), .val (.int x2), .val (.int x3), .unset, .unset, .unset, .unset, .unset, .unset, .unset, .unset, .unset, .unset] [] := by first | (simp [entryFrame, mkF, argsToLocals, Value.category, maxLocals]; done) | rfl
theorem pd_0 : parseMethodDescriptor "([B)C" = some ⟨[(.array .byte)], some .char⟩ := by decide +kernel
theorem pd_1 : parseMethodDescriptor "(II)Z" = some ⟨[.int, .int], some .boolean⟩ := by decide +kernel
def Q_bc0 (Z : State) (a1 : Addr) (kA : ClassId) (h0 : Heap) (n0 : Nat) (v : Option Value) (h : Heap) (L : List Loc) : Prop := v = some (.int (chV (0 : Int32))) ∧ Fr n0 L ∧ h = h0
set_option maxRecDepth 65536 in
set_option maxHeartbeats 40000000 in
theorem rm_bc0 (l : Launch) (Z : State) (a0 : Array Value) (hw : ∀ d ∈ tables_1, d.before a0 Z = true) (ws : List Jvm.Cond) (a1 : Addr) (kA : ClassId) (h0 : Heap) (n0 : Nat) (Z0 : n0 ≤ h0.size) (V0 : Arv Z h0 a1 kA .byte (0 : Int32) [] (.int (0 : Int32))) :
    MetFree l (⟨"com/example/aloud/aloud/PathPattern", "byteClasses", "([B)C"⟩ : MethodName) (head1 (Jvm.Cond.code (⟨"com/example/aloud/aloud/PathPattern", "byteClasses", "([B)C"⟩ : MethodName) prog_15_method_9_code 6 (some .char) :: ws) ({ frames := 0, cells := 0, slots := 0, locals := 0 } : Room)) (fun aa U => aa = #[(.ref a1)] ∧ Z.Warmed39 U.vm ∧ U.heap = h0) (fun _ _ _ _ _ => True) (fun _ U o U' => ∃ v L, o = .returned v ∧ Q_bc0 Z a1 kA  h0 n0 v U'.heap L ∧ FrameEnd U o U' L ({ frames := 0, cells := 0, slots := 0, locals := 0 } : Room).cells ({ frames := 0, cells := 0, slots := 0, locals := 0 } : Room).slots) := by
  refine MetFree.of_bodySF (plainFor_of_name pn_0) hisR ?_
  intro p e s m args below meth c s₁ Bd hml0 hP hK
  obtain ⟨rfl, hZ, hh⟩ := hP
  have hx := Bd.exec
  have hby := Bd.bytes
  have hml : c.maxLocals = 6 := hml0
  have hown : s.vm.findClass "com/example/aloud/aloud/PathPattern" = some m.cls := findClass_of_methodNamed Bd.named
  have hnm := (name_of_methodNamed Bd.named Bd.method).1
  have hlk : meth.locks = false := BodyLoose.notSynchronized Bd
  have X0 : Stand p l e ({ frames := 0, cells := 0, slots := 0, locals := 0 } : Room) s m #[(.ref a1)] below meth c s₁ [] 0 0 := Stand.of_body Bd
  have e0 : s₁.heap = h0 := by rw [← hh, Bd.state]; rfl
  have N0 := Fr.nil n0
  have K0 : Keep h0 h0 [] := Keep.refl _ _
  show Gl p.tables e below (QQof s (Q_bc0 Z a1 kA  h0 n0) 0 0) (s₁.setTop (entryFrame m #[(.ref a1)] 6))
  refine Gl.go (fun t k => castTop (ef_bc0 m a1) k) ?_
  show Gl p.tables e below (QQof s (Q_bc0 Z a1 kA  h0 n0) 0 0) (s₁.setTop (mkF m 0 #[.val (.ref a1), .unset, .unset, .unset, .unset, .unset] []))
  refine Gl.go (fun _ k => XS.iconst X0.here hx rfl (hb hby d1_0) k) ?_
  show Gl p.tables e below (QQof s (Q_bc0 Z a1 kA  h0 n0) 0 0) (s₁.setTop (mkF m 1 #[.val (.ref a1), .unset, .unset, .unset, .unset, .unset] [(.int (0 : Int32))]))
  refine Gl.go (fun _ k => XS.istoreN X0.here hx rfl (hb hby d1_1) rfl (l' := #[.val (.ref a1), .val (.int (0 : Int32)), .unset, .unset, .unset, .unset]) rfl k) ?_
  show Gl p.tables e below (QQof s (Q_bc0 Z a1 kA  h0 n0) 0 0) (s₁.setTop (mkF m 2 #[.val (.ref a1), .val (.int (0 : Int32)), .unset, .unset, .unset, .unset] []))
  refine Gl.go (fun _ k => XS.aloadN X0.here hx rfl (hb hby d1_2) rfl rfl  k) ?_
  show Gl p.tables e below (QQof s (Q_bc0 Z a1 kA  h0 n0) 0 0) (s₁.setTop (mkF m 3 #[.val (.ref a1), .val (.int (0 : Int32)), .unset, .unset, .unset, .unset] [(.ref a1)]))
  refine Gl.go (fun _ k => XS.astoreN X0.here hx rfl (hb hby d1_3) rfl rfl (l' := #[.val (.ref a1), .val (.int (0 : Int32)), .val (.ref a1), .unset, .unset, .unset]) rfl k) ?_
  show Gl p.tables e below (QQof s (Q_bc0 Z a1 kA  h0 n0) 0 0) (s₁.setTop (mkF m 4 #[.val (.ref a1), .val (.int (0 : Int32)), .val (.ref a1), .unset, .unset, .unset] []))
  refine Gl.go (fun _ k => XS.aloadN X0.here hx rfl (hb hby d1_4) rfl rfl  k) ?_
  show Gl p.tables e below (QQof s (Q_bc0 Z a1 kA  h0 n0) 0 0) (s₁.setTop (mkF m 5 #[.val (.ref a1), .val (.int (0 : Int32)), .val (.ref a1), .unset, .unset, .unset] [(.ref a1)]))
  obtain ⟨cl1, Ar1, qA1, SA1, NA1, HA1, GA1⟩ := id V0
  refine Gl.go (fun _ k => X0.arraylength hx (by rw [e0]; exact Ar1.1) (State.isArrayOf_alike hZ.alike Ar1.2.1) (g := (mkF m 5 #[.val (.ref a1), .val (.int (0 : Int32)), .val (.ref a1), .unset, .unset, .unset] [(.ref a1)])) rfl rfl (hb hby d1_5) _ k) ?_
  rw [len_of SA1 NA1]
  show Gl p.tables e below (QQof s (Q_bc0 Z a1 kA  h0 n0) 0 0) (s₁.setTop (mkF m 6 #[.val (.ref a1), .val (.int (0 : Int32)), .val (.ref a1), .unset, .unset, .unset] [(.int (0 : Int32))]))
  refine Gl.go (fun _ k => XS.istoreN X0.here hx rfl (hb hby d1_6) rfl (l' := #[.val (.ref a1), .val (.int (0 : Int32)), .val (.ref a1), .val (.int (0 : Int32)), .unset, .unset]) rfl k) ?_
  show Gl p.tables e below (QQof s (Q_bc0 Z a1 kA  h0 n0) 0 0) (s₁.setTop (mkF m 7 #[.val (.ref a1), .val (.int (0 : Int32)), .val (.ref a1), .val (.int (0 : Int32)), .unset, .unset] []))
  refine Gl.go (fun _ k => XS.iconst X0.here hx rfl (hb hby d1_7) k) ?_
  show Gl p.tables e below (QQof s (Q_bc0 Z a1 kA  h0 n0) 0 0) (s₁.setTop (mkF m 8 #[.val (.ref a1), .val (.int (0 : Int32)), .val (.ref a1), .val (.int (0 : Int32)), .unset, .unset] [(.int (0 : Int32))]))
  refine Gl.go (fun _ k => XS.istore X0.here hx rfl (hb hby d1_8) rfl (l' := #[.val (.ref a1), .val (.int (0 : Int32)), .val (.ref a1), .val (.int (0 : Int32)), .val (.int (0 : Int32)), .unset]) rfl k) ?_
  show Gl p.tables e below (QQof s (Q_bc0 Z a1 kA  h0 n0) 0 0) (s₁.setTop (mkF m 10 #[.val (.ref a1), .val (.int (0 : Int32)), .val (.ref a1), .val (.int (0 : Int32)), .val (.int (0 : Int32)), .unset] []))
  refine Gl.go (fun _ k => XS.iload X0.here hx rfl (hb hby d1_10) rfl  k) ?_
  show Gl p.tables e below (QQof s (Q_bc0 Z a1 kA  h0 n0) 0 0) (s₁.setTop (mkF m 12 #[.val (.ref a1), .val (.int (0 : Int32)), .val (.ref a1), .val (.int (0 : Int32)), .val (.int (0 : Int32)), .unset] [(.int (0 : Int32))]))
  refine Gl.go (fun _ k => XS.iloadN X0.here hx rfl (hb hby d1_12) rfl  k) ?_
  show Gl p.tables e below (QQof s (Q_bc0 Z a1 kA  h0 n0) 0 0) (s₁.setTop (mkF m 13 #[.val (.ref a1), .val (.int (0 : Int32)), .val (.ref a1), .val (.int (0 : Int32)), .val (.int (0 : Int32)), .unset] [(.int (0 : Int32)), (.int (0 : Int32))]))
  refine Gl.go (fun _ k => XS.icmpYes X0.here hx rfl (pc0 := 13) (pc' := 38) rfl (hb hby d1_13) rfl (flt (by decide)).2.1 (by decide) (by decide) k) ?_
  show Gl p.tables e below (QQof s (Q_bc0 Z a1 kA  h0 n0) 0 0) (s₁.setTop (mkF m 38 #[.val (.ref a1), .val (.int (0 : Int32)), .val (.ref a1), .val (.int (0 : Int32)), .val (.int (0 : Int32)), .unset] []))
  refine Gl.go (fun _ k => XS.iloadN X0.here hx rfl (hb hby d1_38) rfl  k) ?_
  show Gl p.tables e below (QQof s (Q_bc0 Z a1 kA  h0 n0) 0 0) (s₁.setTop (mkF m 39 #[.val (.ref a1), .val (.int (0 : Int32)), .val (.ref a1), .val (.int (0 : Int32)), .val (.int (0 : Int32)), .unset] [(.int (0 : Int32))]))
  refine Gl.go (fun _ k => XS.i2c X0.here hx rfl (hb hby d1_39) rfl k) ?_
  show Gl p.tables e below (QQof s (Q_bc0 Z a1 kA  h0 n0) 0 0) (s₁.setTop (mkF m 40 #[.val (.ref a1), .val (.int (0 : Int32)), .val (.ref a1), .val (.int (0 : Int32)), .val (.int (0 : Int32)), .unset] [(.int ((0 : Int32).toUInt32.toUInt16.toUInt32.toInt32))]))
  refine leafN X0 hx hlk (t := .char) Bd.returns (by simp) (hb hby d1_40) ?_ (by decide) (by decide)
  exact ⟨rfl, N0, e0⟩
def Q_bc1 (Z : State) (a1 : Addr) (kA : ClassId) (u0 : Int32) (h0 : Heap) (n0 : Nat) (v : Option Value) (h : Heap) (L : List Loc) : Prop := v = some (.int (chV (orB (0 : Int32) u0))) ∧ Fr n0 L ∧ h = h0
set_option maxRecDepth 65536 in
set_option maxHeartbeats 40000000 in
theorem rm_bc1 (l : Launch) (Z : State) (a0 : Array Value) (hw : ∀ d ∈ tables_1, d.before a0 Z = true) (ws : List Jvm.Cond) (a1 : Addr) (kA : ClassId) (u0 : Int32) (h0 : Heap) (n0 : Nat) (Z0 : n0 ≤ h0.size) (V0 : Arv Z h0 a1 kA .byte (1 : Int32) [(.int u0)] (.int (0 : Int32))) :
    MetFree l (⟨"com/example/aloud/aloud/PathPattern", "byteClasses", "([B)C"⟩ : MethodName) (head1 (Jvm.Cond.code (⟨"com/example/aloud/aloud/PathPattern", "byteClasses", "([B)C"⟩ : MethodName) prog_15_method_9_code 6 (some .char) :: ws) ({ frames := 0, cells := 0, slots := 0, locals := 0 } : Room)) (fun aa U => aa = #[(.ref a1)] ∧ Z.Warmed39 U.vm ∧ U.heap = h0) (fun _ _ _ _ _ => True) (fun _ U o U' => ∃ v L, o = .returned v ∧ Q_bc1 Z a1 kA u0 h0 n0 v U'.heap L ∧ FrameEnd U o U' L ({ frames := 0, cells := 0, slots := 0, locals := 0 } : Room).cells ({ frames := 0, cells := 0, slots := 0, locals := 0 } : Room).slots) := by
  refine MetFree.of_bodySF (plainFor_of_name pn_0) hisR ?_
  intro p e s m args below meth c s₁ Bd hml0 hP hK
  obtain ⟨rfl, hZ, hh⟩ := hP
  have hx := Bd.exec
  have hby := Bd.bytes
  have hml : c.maxLocals = 6 := hml0
  have hown : s.vm.findClass "com/example/aloud/aloud/PathPattern" = some m.cls := findClass_of_methodNamed Bd.named
  have hnm := (name_of_methodNamed Bd.named Bd.method).1
  have hlk : meth.locks = false := BodyLoose.notSynchronized Bd
  have X0 : Stand p l e ({ frames := 0, cells := 0, slots := 0, locals := 0 } : Room) s m #[(.ref a1)] below meth c s₁ [] 0 0 := Stand.of_body Bd
  have e0 : s₁.heap = h0 := by rw [← hh, Bd.state]; rfl
  have N0 := Fr.nil n0
  have K0 : Keep h0 h0 [] := Keep.refl _ _
  show Gl p.tables e below (QQof s (Q_bc1 Z a1 kA u0 h0 n0) 0 0) (s₁.setTop (entryFrame m #[(.ref a1)] 6))
  refine Gl.go (fun t k => castTop (ef_bc1 m a1) k) ?_
  show Gl p.tables e below (QQof s (Q_bc1 Z a1 kA u0 h0 n0) 0 0) (s₁.setTop (mkF m 0 #[.val (.ref a1), .unset, .unset, .unset, .unset, .unset] []))
  refine Gl.go (fun _ k => XS.iconst X0.here hx rfl (hb hby d1_0) k) ?_
  show Gl p.tables e below (QQof s (Q_bc1 Z a1 kA u0 h0 n0) 0 0) (s₁.setTop (mkF m 1 #[.val (.ref a1), .unset, .unset, .unset, .unset, .unset] [(.int (0 : Int32))]))
  refine Gl.go (fun _ k => XS.istoreN X0.here hx rfl (hb hby d1_1) rfl (l' := #[.val (.ref a1), .val (.int (0 : Int32)), .unset, .unset, .unset, .unset]) rfl k) ?_
  show Gl p.tables e below (QQof s (Q_bc1 Z a1 kA u0 h0 n0) 0 0) (s₁.setTop (mkF m 2 #[.val (.ref a1), .val (.int (0 : Int32)), .unset, .unset, .unset, .unset] []))
  refine Gl.go (fun _ k => XS.aloadN X0.here hx rfl (hb hby d1_2) rfl rfl  k) ?_
  show Gl p.tables e below (QQof s (Q_bc1 Z a1 kA u0 h0 n0) 0 0) (s₁.setTop (mkF m 3 #[.val (.ref a1), .val (.int (0 : Int32)), .unset, .unset, .unset, .unset] [(.ref a1)]))
  refine Gl.go (fun _ k => XS.astoreN X0.here hx rfl (hb hby d1_3) rfl rfl (l' := #[.val (.ref a1), .val (.int (0 : Int32)), .val (.ref a1), .unset, .unset, .unset]) rfl k) ?_
  show Gl p.tables e below (QQof s (Q_bc1 Z a1 kA u0 h0 n0) 0 0) (s₁.setTop (mkF m 4 #[.val (.ref a1), .val (.int (0 : Int32)), .val (.ref a1), .unset, .unset, .unset] []))
  refine Gl.go (fun _ k => XS.aloadN X0.here hx rfl (hb hby d1_4) rfl rfl  k) ?_
  show Gl p.tables e below (QQof s (Q_bc1 Z a1 kA u0 h0 n0) 0 0) (s₁.setTop (mkF m 5 #[.val (.ref a1), .val (.int (0 : Int32)), .val (.ref a1), .unset, .unset, .unset] [(.ref a1)]))
  obtain ⟨cl1, Ar1, qA1, SA1, NA1, HA1, GA1⟩ := id V0
  refine Gl.go (fun _ k => X0.arraylength hx (by rw [e0]; exact Ar1.1) (State.isArrayOf_alike hZ.alike Ar1.2.1) (g := (mkF m 5 #[.val (.ref a1), .val (.int (0 : Int32)), .val (.ref a1), .unset, .unset, .unset] [(.ref a1)])) rfl rfl (hb hby d1_5) _ k) ?_
  rw [len_of SA1 NA1]
  show Gl p.tables e below (QQof s (Q_bc1 Z a1 kA u0 h0 n0) 0 0) (s₁.setTop (mkF m 6 #[.val (.ref a1), .val (.int (0 : Int32)), .val (.ref a1), .unset, .unset, .unset] [(.int (1 : Int32))]))
  refine Gl.go (fun _ k => XS.istoreN X0.here hx rfl (hb hby d1_6) rfl (l' := #[.val (.ref a1), .val (.int (0 : Int32)), .val (.ref a1), .val (.int (1 : Int32)), .unset, .unset]) rfl k) ?_
  show Gl p.tables e below (QQof s (Q_bc1 Z a1 kA u0 h0 n0) 0 0) (s₁.setTop (mkF m 7 #[.val (.ref a1), .val (.int (0 : Int32)), .val (.ref a1), .val (.int (1 : Int32)), .unset, .unset] []))
  refine Gl.go (fun _ k => XS.iconst X0.here hx rfl (hb hby d1_7) k) ?_
  show Gl p.tables e below (QQof s (Q_bc1 Z a1 kA u0 h0 n0) 0 0) (s₁.setTop (mkF m 8 #[.val (.ref a1), .val (.int (0 : Int32)), .val (.ref a1), .val (.int (1 : Int32)), .unset, .unset] [(.int (0 : Int32))]))
  refine Gl.go (fun _ k => XS.istore X0.here hx rfl (hb hby d1_8) rfl (l' := #[.val (.ref a1), .val (.int (0 : Int32)), .val (.ref a1), .val (.int (1 : Int32)), .val (.int (0 : Int32)), .unset]) rfl k) ?_
  show Gl p.tables e below (QQof s (Q_bc1 Z a1 kA u0 h0 n0) 0 0) (s₁.setTop (mkF m 10 #[.val (.ref a1), .val (.int (0 : Int32)), .val (.ref a1), .val (.int (1 : Int32)), .val (.int (0 : Int32)), .unset] []))
  refine Gl.go (fun _ k => XS.iload X0.here hx rfl (hb hby d1_10) rfl  k) ?_
  show Gl p.tables e below (QQof s (Q_bc1 Z a1 kA u0 h0 n0) 0 0) (s₁.setTop (mkF m 12 #[.val (.ref a1), .val (.int (0 : Int32)), .val (.ref a1), .val (.int (1 : Int32)), .val (.int (0 : Int32)), .unset] [(.int (0 : Int32))]))
  refine Gl.go (fun _ k => XS.iloadN X0.here hx rfl (hb hby d1_12) rfl  k) ?_
  show Gl p.tables e below (QQof s (Q_bc1 Z a1 kA u0 h0 n0) 0 0) (s₁.setTop (mkF m 13 #[.val (.ref a1), .val (.int (0 : Int32)), .val (.ref a1), .val (.int (1 : Int32)), .val (.int (0 : Int32)), .unset] [(.int (1 : Int32)), (.int (0 : Int32))]))
  refine Gl.go (fun _ k => XS.icmpNo X0.here hx rfl (hb hby d1_13) rfl (tlt (by decide)).2.1 k) ?_
  show Gl p.tables e below (QQof s (Q_bc1 Z a1 kA u0 h0 n0) 0 0) (s₁.setTop (mkF m 16 #[.val (.ref a1), .val (.int (0 : Int32)), .val (.ref a1), .val (.int (1 : Int32)), .val (.int (0 : Int32)), .unset] []))
  refine Gl.go (fun _ k => XS.aloadN X0.here hx rfl (hb hby d1_16) rfl rfl  k) ?_
  show Gl p.tables e below (QQof s (Q_bc1 Z a1 kA u0 h0 n0) 0 0) (s₁.setTop (mkF m 17 #[.val (.ref a1), .val (.int (0 : Int32)), .val (.ref a1), .val (.int (1 : Int32)), .val (.int (0 : Int32)), .unset] [(.ref a1)]))
  refine Gl.go (fun _ k => XS.iload X0.here hx rfl (hb hby d1_17) rfl  k) ?_
  show Gl p.tables e below (QQof s (Q_bc1 Z a1 kA u0 h0 n0) 0 0) (s₁.setTop (mkF m 19 #[.val (.ref a1), .val (.int (0 : Int32)), .val (.ref a1), .val (.int (1 : Int32)), .val (.int (0 : Int32)), .unset] [(.int (0 : Int32)), (.ref a1)]))
  obtain ⟨cl2, Ar2, qA2, SA2, NA2, HA2, GA2⟩ := id V0
  have hin2 := inb_of (j := (0 : Int32)) SA2 ⟨by decide, by decide⟩
  have hat2 : cl2.slots[((0 : Int32)).toNatClampNeg]? = some (.int u0) := HA2.at hin2 rfl
  refine Gl.go (fun _ k => X0.baloadBytes hx (j := (0 : Int32)) (v := (.int u0)) (by rw [e0]; exact Ar2.1) (State.isArrayOf_alike hZ.alike Ar2.2.1) Ar2.2.2 hin2 hat2 (g := (mkF m 19 #[.val (.ref a1), .val (.int (0 : Int32)), .val (.ref a1), .val (.int (1 : Int32)), .val (.int (0 : Int32)), .unset] [(.int (0 : Int32)), (.ref a1)])) rfl rfl (hb hby d1_19) _ k) ?_
  show Gl p.tables e below (QQof s (Q_bc1 Z a1 kA u0 h0 n0) 0 0) (s₁.setTop (mkF m 20 #[.val (.ref a1), .val (.int (0 : Int32)), .val (.ref a1), .val (.int (1 : Int32)), .val (.int (0 : Int32)), .unset] [(.int u0)]))
  refine Gl.go (fun _ k => XS.istore X0.here hx rfl (hb hby d1_20) rfl (l' := #[.val (.ref a1), .val (.int (0 : Int32)), .val (.ref a1), .val (.int (1 : Int32)), .val (.int (0 : Int32)), .val (.int u0)]) rfl k) ?_
  show Gl p.tables e below (QQof s (Q_bc1 Z a1 kA u0 h0 n0) 0 0) (s₁.setTop (mkF m 22 #[.val (.ref a1), .val (.int (0 : Int32)), .val (.ref a1), .val (.int (1 : Int32)), .val (.int (0 : Int32)), .val (.int u0)] []))
  refine Gl.go (fun _ k => XS.iloadN X0.here hx rfl (hb hby d1_22) rfl  k) ?_
  show Gl p.tables e below (QQof s (Q_bc1 Z a1 kA u0 h0 n0) 0 0) (s₁.setTop (mkF m 23 #[.val (.ref a1), .val (.int (0 : Int32)), .val (.ref a1), .val (.int (1 : Int32)), .val (.int (0 : Int32)), .val (.int u0)] [(.int (0 : Int32))]))
  refine Gl.go (fun _ k => XS.iconst X0.here hx rfl (hb hby d1_23) k) ?_
  show Gl p.tables e below (QQof s (Q_bc1 Z a1 kA u0 h0 n0) 0 0) (s₁.setTop (mkF m 24 #[.val (.ref a1), .val (.int (0 : Int32)), .val (.ref a1), .val (.int (1 : Int32)), .val (.int (0 : Int32)), .val (.int u0)] [(.int (1 : Int32)), (.int (0 : Int32))]))
  refine Gl.go (fun _ k => XS.iload X0.here hx rfl (hb hby d1_24) rfl  k) ?_
  show Gl p.tables e below (QQof s (Q_bc1 Z a1 kA u0 h0 n0) 0 0) (s₁.setTop (mkF m 26 #[.val (.ref a1), .val (.int (0 : Int32)), .val (.ref a1), .val (.int (1 : Int32)), .val (.int (0 : Int32)), .val (.int u0)] [(.int u0), (.int (1 : Int32)), (.int (0 : Int32))]))
  refine Gl.go (fun _ k => XS.bipush X0.here hx rfl (hb hby d1_26) k) ?_
  show Gl p.tables e below (QQof s (Q_bc1 Z a1 kA u0 h0 n0) 0 0) (s₁.setTop (mkF m 28 #[.val (.ref a1), .val (.int (0 : Int32)), .val (.ref a1), .val (.int (1 : Int32)), .val (.int (0 : Int32)), .val (.int u0)] [(.int (15 : Int32)), (.int u0), (.int (1 : Int32)), (.int (0 : Int32))]))
  refine Gl.go (fun _ k => XS.iand X0.here hx rfl (hb hby d1_28) rfl k) ?_
  show Gl p.tables e below (QQof s (Q_bc1 Z a1 kA u0 h0 n0) 0 0) (s₁.setTop (mkF m 29 #[.val (.ref a1), .val (.int (0 : Int32)), .val (.ref a1), .val (.int (1 : Int32)), .val (.int (0 : Int32)), .val (.int u0)] [(.int (u0 &&& (15 : Int32))), (.int (1 : Int32)), (.int (0 : Int32))]))
  refine Gl.go (fun _ k => XS.ishl X0.here hx rfl (hb hby d1_29) rfl k) ?_
  show Gl p.tables e below (QQof s (Q_bc1 Z a1 kA u0 h0 n0) 0 0) (s₁.setTop (mkF m 30 #[.val (.ref a1), .val (.int (0 : Int32)), .val (.ref a1), .val (.int (1 : Int32)), .val (.int (0 : Int32)), .val (.int u0)] [(.int ((1 : Int32) <<< ((u0 &&& (15 : Int32)) &&& 31))), (.int (0 : Int32))]))
  refine Gl.go (fun _ k => XS.ior X0.here hx rfl (hb hby d1_30) rfl k) ?_
  show Gl p.tables e below (QQof s (Q_bc1 Z a1 kA u0 h0 n0) 0 0) (s₁.setTop (mkF m 31 #[.val (.ref a1), .val (.int (0 : Int32)), .val (.ref a1), .val (.int (1 : Int32)), .val (.int (0 : Int32)), .val (.int u0)] [(.int ((0 : Int32) ||| ((1 : Int32) <<< ((u0 &&& (15 : Int32)) &&& 31))))]))
  show Gl p.tables e below (QQof s (Q_bc1 Z a1 kA u0 h0 n0) 0 0) (s₁.setTop (mkF m 31 #[.val (.ref a1), .val (.int (0 : Int32)), .val (.ref a1), .val (.int (1 : Int32)), .val (.int (0 : Int32)), .val (.int u0)] [(.int (orB (0 : Int32) u0))]))
  refine Gl.go (fun _ k => XS.istoreN X0.here hx rfl (hb hby d1_31) rfl (l' := #[.val (.ref a1), .val (.int (orB (0 : Int32) u0)), .val (.ref a1), .val (.int (1 : Int32)), .val (.int (0 : Int32)), .val (.int u0)]) rfl k) ?_
  show Gl p.tables e below (QQof s (Q_bc1 Z a1 kA u0 h0 n0) 0 0) (s₁.setTop (mkF m 32 #[.val (.ref a1), .val (.int (orB (0 : Int32) u0)), .val (.ref a1), .val (.int (1 : Int32)), .val (.int (0 : Int32)), .val (.int u0)] []))
  refine Gl.go (fun _ k => XS.iinc X0.here hx rfl (hb hby d1_32) rfl (l' := #[.val (.ref a1), .val (.int (orB (0 : Int32) u0)), .val (.ref a1), .val (.int (1 : Int32)), .val (.int ((0 : Int32) + (1 : Int32))), .val (.int u0)]) rfl k) ?_
  show Gl p.tables e below (QQof s (Q_bc1 Z a1 kA u0 h0 n0) 0 0) (s₁.setTop (mkF m 35 #[.val (.ref a1), .val (.int (orB (0 : Int32) u0)), .val (.ref a1), .val (.int (1 : Int32)), .val (.int ((0 : Int32) + (1 : Int32))), .val (.int u0)] []))
  rw [(by decide : ((0 : Int32) + (1 : Int32)) = (1 : Int32))]
  show Gl p.tables e below (QQof s (Q_bc1 Z a1 kA u0 h0 n0) 0 0) (s₁.setTop (mkF m 35 #[.val (.ref a1), .val (.int (orB (0 : Int32) u0)), .val (.ref a1), .val (.int (1 : Int32)), .val (.int (1 : Int32)), .val (.int u0)] []))
  refine Gl.go (fun _ k => XS.goto X0.here hx rfl (pc0 := 35) (pc' := 10) rfl (hb hby d1_35) (by decide) (by decide) k) ?_
  show Gl p.tables e below (QQof s (Q_bc1 Z a1 kA u0 h0 n0) 0 0) (s₁.setTop (mkF m 10 #[.val (.ref a1), .val (.int (orB (0 : Int32) u0)), .val (.ref a1), .val (.int (1 : Int32)), .val (.int (1 : Int32)), .val (.int u0)] []))
  refine Gl.go (fun _ k => XS.iload X0.here hx rfl (hb hby d1_10) rfl  k) ?_
  show Gl p.tables e below (QQof s (Q_bc1 Z a1 kA u0 h0 n0) 0 0) (s₁.setTop (mkF m 12 #[.val (.ref a1), .val (.int (orB (0 : Int32) u0)), .val (.ref a1), .val (.int (1 : Int32)), .val (.int (1 : Int32)), .val (.int u0)] [(.int (1 : Int32))]))
  refine Gl.go (fun _ k => XS.iloadN X0.here hx rfl (hb hby d1_12) rfl  k) ?_
  show Gl p.tables e below (QQof s (Q_bc1 Z a1 kA u0 h0 n0) 0 0) (s₁.setTop (mkF m 13 #[.val (.ref a1), .val (.int (orB (0 : Int32) u0)), .val (.ref a1), .val (.int (1 : Int32)), .val (.int (1 : Int32)), .val (.int u0)] [(.int (1 : Int32)), (.int (1 : Int32))]))
  refine Gl.go (fun _ k => XS.icmpYes X0.here hx rfl (pc0 := 13) (pc' := 38) rfl (hb hby d1_13) rfl (flt (by decide)).2.1 (by decide) (by decide) k) ?_
  show Gl p.tables e below (QQof s (Q_bc1 Z a1 kA u0 h0 n0) 0 0) (s₁.setTop (mkF m 38 #[.val (.ref a1), .val (.int (orB (0 : Int32) u0)), .val (.ref a1), .val (.int (1 : Int32)), .val (.int (1 : Int32)), .val (.int u0)] []))
  refine Gl.go (fun _ k => XS.iloadN X0.here hx rfl (hb hby d1_38) rfl  k) ?_
  show Gl p.tables e below (QQof s (Q_bc1 Z a1 kA u0 h0 n0) 0 0) (s₁.setTop (mkF m 39 #[.val (.ref a1), .val (.int (orB (0 : Int32) u0)), .val (.ref a1), .val (.int (1 : Int32)), .val (.int (1 : Int32)), .val (.int u0)] [(.int (orB (0 : Int32) u0))]))
  refine Gl.go (fun _ k => XS.i2c X0.here hx rfl (hb hby d1_39) rfl k) ?_
  show Gl p.tables e below (QQof s (Q_bc1 Z a1 kA u0 h0 n0) 0 0) (s₁.setTop (mkF m 40 #[.val (.ref a1), .val (.int (orB (0 : Int32) u0)), .val (.ref a1), .val (.int (1 : Int32)), .val (.int (1 : Int32)), .val (.int u0)] [(.int ((orB (0 : Int32) u0).toUInt32.toUInt16.toUInt32.toInt32))]))
  refine leafN X0 hx hlk (t := .char) Bd.returns (by simp) (hb hby d1_40) ?_ (by decide) (by decide)
  exact ⟨rfl, N0, e0⟩
def Q_bc2 (Z : State) (a1 : Addr) (kA : ClassId) (u0 u1 : Int32) (h0 : Heap) (n0 : Nat) (v : Option Value) (h : Heap) (L : List Loc) : Prop := v = some (.int (chV (orB (orB (0 : Int32) u0) u1))) ∧ Fr n0 L ∧ h = h0
set_option maxRecDepth 65536 in
set_option maxHeartbeats 40000000 in
theorem rm_bc2 (l : Launch) (Z : State) (a0 : Array Value) (hw : ∀ d ∈ tables_1, d.before a0 Z = true) (ws : List Jvm.Cond) (a1 : Addr) (kA : ClassId) (u0 u1 : Int32) (h0 : Heap) (n0 : Nat) (Z0 : n0 ≤ h0.size) (V0 : Arv Z h0 a1 kA .byte (2 : Int32) [(.int u0), (.int u1)] (.int (0 : Int32))) :
    MetFree l (⟨"com/example/aloud/aloud/PathPattern", "byteClasses", "([B)C"⟩ : MethodName) (head1 (Jvm.Cond.code (⟨"com/example/aloud/aloud/PathPattern", "byteClasses", "([B)C"⟩ : MethodName) prog_15_method_9_code 6 (some .char) :: ws) ({ frames := 0, cells := 0, slots := 0, locals := 0 } : Room)) (fun aa U => aa = #[(.ref a1)] ∧ Z.Warmed39 U.vm ∧ U.heap = h0) (fun _ _ _ _ _ => True) (fun _ U o U' => ∃ v L, o = .returned v ∧ Q_bc2 Z a1 kA u0 u1 h0 n0 v U'.heap L ∧ FrameEnd U o U' L ({ frames := 0, cells := 0, slots := 0, locals := 0 } : Room).cells ({ frames := 0, cells := 0, slots := 0, locals := 0 } : Room).slots) := by
  refine MetFree.of_bodySF (plainFor_of_name pn_0) hisR ?_
  intro p e s m args below meth c s₁ Bd hml0 hP hK
  obtain ⟨rfl, hZ, hh⟩ := hP
  have hx := Bd.exec
  have hby := Bd.bytes
  have hml : c.maxLocals = 6 := hml0
  have hown : s.vm.findClass "com/example/aloud/aloud/PathPattern" = some m.cls := findClass_of_methodNamed Bd.named
  have hnm := (name_of_methodNamed Bd.named Bd.method).1
  have hlk : meth.locks = false := BodyLoose.notSynchronized Bd
  have X0 : Stand p l e ({ frames := 0, cells := 0, slots := 0, locals := 0 } : Room) s m #[(.ref a1)] below meth c s₁ [] 0 0 := Stand.of_body Bd
  have e0 : s₁.heap = h0 := by rw [← hh, Bd.state]; rfl
  have N0 := Fr.nil n0
  have K0 : Keep h0 h0 [] := Keep.refl _ _
  show Gl p.tables e below (QQof s (Q_bc2 Z a1 kA u0 u1 h0 n0) 0 0) (s₁.setTop (entryFrame m #[(.ref a1)] 6))
  refine Gl.go (fun t k => castTop (ef_bc2 m a1) k) ?_
  show Gl p.tables e below (QQof s (Q_bc2 Z a1 kA u0 u1 h0 n0) 0 0) (s₁.setTop (mkF m 0 #[.val (.ref a1), .unset, .unset, .unset, .unset, .unset] []))
  refine Gl.go (fun _ k => XS.iconst X0.here hx rfl (hb hby d1_0) k) ?_
  show Gl p.tables e below (QQof s (Q_bc2 Z a1 kA u0 u1 h0 n0) 0 0) (s₁.setTop (mkF m 1 #[.val (.ref a1), .unset, .unset, .unset, .unset, .unset] [(.int (0 : Int32))]))
  refine Gl.go (fun _ k => XS.istoreN X0.here hx rfl (hb hby d1_1) rfl (l' := #[.val (.ref a1), .val (.int (0 : Int32)), .unset, .unset, .unset, .unset]) rfl k) ?_
  show Gl p.tables e below (QQof s (Q_bc2 Z a1 kA u0 u1 h0 n0) 0 0) (s₁.setTop (mkF m 2 #[.val (.ref a1), .val (.int (0 : Int32)), .unset, .unset, .unset, .unset] []))
  refine Gl.go (fun _ k => XS.aloadN X0.here hx rfl (hb hby d1_2) rfl rfl  k) ?_
  show Gl p.tables e below (QQof s (Q_bc2 Z a1 kA u0 u1 h0 n0) 0 0) (s₁.setTop (mkF m 3 #[.val (.ref a1), .val (.int (0 : Int32)), .unset, .unset, .unset, .unset] [(.ref a1)]))
  refine Gl.go (fun _ k => XS.astoreN X0.here hx rfl (hb hby d1_3) rfl rfl (l' := #[.val (.ref a1), .val (.int (0 : Int32)), .val (.ref a1), .unset, .unset, .unset]) rfl k) ?_
  show Gl p.tables e below (QQof s (Q_bc2 Z a1 kA u0 u1 h0 n0) 0 0) (s₁.setTop (mkF m 4 #[.val (.ref a1), .val (.int (0 : Int32)), .val (.ref a1), .unset, .unset, .unset] []))
  refine Gl.go (fun _ k => XS.aloadN X0.here hx rfl (hb hby d1_4) rfl rfl  k) ?_
  show Gl p.tables e below (QQof s (Q_bc2 Z a1 kA u0 u1 h0 n0) 0 0) (s₁.setTop (mkF m 5 #[.val (.ref a1), .val (.int (0 : Int32)), .val (.ref a1), .unset, .unset, .unset] [(.ref a1)]))
  obtain ⟨cl1, Ar1, qA1, SA1, NA1, HA1, GA1⟩ := id V0
  refine Gl.go (fun _ k => X0.arraylength hx (by rw [e0]; exact Ar1.1) (State.isArrayOf_alike hZ.alike Ar1.2.1) (g := (mkF m 5 #[.val (.ref a1), .val (.int (0 : Int32)), .val (.ref a1), .unset, .unset, .unset] [(.ref a1)])) rfl rfl (hb hby d1_5) _ k) ?_
  rw [len_of SA1 NA1]
  show Gl p.tables e below (QQof s (Q_bc2 Z a1 kA u0 u1 h0 n0) 0 0) (s₁.setTop (mkF m 6 #[.val (.ref a1), .val (.int (0 : Int32)), .val (.ref a1), .unset, .unset, .unset] [(.int (2 : Int32))]))
  refine Gl.go (fun _ k => XS.istoreN X0.here hx rfl (hb hby d1_6) rfl (l' := #[.val (.ref a1), .val (.int (0 : Int32)), .val (.ref a1), .val (.int (2 : Int32)), .unset, .unset]) rfl k) ?_
  show Gl p.tables e below (QQof s (Q_bc2 Z a1 kA u0 u1 h0 n0) 0 0) (s₁.setTop (mkF m 7 #[.val (.ref a1), .val (.int (0 : Int32)), .val (.ref a1), .val (.int (2 : Int32)), .unset, .unset] []))
  refine Gl.go (fun _ k => XS.iconst X0.here hx rfl (hb hby d1_7) k) ?_
  show Gl p.tables e below (QQof s (Q_bc2 Z a1 kA u0 u1 h0 n0) 0 0) (s₁.setTop (mkF m 8 #[.val (.ref a1), .val (.int (0 : Int32)), .val (.ref a1), .val (.int (2 : Int32)), .unset, .unset] [(.int (0 : Int32))]))
  refine Gl.go (fun _ k => XS.istore X0.here hx rfl (hb hby d1_8) rfl (l' := #[.val (.ref a1), .val (.int (0 : Int32)), .val (.ref a1), .val (.int (2 : Int32)), .val (.int (0 : Int32)), .unset]) rfl k) ?_
  show Gl p.tables e below (QQof s (Q_bc2 Z a1 kA u0 u1 h0 n0) 0 0) (s₁.setTop (mkF m 10 #[.val (.ref a1), .val (.int (0 : Int32)), .val (.ref a1), .val (.int (2 : Int32)), .val (.int (0 : Int32)), .unset] []))
  refine Gl.go (fun _ k => XS.iload X0.here hx rfl (hb hby d1_10) rfl  k) ?_
  show Gl p.tables e below (QQof s (Q_bc2 Z a1 kA u0 u1 h0 n0) 0 0) (s₁.setTop (mkF m 12 #[.val (.ref a1), .val (.int (0 : Int32)), .val (.ref a1), .val (.int (2 : Int32)), .val (.int (0 : Int32)), .unset] [(.int (0 : Int32))]))
  refine Gl.go (fun _ k => XS.iloadN X0.here hx rfl (hb hby d1_12) rfl  k) ?_
  show Gl p.tables e below (QQof s (Q_bc2 Z a1 kA u0 u1 h0 n0) 0 0) (s₁.setTop (mkF m 13 #[.val (.ref a1), .val (.int (0 : Int32)), .val (.ref a1), .val (.int (2 : Int32)), .val (.int (0 : Int32)), .unset] [(.int (2 : Int32)), (.int (0 : Int32))]))
  refine Gl.go (fun _ k => XS.icmpNo X0.here hx rfl (hb hby d1_13) rfl (tlt (by decide)).2.1 k) ?_
  show Gl p.tables e below (QQof s (Q_bc2 Z a1 kA u0 u1 h0 n0) 0 0) (s₁.setTop (mkF m 16 #[.val (.ref a1), .val (.int (0 : Int32)), .val (.ref a1), .val (.int (2 : Int32)), .val (.int (0 : Int32)), .unset] []))
  refine Gl.go (fun _ k => XS.aloadN X0.here hx rfl (hb hby d1_16) rfl rfl  k) ?_
  show Gl p.tables e below (QQof s (Q_bc2 Z a1 kA u0 u1 h0 n0) 0 0) (s₁.setTop (mkF m 17 #[.val (.ref a1), .val (.int (0 : Int32)), .val (.ref a1), .val (.int (2 : Int32)), .val (.int (0 : Int32)), .unset] [(.ref a1)]))
  refine Gl.go (fun _ k => XS.iload X0.here hx rfl (hb hby d1_17) rfl  k) ?_
  show Gl p.tables e below (QQof s (Q_bc2 Z a1 kA u0 u1 h0 n0) 0 0) (s₁.setTop (mkF m 19 #[.val (.ref a1), .val (.int (0 : Int32)), .val (.ref a1), .val (.int (2 : Int32)), .val (.int (0 : Int32)), .unset] [(.int (0 : Int32)), (.ref a1)]))
  obtain ⟨cl2, Ar2, qA2, SA2, NA2, HA2, GA2⟩ := id V0
  have hin2 := inb_of (j := (0 : Int32)) SA2 ⟨by decide, by decide⟩
  have hat2 : cl2.slots[((0 : Int32)).toNatClampNeg]? = some (.int u0) := HA2.at hin2 rfl
  refine Gl.go (fun _ k => X0.baloadBytes hx (j := (0 : Int32)) (v := (.int u0)) (by rw [e0]; exact Ar2.1) (State.isArrayOf_alike hZ.alike Ar2.2.1) Ar2.2.2 hin2 hat2 (g := (mkF m 19 #[.val (.ref a1), .val (.int (0 : Int32)), .val (.ref a1), .val (.int (2 : Int32)), .val (.int (0 : Int32)), .unset] [(.int (0 : Int32)), (.ref a1)])) rfl rfl (hb hby d1_19) _ k) ?_
  show Gl p.tables e below (QQof s (Q_bc2 Z a1 kA u0 u1 h0 n0) 0 0) (s₁.setTop (mkF m 20 #[.val (.ref a1), .val (.int (0 : Int32)), .val (.ref a1), .val (.int (2 : Int32)), .val (.int (0 : Int32)), .unset] [(.int u0)]))
  refine Gl.go (fun _ k => XS.istore X0.here hx rfl (hb hby d1_20) rfl (l' := #[.val (.ref a1), .val (.int (0 : Int32)), .val (.ref a1), .val (.int (2 : Int32)), .val (.int (0 : Int32)), .val (.int u0)]) rfl k) ?_
  show Gl p.tables e below (QQof s (Q_bc2 Z a1 kA u0 u1 h0 n0) 0 0) (s₁.setTop (mkF m 22 #[.val (.ref a1), .val (.int (0 : Int32)), .val (.ref a1), .val (.int (2 : Int32)), .val (.int (0 : Int32)), .val (.int u0)] []))
  refine Gl.go (fun _ k => XS.iloadN X0.here hx rfl (hb hby d1_22) rfl  k) ?_
  show Gl p.tables e below (QQof s (Q_bc2 Z a1 kA u0 u1 h0 n0) 0 0) (s₁.setTop (mkF m 23 #[.val (.ref a1), .val (.int (0 : Int32)), .val (.ref a1), .val (.int (2 : Int32)), .val (.int (0 : Int32)), .val (.int u0)] [(.int (0 : Int32))]))
  refine Gl.go (fun _ k => XS.iconst X0.here hx rfl (hb hby d1_23) k) ?_
  show Gl p.tables e below (QQof s (Q_bc2 Z a1 kA u0 u1 h0 n0) 0 0) (s₁.setTop (mkF m 24 #[.val (.ref a1), .val (.int (0 : Int32)), .val (.ref a1), .val (.int (2 : Int32)), .val (.int (0 : Int32)), .val (.int u0)] [(.int (1 : Int32)), (.int (0 : Int32))]))
  refine Gl.go (fun _ k => XS.iload X0.here hx rfl (hb hby d1_24) rfl  k) ?_
  show Gl p.tables e below (QQof s (Q_bc2 Z a1 kA u0 u1 h0 n0) 0 0) (s₁.setTop (mkF m 26 #[.val (.ref a1), .val (.int (0 : Int32)), .val (.ref a1), .val (.int (2 : Int32)), .val (.int (0 : Int32)), .val (.int u0)] [(.int u0), (.int (1 : Int32)), (.int (0 : Int32))]))
  refine Gl.go (fun _ k => XS.bipush X0.here hx rfl (hb hby d1_26) k) ?_
  show Gl p.tables e below (QQof s (Q_bc2 Z a1 kA u0 u1 h0 n0) 0 0) (s₁.setTop (mkF m 28 #[.val (.ref a1), .val (.int (0 : Int32)), .val (.ref a1), .val (.int (2 : Int32)), .val (.int (0 : Int32)), .val (.int u0)] [(.int (15 : Int32)), (.int u0), (.int (1 : Int32)), (.int (0 : Int32))]))
  refine Gl.go (fun _ k => XS.iand X0.here hx rfl (hb hby d1_28) rfl k) ?_
  show Gl p.tables e below (QQof s (Q_bc2 Z a1 kA u0 u1 h0 n0) 0 0) (s₁.setTop (mkF m 29 #[.val (.ref a1), .val (.int (0 : Int32)), .val (.ref a1), .val (.int (2 : Int32)), .val (.int (0 : Int32)), .val (.int u0)] [(.int (u0 &&& (15 : Int32))), (.int (1 : Int32)), (.int (0 : Int32))]))
  refine Gl.go (fun _ k => XS.ishl X0.here hx rfl (hb hby d1_29) rfl k) ?_
  show Gl p.tables e below (QQof s (Q_bc2 Z a1 kA u0 u1 h0 n0) 0 0) (s₁.setTop (mkF m 30 #[.val (.ref a1), .val (.int (0 : Int32)), .val (.ref a1), .val (.int (2 : Int32)), .val (.int (0 : Int32)), .val (.int u0)] [(.int ((1 : Int32) <<< ((u0 &&& (15 : Int32)) &&& 31))), (.int (0 : Int32))]))
  refine Gl.go (fun _ k => XS.ior X0.here hx rfl (hb hby d1_30) rfl k) ?_
  show Gl p.tables e below (QQof s (Q_bc2 Z a1 kA u0 u1 h0 n0) 0 0) (s₁.setTop (mkF m 31 #[.val (.ref a1), .val (.int (0 : Int32)), .val (.ref a1), .val (.int (2 : Int32)), .val (.int (0 : Int32)), .val (.int u0)] [(.int ((0 : Int32) ||| ((1 : Int32) <<< ((u0 &&& (15 : Int32)) &&& 31))))]))
  show Gl p.tables e below (QQof s (Q_bc2 Z a1 kA u0 u1 h0 n0) 0 0) (s₁.setTop (mkF m 31 #[.val (.ref a1), .val (.int (0 : Int32)), .val (.ref a1), .val (.int (2 : Int32)), .val (.int (0 : Int32)), .val (.int u0)] [(.int (orB (0 : Int32) u0))]))
  refine Gl.go (fun _ k => XS.istoreN X0.here hx rfl (hb hby d1_31) rfl (l' := #[.val (.ref a1), .val (.int (orB (0 : Int32) u0)), .val (.ref a1), .val (.int (2 : Int32)), .val (.int (0 : Int32)), .val (.int u0)]) rfl k) ?_
  show Gl p.tables e below (QQof s (Q_bc2 Z a1 kA u0 u1 h0 n0) 0 0) (s₁.setTop (mkF m 32 #[.val (.ref a1), .val (.int (orB (0 : Int32) u0)), .val (.ref a1), .val (.int (2 : Int32)), .val (.int (0 : Int32)), .val (.int u0)] []))
  refine Gl.go (fun _ k => XS.iinc X0.here hx rfl (hb hby d1_32) rfl (l' := #[.val (.ref a1), .val (.int (orB (0 : Int32) u0)), .val (.ref a1), .val (.int (2 : Int32)), .val (.int ((0 : Int32) + (1 : Int32))), .val (.int u0)]) rfl k) ?_
  show Gl p.tables e below (QQof s (Q_bc2 Z a1 kA u0 u1 h0 n0) 0 0) (s₁.setTop (mkF m 35 #[.val (.ref a1), .val (.int (orB (0 : Int32) u0)), .val (.ref a1), .val (.int (2 : Int32)), .val (.int ((0 : Int32) + (1 : Int32))), .val (.int u0)] []))
  rw [(by decide : ((0 : Int32) + (1 : Int32)) = (1 : Int32))]
  show Gl p.tables e below (QQof s (Q_bc2 Z a1 kA u0 u1 h0 n0) 0 0) (s₁.setTop (mkF m 35 #[.val (.ref a1), .val (.int (orB (0 : Int32) u0)), .val (.ref a1), .val (.int (2 : Int32)), .val (.int (1 : Int32)), .val (.int u0)] []))
  refine Gl.go (fun _ k => XS.goto X0.here hx rfl (pc0 := 35) (pc' := 10) rfl (hb hby d1_35) (by decide) (by decide) k) ?_
  show Gl p.tables e below (QQof s (Q_bc2 Z a1 kA u0 u1 h0 n0) 0 0) (s₁.setTop (mkF m 10 #[.val (.ref a1), .val (.int (orB (0 : Int32) u0)), .val (.ref a1), .val (.int (2 : Int32)), .val (.int (1 : Int32)), .val (.int u0)] []))
  refine Gl.go (fun _ k => XS.iload X0.here hx rfl (hb hby d1_10) rfl  k) ?_
  show Gl p.tables e below (QQof s (Q_bc2 Z a1 kA u0 u1 h0 n0) 0 0) (s₁.setTop (mkF m 12 #[.val (.ref a1), .val (.int (orB (0 : Int32) u0)), .val (.ref a1), .val (.int (2 : Int32)), .val (.int (1 : Int32)), .val (.int u0)] [(.int (1 : Int32))]))
  refine Gl.go (fun _ k => XS.iloadN X0.here hx rfl (hb hby d1_12) rfl  k) ?_
  show Gl p.tables e below (QQof s (Q_bc2 Z a1 kA u0 u1 h0 n0) 0 0) (s₁.setTop (mkF m 13 #[.val (.ref a1), .val (.int (orB (0 : Int32) u0)), .val (.ref a1), .val (.int (2 : Int32)), .val (.int (1 : Int32)), .val (.int u0)] [(.int (2 : Int32)), (.int (1 : Int32))]))
  refine Gl.go (fun _ k => XS.icmpNo X0.here hx rfl (hb hby d1_13) rfl (tlt (by decide)).2.1 k) ?_
  show Gl p.tables e below (QQof s (Q_bc2 Z a1 kA u0 u1 h0 n0) 0 0) (s₁.setTop (mkF m 16 #[.val (.ref a1), .val (.int (orB (0 : Int32) u0)), .val (.ref a1), .val (.int (2 : Int32)), .val (.int (1 : Int32)), .val (.int u0)] []))
  refine Gl.go (fun _ k => XS.aloadN X0.here hx rfl (hb hby d1_16) rfl rfl  k) ?_
  show Gl p.tables e below (QQof s (Q_bc2 Z a1 kA u0 u1 h0 n0) 0 0) (s₁.setTop (mkF m 17 #[.val (.ref a1), .val (.int (orB (0 : Int32) u0)), .val (.ref a1), .val (.int (2 : Int32)), .val (.int (1 : Int32)), .val (.int u0)] [(.ref a1)]))
  refine Gl.go (fun _ k => XS.iload X0.here hx rfl (hb hby d1_17) rfl  k) ?_
  show Gl p.tables e below (QQof s (Q_bc2 Z a1 kA u0 u1 h0 n0) 0 0) (s₁.setTop (mkF m 19 #[.val (.ref a1), .val (.int (orB (0 : Int32) u0)), .val (.ref a1), .val (.int (2 : Int32)), .val (.int (1 : Int32)), .val (.int u0)] [(.int (1 : Int32)), (.ref a1)]))
  obtain ⟨cl3, Ar3, qA3, SA3, NA3, HA3, GA3⟩ := id V0
  have hin3 := inb_of (j := (1 : Int32)) SA3 ⟨by decide, by decide⟩
  have hat3 : cl3.slots[((1 : Int32)).toNatClampNeg]? = some (.int u1) := HA3.at hin3 rfl
  refine Gl.go (fun _ k => X0.baloadBytes hx (j := (1 : Int32)) (v := (.int u1)) (by rw [e0]; exact Ar3.1) (State.isArrayOf_alike hZ.alike Ar3.2.1) Ar3.2.2 hin3 hat3 (g := (mkF m 19 #[.val (.ref a1), .val (.int (orB (0 : Int32) u0)), .val (.ref a1), .val (.int (2 : Int32)), .val (.int (1 : Int32)), .val (.int u0)] [(.int (1 : Int32)), (.ref a1)])) rfl rfl (hb hby d1_19) _ k) ?_
  show Gl p.tables e below (QQof s (Q_bc2 Z a1 kA u0 u1 h0 n0) 0 0) (s₁.setTop (mkF m 20 #[.val (.ref a1), .val (.int (orB (0 : Int32) u0)), .val (.ref a1), .val (.int (2 : Int32)), .val (.int (1 : Int32)), .val (.int u0)] [(.int u1)]))
  refine Gl.go (fun _ k => XS.istore X0.here hx rfl (hb hby d1_20) rfl (l' := #[.val (.ref a1), .val (.int (orB (0 : Int32) u0)), .val (.ref a1), .val (.int (2 : Int32)), .val (.int (1 : Int32)), .val (.int u1)]) rfl k) ?_
  show Gl p.tables e below (QQof s (Q_bc2 Z a1 kA u0 u1 h0 n0) 0 0) (s₁.setTop (mkF m 22 #[.val (.ref a1), .val (.int (orB (0 : Int32) u0)), .val (.ref a1), .val (.int (2 : Int32)), .val (.int (1 : Int32)), .val (.int u1)] []))
  refine Gl.go (fun _ k => XS.iloadN X0.here hx rfl (hb hby d1_22) rfl  k) ?_
  show Gl p.tables e below (QQof s (Q_bc2 Z a1 kA u0 u1 h0 n0) 0 0) (s₁.setTop (mkF m 23 #[.val (.ref a1), .val (.int (orB (0 : Int32) u0)), .val (.ref a1), .val (.int (2 : Int32)), .val (.int (1 : Int32)), .val (.int u1)] [(.int (orB (0 : Int32) u0))]))
  refine Gl.go (fun _ k => XS.iconst X0.here hx rfl (hb hby d1_23) k) ?_
  show Gl p.tables e below (QQof s (Q_bc2 Z a1 kA u0 u1 h0 n0) 0 0) (s₁.setTop (mkF m 24 #[.val (.ref a1), .val (.int (orB (0 : Int32) u0)), .val (.ref a1), .val (.int (2 : Int32)), .val (.int (1 : Int32)), .val (.int u1)] [(.int (1 : Int32)), (.int (orB (0 : Int32) u0))]))
  refine Gl.go (fun _ k => XS.iload X0.here hx rfl (hb hby d1_24) rfl  k) ?_
  show Gl p.tables e below (QQof s (Q_bc2 Z a1 kA u0 u1 h0 n0) 0 0) (s₁.setTop (mkF m 26 #[.val (.ref a1), .val (.int (orB (0 : Int32) u0)), .val (.ref a1), .val (.int (2 : Int32)), .val (.int (1 : Int32)), .val (.int u1)] [(.int u1), (.int (1 : Int32)), (.int (orB (0 : Int32) u0))]))
  refine Gl.go (fun _ k => XS.bipush X0.here hx rfl (hb hby d1_26) k) ?_
  show Gl p.tables e below (QQof s (Q_bc2 Z a1 kA u0 u1 h0 n0) 0 0) (s₁.setTop (mkF m 28 #[.val (.ref a1), .val (.int (orB (0 : Int32) u0)), .val (.ref a1), .val (.int (2 : Int32)), .val (.int (1 : Int32)), .val (.int u1)] [(.int (15 : Int32)), (.int u1), (.int (1 : Int32)), (.int (orB (0 : Int32) u0))]))
  refine Gl.go (fun _ k => XS.iand X0.here hx rfl (hb hby d1_28) rfl k) ?_
  show Gl p.tables e below (QQof s (Q_bc2 Z a1 kA u0 u1 h0 n0) 0 0) (s₁.setTop (mkF m 29 #[.val (.ref a1), .val (.int (orB (0 : Int32) u0)), .val (.ref a1), .val (.int (2 : Int32)), .val (.int (1 : Int32)), .val (.int u1)] [(.int (u1 &&& (15 : Int32))), (.int (1 : Int32)), (.int (orB (0 : Int32) u0))]))
  refine Gl.go (fun _ k => XS.ishl X0.here hx rfl (hb hby d1_29) rfl k) ?_
  show Gl p.tables e below (QQof s (Q_bc2 Z a1 kA u0 u1 h0 n0) 0 0) (s₁.setTop (mkF m 30 #[.val (.ref a1), .val (.int (orB (0 : Int32) u0)), .val (.ref a1), .val (.int (2 : Int32)), .val (.int (1 : Int32)), .val (.int u1)] [(.int ((1 : Int32) <<< ((u1 &&& (15 : Int32)) &&& 31))), (.int (orB (0 : Int32) u0))]))
  refine Gl.go (fun _ k => XS.ior X0.here hx rfl (hb hby d1_30) rfl k) ?_
  show Gl p.tables e below (QQof s (Q_bc2 Z a1 kA u0 u1 h0 n0) 0 0) (s₁.setTop (mkF m 31 #[.val (.ref a1), .val (.int (orB (0 : Int32) u0)), .val (.ref a1), .val (.int (2 : Int32)), .val (.int (1 : Int32)), .val (.int u1)] [(.int ((orB (0 : Int32) u0) ||| ((1 : Int32) <<< ((u1 &&& (15 : Int32)) &&& 31))))]))
  show Gl p.tables e below (QQof s (Q_bc2 Z a1 kA u0 u1 h0 n0) 0 0) (s₁.setTop (mkF m 31 #[.val (.ref a1), .val (.int (orB (0 : Int32) u0)), .val (.ref a1), .val (.int (2 : Int32)), .val (.int (1 : Int32)), .val (.int u1)] [(.int (orB (orB (0 : Int32) u0) u1))]))
  refine Gl.go (fun _ k => XS.istoreN X0.here hx rfl (hb hby d1_31) rfl (l' := #[.val (.ref a1), .val (.int (orB (orB (0 : Int32) u0) u1)), .val (.ref a1), .val (.int (2 : Int32)), .val (.int (1 : Int32)), .val (.int u1)]) rfl k) ?_
  show Gl p.tables e below (QQof s (Q_bc2 Z a1 kA u0 u1 h0 n0) 0 0) (s₁.setTop (mkF m 32 #[.val (.ref a1), .val (.int (orB (orB (0 : Int32) u0) u1)), .val (.ref a1), .val (.int (2 : Int32)), .val (.int (1 : Int32)), .val (.int u1)] []))
  refine Gl.go (fun _ k => XS.iinc X0.here hx rfl (hb hby d1_32) rfl (l' := #[.val (.ref a1), .val (.int (orB (orB (0 : Int32) u0) u1)), .val (.ref a1), .val (.int (2 : Int32)), .val (.int ((1 : Int32) + (1 : Int32))), .val (.int u1)]) rfl k) ?_
  show Gl p.tables e below (QQof s (Q_bc2 Z a1 kA u0 u1 h0 n0) 0 0) (s₁.setTop (mkF m 35 #[.val (.ref a1), .val (.int (orB (orB (0 : Int32) u0) u1)), .val (.ref a1), .val (.int (2 : Int32)), .val (.int ((1 : Int32) + (1 : Int32))), .val (.int u1)] []))
  rw [(by decide : ((1 : Int32) + (1 : Int32)) = (2 : Int32))]
  show Gl p.tables e below (QQof s (Q_bc2 Z a1 kA u0 u1 h0 n0) 0 0) (s₁.setTop (mkF m 35 #[.val (.ref a1), .val (.int (orB (orB (0 : Int32) u0) u1)), .val (.ref a1), .val (.int (2 : Int32)), .val (.int (2 : Int32)), .val (.int u1)] []))
  refine Gl.go (fun _ k => XS.goto X0.here hx rfl (pc0 := 35) (pc' := 10) rfl (hb hby d1_35) (by decide) (by decide) k) ?_
  show Gl p.tables e below (QQof s (Q_bc2 Z a1 kA u0 u1 h0 n0) 0 0) (s₁.setTop (mkF m 10 #[.val (.ref a1), .val (.int (orB (orB (0 : Int32) u0) u1)), .val (.ref a1), .val (.int (2 : Int32)), .val (.int (2 : Int32)), .val (.int u1)] []))
  refine Gl.go (fun _ k => XS.iload X0.here hx rfl (hb hby d1_10) rfl  k) ?_
  show Gl p.tables e below (QQof s (Q_bc2 Z a1 kA u0 u1 h0 n0) 0 0) (s₁.setTop (mkF m 12 #[.val (.ref a1), .val (.int (orB (orB (0 : Int32) u0) u1)), .val (.ref a1), .val (.int (2 : Int32)), .val (.int (2 : Int32)), .val (.int u1)] [(.int (2 : Int32))]))
  refine Gl.go (fun _ k => XS.iloadN X0.here hx rfl (hb hby d1_12) rfl  k) ?_
  show Gl p.tables e below (QQof s (Q_bc2 Z a1 kA u0 u1 h0 n0) 0 0) (s₁.setTop (mkF m 13 #[.val (.ref a1), .val (.int (orB (orB (0 : Int32) u0) u1)), .val (.ref a1), .val (.int (2 : Int32)), .val (.int (2 : Int32)), .val (.int u1)] [(.int (2 : Int32)), (.int (2 : Int32))]))
  refine Gl.go (fun _ k => XS.icmpYes X0.here hx rfl (pc0 := 13) (pc' := 38) rfl (hb hby d1_13) rfl (flt (by decide)).2.1 (by decide) (by decide) k) ?_
  show Gl p.tables e below (QQof s (Q_bc2 Z a1 kA u0 u1 h0 n0) 0 0) (s₁.setTop (mkF m 38 #[.val (.ref a1), .val (.int (orB (orB (0 : Int32) u0) u1)), .val (.ref a1), .val (.int (2 : Int32)), .val (.int (2 : Int32)), .val (.int u1)] []))
  refine Gl.go (fun _ k => XS.iloadN X0.here hx rfl (hb hby d1_38) rfl  k) ?_
  show Gl p.tables e below (QQof s (Q_bc2 Z a1 kA u0 u1 h0 n0) 0 0) (s₁.setTop (mkF m 39 #[.val (.ref a1), .val (.int (orB (orB (0 : Int32) u0) u1)), .val (.ref a1), .val (.int (2 : Int32)), .val (.int (2 : Int32)), .val (.int u1)] [(.int (orB (orB (0 : Int32) u0) u1))]))
  refine Gl.go (fun _ k => XS.i2c X0.here hx rfl (hb hby d1_39) rfl k) ?_
  show Gl p.tables e below (QQof s (Q_bc2 Z a1 kA u0 u1 h0 n0) 0 0) (s₁.setTop (mkF m 40 #[.val (.ref a1), .val (.int (orB (orB (0 : Int32) u0) u1)), .val (.ref a1), .val (.int (2 : Int32)), .val (.int (2 : Int32)), .val (.int u1)] [(.int ((orB (orB (0 : Int32) u0) u1).toUInt32.toUInt16.toUInt32.toInt32))]))
  refine leafN X0 hx hlk (t := .char) Bd.returns (by simp) (hb hby d1_40) ?_ (by decide) (by decide)
  exact ⟨rfl, N0, e0⟩
def Q_bc3 (Z : State) (a1 : Addr) (kA : ClassId) (u0 u1 u2 : Int32) (h0 : Heap) (n0 : Nat) (v : Option Value) (h : Heap) (L : List Loc) : Prop := v = some (.int (chV (orB (orB (orB (0 : Int32) u0) u1) u2))) ∧ Fr n0 L ∧ h = h0
set_option maxRecDepth 65536 in
set_option maxHeartbeats 40000000 in
theorem rm_bc3 (l : Launch) (Z : State) (a0 : Array Value) (hw : ∀ d ∈ tables_1, d.before a0 Z = true) (ws : List Jvm.Cond) (a1 : Addr) (kA : ClassId) (u0 u1 u2 : Int32) (h0 : Heap) (n0 : Nat) (Z0 : n0 ≤ h0.size) (V0 : Arv Z h0 a1 kA .byte (3 : Int32) [(.int u0), (.int u1), (.int u2)] (.int (0 : Int32))) :
    MetFree l (⟨"com/example/aloud/aloud/PathPattern", "byteClasses", "([B)C"⟩ : MethodName) (head1 (Jvm.Cond.code (⟨"com/example/aloud/aloud/PathPattern", "byteClasses", "([B)C"⟩ : MethodName) prog_15_method_9_code 6 (some .char) :: ws) ({ frames := 0, cells := 0, slots := 0, locals := 0 } : Room)) (fun aa U => aa = #[(.ref a1)] ∧ Z.Warmed39 U.vm ∧ U.heap = h0) (fun _ _ _ _ _ => True) (fun _ U o U' => ∃ v L, o = .returned v ∧ Q_bc3 Z a1 kA u0 u1 u2 h0 n0 v U'.heap L ∧ FrameEnd U o U' L ({ frames := 0, cells := 0, slots := 0, locals := 0 } : Room).cells ({ frames := 0, cells := 0, slots := 0, locals := 0 } : Room).slots) := by
  refine MetFree.of_bodySF (plainFor_of_name pn_0) hisR ?_
  intro p e s m args below meth c s₁ Bd hml0 hP hK
  obtain ⟨rfl, hZ, hh⟩ := hP
  have hx := Bd.exec
  have hby := Bd.bytes
  have hml : c.maxLocals = 6 := hml0
  have hown : s.vm.findClass "com/example/aloud/aloud/PathPattern" = some m.cls := findClass_of_methodNamed Bd.named
  have hnm := (name_of_methodNamed Bd.named Bd.method).1
  have hlk : meth.locks = false := BodyLoose.notSynchronized Bd
  have X0 : Stand p l e ({ frames := 0, cells := 0, slots := 0, locals := 0 } : Room) s m #[(.ref a1)] below meth c s₁ [] 0 0 := Stand.of_body Bd
  have e0 : s₁.heap = h0 := by rw [← hh, Bd.state]; rfl
  have N0 := Fr.nil n0
  have K0 : Keep h0 h0 [] := Keep.refl _ _
  show Gl p.tables e below (QQof s (Q_bc3 Z a1 kA u0 u1 u2 h0 n0) 0 0) (s₁.setTop (entryFrame m #[(.ref a1)] 6))
  refine Gl.go (fun t k => castTop (ef_bc3 m a1) k) ?_
  show Gl p.tables e below (QQof s (Q_bc3 Z a1 kA u0 u1 u2 h0 n0) 0 0) (s₁.setTop (mkF m 0 #[.val (.ref a1), .unset, .unset, .unset, .unset, .unset] []))
  refine Gl.go (fun _ k => XS.iconst X0.here hx rfl (hb hby d1_0) k) ?_
  show Gl p.tables e below (QQof s (Q_bc3 Z a1 kA u0 u1 u2 h0 n0) 0 0) (s₁.setTop (mkF m 1 #[.val (.ref a1), .unset, .unset, .unset, .unset, .unset] [(.int (0 : Int32))]))
  refine Gl.go (fun _ k => XS.istoreN X0.here hx rfl (hb hby d1_1) rfl (l' := #[.val (.ref a1), .val (.int (0 : Int32)), .unset, .unset, .unset, .unset]) rfl k) ?_
  show Gl p.tables e below (QQof s (Q_bc3 Z a1 kA u0 u1 u2 h0 n0) 0 0) (s₁.setTop (mkF m 2 #[.val (.ref a1), .val (.int (0 : Int32)), .unset, .unset, .unset, .unset] []))
  refine Gl.go (fun _ k => XS.aloadN X0.here hx rfl (hb hby d1_2) rfl rfl  k) ?_
  show Gl p.tables e below (QQof s (Q_bc3 Z a1 kA u0 u1 u2 h0 n0) 0 0) (s₁.setTop (mkF m 3 #[.val (.ref a1), .val (.int (0 : Int32)), .unset, .unset, .unset, .unset] [(.ref a1)]))
  refine Gl.go (fun _ k => XS.astoreN X0.here hx rfl (hb hby d1_3) rfl rfl (l' := #[.val (.ref a1), .val (.int (0 : Int32)), .val (.ref a1), .unset, .unset, .unset]) rfl k) ?_
  show Gl p.tables e below (QQof s (Q_bc3 Z a1 kA u0 u1 u2 h0 n0) 0 0) (s₁.setTop (mkF m 4 #[.val (.ref a1), .val (.int (0 : Int32)), .val (.ref a1), .unset, .unset, .unset] []))
  refine Gl.go (fun _ k => XS.aloadN X0.here hx rfl (hb hby d1_4) rfl rfl  k) ?_
  show Gl p.tables e below (QQof s (Q_bc3 Z a1 kA u0 u1 u2 h0 n0) 0 0) (s₁.setTop (mkF m 5 #[.val (.ref a1), .val (.int (0 : Int32)), .val (.ref a1), .unset, .unset, .unset] [(.ref a1)]))
  obtain ⟨cl1, Ar1, qA1, SA1, NA1, HA1, GA1⟩ := id V0
  refine Gl.go (fun _ k => X0.arraylength hx (by rw [e0]; exact Ar1.1) (State.isArrayOf_alike hZ.alike Ar1.2.1) (g := (mkF m 5 #[.val (.ref a1), .val (.int (0 : Int32)), .val (.ref a1), .unset, .unset, .unset] [(.ref a1)])) rfl rfl (hb hby d1_5) _ k) ?_
  rw [len_of SA1 NA1]
  show Gl p.tables e below (QQof s (Q_bc3 Z a1 kA u0 u1 u2 h0 n0) 0 0) (s₁.setTop (mkF m 6 #[.val (.ref a1), .val (.int (0 : Int32)), .val (.ref a1), .unset, .unset, .unset] [(.int (3 : Int32))]))
  refine Gl.go (fun _ k => XS.istoreN X0.here hx rfl (hb hby d1_6) rfl (l' := #[.val (.ref a1), .val (.int (0 : Int32)), .val (.ref a1), .val (.int (3 : Int32)), .unset, .unset]) rfl k) ?_
  show Gl p.tables e below (QQof s (Q_bc3 Z a1 kA u0 u1 u2 h0 n0) 0 0) (s₁.setTop (mkF m 7 #[.val (.ref a1), .val (.int (0 : Int32)), .val (.ref a1), .val (.int (3 : Int32)), .unset, .unset] []))
  refine Gl.go (fun _ k => XS.iconst X0.here hx rfl (hb hby d1_7) k) ?_
  show Gl p.tables e below (QQof s (Q_bc3 Z a1 kA u0 u1 u2 h0 n0) 0 0) (s₁.setTop (mkF m 8 #[.val (.ref a1), .val (.int (0 : Int32)), .val (.ref a1), .val (.int (3 : Int32)), .unset, .unset] [(.int (0 : Int32))]))
  refine Gl.go (fun _ k => XS.istore X0.here hx rfl (hb hby d1_8) rfl (l' := #[.val (.ref a1), .val (.int (0 : Int32)), .val (.ref a1), .val (.int (3 : Int32)), .val (.int (0 : Int32)), .unset]) rfl k) ?_
  show Gl p.tables e below (QQof s (Q_bc3 Z a1 kA u0 u1 u2 h0 n0) 0 0) (s₁.setTop (mkF m 10 #[.val (.ref a1), .val (.int (0 : Int32)), .val (.ref a1), .val (.int (3 : Int32)), .val (.int (0 : Int32)), .unset] []))
  refine Gl.go (fun _ k => XS.iload X0.here hx rfl (hb hby d1_10) rfl  k) ?_
  show Gl p.tables e below (QQof s (Q_bc3 Z a1 kA u0 u1 u2 h0 n0) 0 0) (s₁.setTop (mkF m 12 #[.val (.ref a1), .val (.int (0 : Int32)), .val (.ref a1), .val (.int (3 : Int32)), .val (.int (0 : Int32)), .unset] [(.int (0 : Int32))]))
  refine Gl.go (fun _ k => XS.iloadN X0.here hx rfl (hb hby d1_12) rfl  k) ?_
  show Gl p.tables e below (QQof s (Q_bc3 Z a1 kA u0 u1 u2 h0 n0) 0 0) (s₁.setTop (mkF m 13 #[.val (.ref a1), .val (.int (0 : Int32)), .val (.ref a1), .val (.int (3 : Int32)), .val (.int (0 : Int32)), .unset] [(.int (3 : Int32)), (.int (0 : Int32))]))
  refine Gl.go (fun _ k => XS.icmpNo X0.here hx rfl (hb hby d1_13) rfl (tlt (by decide)).2.1 k) ?_
  show Gl p.tables e below (QQof s (Q_bc3 Z a1 kA u0 u1 u2 h0 n0) 0 0) (s₁.setTop (mkF m 16 #[.val (.ref a1), .val (.int (0 : Int32)), .val (.ref a1), .val (.int (3 : Int32)), .val (.int (0 : Int32)), .unset] []))
  refine Gl.go (fun _ k => XS.aloadN X0.here hx rfl (hb hby d1_16) rfl rfl  k) ?_
  show Gl p.tables e below (QQof s (Q_bc3 Z a1 kA u0 u1 u2 h0 n0) 0 0) (s₁.setTop (mkF m 17 #[.val (.ref a1), .val (.int (0 : Int32)), .val (.ref a1), .val (.int (3 : Int32)), .val (.int (0 : Int32)), .unset] [(.ref a1)]))
  refine Gl.go (fun _ k => XS.iload X0.here hx rfl (hb hby d1_17) rfl  k) ?_
  show Gl p.tables e below (QQof s (Q_bc3 Z a1 kA u0 u1 u2 h0 n0) 0 0) (s₁.setTop (mkF m 19 #[.val (.ref a1), .val (.int (0 : Int32)), .val (.ref a1), .val (.int (3 : Int32)), .val (.int (0 : Int32)), .unset] [(.int (0 : Int32)), (.ref a1)]))
  obtain ⟨cl2, Ar2, qA2, SA2, NA2, HA2, GA2⟩ := id V0
  have hin2 := inb_of (j := (0 : Int32)) SA2 ⟨by decide, by decide⟩
  have hat2 : cl2.slots[((0 : Int32)).toNatClampNeg]? = some (.int u0) := HA2.at hin2 rfl
  refine Gl.go (fun _ k => X0.baloadBytes hx (j := (0 : Int32)) (v := (.int u0)) (by rw [e0]; exact Ar2.1) (State.isArrayOf_alike hZ.alike Ar2.2.1) Ar2.2.2 hin2 hat2 (g := (mkF m 19 #[.val (.ref a1), .val (.int (0 : Int32)), .val (.ref a1), .val (.int (3 : Int32)), .val (.int (0 : Int32)), .unset] [(.int (0 : Int32)), (.ref a1)])) rfl rfl (hb hby d1_19) _ k) ?_
  show Gl p.tables e below (QQof s (Q_bc3 Z a1 kA u0 u1 u2 h0 n0) 0 0) (s₁.setTop (mkF m 20 #[.val (.ref a1), .val (.int (0 : Int32)), .val (.ref a1), .val (.int (3 : Int32)), .val (.int (0 : Int32)), .unset] [(.int u0)]))
  refine Gl.go (fun _ k => XS.istore X0.here hx rfl (hb hby d1_20) rfl (l' := #[.val (.ref a1), .val (.int (0 : Int32)), .val (.ref a1), .val (.int (3 : Int32)), .val (.int (0 : Int32)), .val (.int u0)]) rfl k) ?_
  show Gl p.tables e below (QQof s (Q_bc3 Z a1 kA u0 u1 u2 h0 n0) 0 0) (s₁.setTop (mkF m 22 #[.val (.ref a1), .val (.int (0 : Int32)), .val (.ref a1), .val (.int (3 : Int32)), .val (.int (0 : Int32)), .val (.int u0)] []))
  refine Gl.go (fun _ k => XS.iloadN X0.here hx rfl (hb hby d1_22) rfl  k) ?_
  show Gl p.tables e below (QQof s (Q_bc3 Z a1 kA u0 u1 u2 h0 n0) 0 0) (s₁.setTop (mkF m 23 #[.val (.ref a1), .val (.int (0 : Int32)), .val (.ref a1), .val (.int (3 : Int32)), .val (.int (0 : Int32)), .val (.int u0)] [(.int (0 : Int32))]))
  refine Gl.go (fun _ k => XS.iconst X0.here hx rfl (hb hby d1_23) k) ?_
  show Gl p.tables e below (QQof s (Q_bc3 Z a1 kA u0 u1 u2 h0 n0) 0 0) (s₁.setTop (mkF m 24 #[.val (.ref a1), .val (.int (0 : Int32)), .val (.ref a1), .val (.int (3 : Int32)), .val (.int (0 : Int32)), .val (.int u0)] [(.int (1 : Int32)), (.int (0 : Int32))]))
  refine Gl.go (fun _ k => XS.iload X0.here hx rfl (hb hby d1_24) rfl  k) ?_
  show Gl p.tables e below (QQof s (Q_bc3 Z a1 kA u0 u1 u2 h0 n0) 0 0) (s₁.setTop (mkF m 26 #[.val (.ref a1), .val (.int (0 : Int32)), .val (.ref a1), .val (.int (3 : Int32)), .val (.int (0 : Int32)), .val (.int u0)] [(.int u0), (.int (1 : Int32)), (.int (0 : Int32))]))
  refine Gl.go (fun _ k => XS.bipush X0.here hx rfl (hb hby d1_26) k) ?_
  show Gl p.tables e below (QQof s (Q_bc3 Z a1 kA u0 u1 u2 h0 n0) 0 0) (s₁.setTop (mkF m 28 #[.val (.ref a1), .val (.int (0 : Int32)), .val (.ref a1), .val (.int (3 : Int32)), .val (.int (0 : Int32)), .val (.int u0)] [(.int (15 : Int32)), (.int u0), (.int (1 : Int32)), (.int (0 : Int32))]))
  refine Gl.go (fun _ k => XS.iand X0.here hx rfl (hb hby d1_28) rfl k) ?_
  show Gl p.tables e below (QQof s (Q_bc3 Z a1 kA u0 u1 u2 h0 n0) 0 0) (s₁.setTop (mkF m 29 #[.val (.ref a1), .val (.int (0 : Int32)), .val (.ref a1), .val (.int (3 : Int32)), .val (.int (0 : Int32)), .val (.int u0)] [(.int (u0 &&& (15 : Int32))), (.int (1 : Int32)), (.int (0 : Int32))]))
  refine Gl.go (fun _ k => XS.ishl X0.here hx rfl (hb hby d1_29) rfl k) ?_
  show Gl p.tables e below (QQof s (Q_bc3 Z a1 kA u0 u1 u2 h0 n0) 0 0) (s₁.setTop (mkF m 30 #[.val (.ref a1), .val (.int (0 : Int32)), .val (.ref a1), .val (.int (3 : Int32)), .val (.int (0 : Int32)), .val (.int u0)] [(.int ((1 : Int32) <<< ((u0 &&& (15 : Int32)) &&& 31))), (.int (0 : Int32))]))
  refine Gl.go (fun _ k => XS.ior X0.here hx rfl (hb hby d1_30) rfl k) ?_
  show Gl p.tables e below (QQof s (Q_bc3 Z a1 kA u0 u1 u2 h0 n0) 0 0) (s₁.setTop (mkF m 31 #[.val (.ref a1), .val (.int (0 : Int32)), .val (.ref a1), .val (.int (3 : Int32)), .val (.int (0 : Int32)), .val (.int u0)] [(.int ((0 : Int32) ||| ((1 : Int32) <<< ((u0 &&& (15 : Int32)) &&& 31))))]))
  show Gl p.tables e below (QQof s (Q_bc3 Z a1 kA u0 u1 u2 h0 n0) 0 0) (s₁.setTop (mkF m 31 #[.val (.ref a1), .val (.int (0 : Int32)), .val (.ref a1), .val (.int (3 : Int32)), .val (.int (0 : Int32)), .val (.int u0)] [(.int (orB (0 : Int32) u0))]))
  refine Gl.go (fun _ k => XS.istoreN X0.here hx rfl (hb hby d1_31) rfl (l' := #[.val (.ref a1), .val (.int (orB (0 : Int32) u0)), .val (.ref a1), .val (.int (3 : Int32)), .val (.int (0 : Int32)), .val (.int u0)]) rfl k) ?_
  show Gl p.tables e below (QQof s (Q_bc3 Z a1 kA u0 u1 u2 h0 n0) 0 0) (s₁.setTop (mkF m 32 #[.val (.ref a1), .val (.int (orB (0 : Int32) u0)), .val (.ref a1), .val (.int (3 : Int32)), .val (.int (0 : Int32)), .val (.int u0)] []))
  refine Gl.go (fun _ k => XS.iinc X0.here hx rfl (hb hby d1_32) rfl (l' := #[.val (.ref a1), .val (.int (orB (0 : Int32) u0)), .val (.ref a1), .val (.int (3 : Int32)), .val (.int ((0 : Int32) + (1 : Int32))), .val (.int u0)]) rfl k) ?_
  show Gl p.tables e below (QQof s (Q_bc3 Z a1 kA u0 u1 u2 h0 n0) 0 0) (s₁.setTop (mkF m 35 #[.val (.ref a1), .val (.int (orB (0 : Int32) u0)), .val (.ref a1), .val (.int (3 : Int32)), .val (.int ((0 : Int32) + (1 : Int32))), .val (.int u0)] []))
  rw [(by decide : ((0 : Int32) + (1 : Int32)) = (1 : Int32))]
  show Gl p.tables e below (QQof s (Q_bc3 Z a1 kA u0 u1 u2 h0 n0) 0 0) (s₁.setTop (mkF m 35 #[.val (.ref a1), .val (.int (orB (0 : Int32) u0)), .val (.ref a1), .val (.int (3 : Int32)), .val (.int (1 : Int32)), .val (.int u0)] []))
  refine Gl.go (fun _ k => XS.goto X0.here hx rfl (pc0 := 35) (pc' := 10) rfl (hb hby d1_35) (by decide) (by decide) k) ?_
  show Gl p.tables e below (QQof s (Q_bc3 Z a1 kA u0 u1 u2 h0 n0) 0 0) (s₁.setTop (mkF m 10 #[.val (.ref a1), .val (.int (orB (0 : Int32) u0)), .val (.ref a1), .val (.int (3 : Int32)), .val (.int (1 : Int32)), .val (.int u0)] []))
  refine Gl.go (fun _ k => XS.iload X0.here hx rfl (hb hby d1_10) rfl  k) ?_
  show Gl p.tables e below (QQof s (Q_bc3 Z a1 kA u0 u1 u2 h0 n0) 0 0) (s₁.setTop (mkF m 12 #[.val (.ref a1), .val (.int (orB (0 : Int32) u0)), .val (.ref a1), .val (.int (3 : Int32)), .val (.int (1 : Int32)), .val (.int u0)] [(.int (1 : Int32))]))
  refine Gl.go (fun _ k => XS.iloadN X0.here hx rfl (hb hby d1_12) rfl  k) ?_
  show Gl p.tables e below (QQof s (Q_bc3 Z a1 kA u0 u1 u2 h0 n0) 0 0) (s₁.setTop (mkF m 13 #[.val (.ref a1), .val (.int (orB (0 : Int32) u0)), .val (.ref a1), .val (.int (3 : Int32)), .val (.int (1 : Int32)), .val (.int u0)] [(.int (3 : Int32)), (.int (1 : Int32))]))
  refine Gl.go (fun _ k => XS.icmpNo X0.here hx rfl (hb hby d1_13) rfl (tlt (by decide)).2.1 k) ?_
  show Gl p.tables e below (QQof s (Q_bc3 Z a1 kA u0 u1 u2 h0 n0) 0 0) (s₁.setTop (mkF m 16 #[.val (.ref a1), .val (.int (orB (0 : Int32) u0)), .val (.ref a1), .val (.int (3 : Int32)), .val (.int (1 : Int32)), .val (.int u0)] []))
  refine Gl.go (fun _ k => XS.aloadN X0.here hx rfl (hb hby d1_16) rfl rfl  k) ?_
  show Gl p.tables e below (QQof s (Q_bc3 Z a1 kA u0 u1 u2 h0 n0) 0 0) (s₁.setTop (mkF m 17 #[.val (.ref a1), .val (.int (orB (0 : Int32) u0)), .val (.ref a1), .val (.int (3 : Int32)), .val (.int (1 : Int32)), .val (.int u0)] [(.ref a1)]))
  refine Gl.go (fun _ k => XS.iload X0.here hx rfl (hb hby d1_17) rfl  k) ?_
  show Gl p.tables e below (QQof s (Q_bc3 Z a1 kA u0 u1 u2 h0 n0) 0 0) (s₁.setTop (mkF m 19 #[.val (.ref a1), .val (.int (orB (0 : Int32) u0)), .val (.ref a1), .val (.int (3 : Int32)), .val (.int (1 : Int32)), .val (.int u0)] [(.int (1 : Int32)), (.ref a1)]))
  obtain ⟨cl3, Ar3, qA3, SA3, NA3, HA3, GA3⟩ := id V0
  have hin3 := inb_of (j := (1 : Int32)) SA3 ⟨by decide, by decide⟩
  have hat3 : cl3.slots[((1 : Int32)).toNatClampNeg]? = some (.int u1) := HA3.at hin3 rfl
  refine Gl.go (fun _ k => X0.baloadBytes hx (j := (1 : Int32)) (v := (.int u1)) (by rw [e0]; exact Ar3.1) (State.isArrayOf_alike hZ.alike Ar3.2.1) Ar3.2.2 hin3 hat3 (g := (mkF m 19 #[.val (.ref a1), .val (.int (orB (0 : Int32) u0)), .val (.ref a1), .val (.int (3 : Int32)), .val (.int (1 : Int32)), .val (.int u0)] [(.int (1 : Int32)), (.ref a1)])) rfl rfl (hb hby d1_19) _ k) ?_
  show Gl p.tables e below (QQof s (Q_bc3 Z a1 kA u0 u1 u2 h0 n0) 0 0) (s₁.setTop (mkF m 20 #[.val (.ref a1), .val (.int (orB (0 : Int32) u0)), .val (.ref a1), .val (.int (3 : Int32)), .val (.int (1 : Int32)), .val (.int u0)] [(.int u1)]))
  refine Gl.go (fun _ k => XS.istore X0.here hx rfl (hb hby d1_20) rfl (l' := #[.val (.ref a1), .val (.int (orB (0 : Int32) u0)), .val (.ref a1), .val (.int (3 : Int32)), .val (.int (1 : Int32)), .val (.int u1)]) rfl k) ?_
  show Gl p.tables e below (QQof s (Q_bc3 Z a1 kA u0 u1 u2 h0 n0) 0 0) (s₁.setTop (mkF m 22 #[.val (.ref a1), .val (.int (orB (0 : Int32) u0)), .val (.ref a1), .val (.int (3 : Int32)), .val (.int (1 : Int32)), .val (.int u1)] []))
  refine Gl.go (fun _ k => XS.iloadN X0.here hx rfl (hb hby d1_22) rfl  k) ?_
  show Gl p.tables e below (QQof s (Q_bc3 Z a1 kA u0 u1 u2 h0 n0) 0 0) (s₁.setTop (mkF m 23 #[.val (.ref a1), .val (.int (orB (0 : Int32) u0)), .val (.ref a1), .val (.int (3 : Int32)), .val (.int (1 : Int32)), .val (.int u1)] [(.int (orB (0 : Int32) u0))]))
  refine Gl.go (fun _ k => XS.iconst X0.here hx rfl (hb hby d1_23) k) ?_
  show Gl p.tables e below (QQof s (Q_bc3 Z a1 kA u0 u1 u2 h0 n0) 0 0) (s₁.setTop (mkF m 24 #[.val (.ref a1), .val (.int (orB (0 : Int32) u0)), .val (.ref a1), .val (.int (3 : Int32)), .val (.int (1 : Int32)), .val (.int u1)] [(.int (1 : Int32)), (.int (orB (0 : Int32) u0))]))
  refine Gl.go (fun _ k => XS.iload X0.here hx rfl (hb hby d1_24) rfl  k) ?_
  show Gl p.tables e below (QQof s (Q_bc3 Z a1 kA u0 u1 u2 h0 n0) 0 0) (s₁.setTop (mkF m 26 #[.val (.ref a1), .val (.int (orB (0 : Int32) u0)), .val (.ref a1), .val (.int (3 : Int32)), .val (.int (1 : Int32)), .val (.int u1)] [(.int u1), (.int (1 : Int32)), (.int (orB (0 : Int32) u0))]))
  refine Gl.go (fun _ k => XS.bipush X0.here hx rfl (hb hby d1_26) k) ?_
  show Gl p.tables e below (QQof s (Q_bc3 Z a1 kA u0 u1 u2 h0 n0) 0 0) (s₁.setTop (mkF m 28 #[.val (.ref a1), .val (.int (orB (0 : Int32) u0)), .val (.ref a1), .val (.int (3 : Int32)), .val (.int (1 : Int32)), .val (.int u1)] [(.int (15 : Int32)), (.int u1), (.int (1 : Int32)), (.int (orB (0 : Int32) u0))]))
  refine Gl.go (fun _ k => XS.iand X0.here hx rfl (hb hby d1_28) rfl k) ?_
  show Gl p.tables e below (QQof s (Q_bc3 Z a1 kA u0 u1 u2 h0 n0) 0 0) (s₁.setTop (mkF m 29 #[.val (.ref a1), .val (.int (orB (0 : Int32) u0)), .val (.ref a1), .val (.int (3 : Int32)), .val (.int (1 : Int32)), .val (.int u1)] [(.int (u1 &&& (15 : Int32))), (.int (1 : Int32)), (.int (orB (0 : Int32) u0))]))
  refine Gl.go (fun _ k => XS.ishl X0.here hx rfl (hb hby d1_29) rfl k) ?_
  show Gl p.tables e below (QQof s (Q_bc3 Z a1 kA u0 u1 u2 h0 n0) 0 0) (s₁.setTop (mkF m 30 #[.val (.ref a1), .val (.int (orB (0 : Int32) u0)), .val (.ref a1), .val (.int (3 : Int32)), .val (.int (1 : Int32)), .val (.int u1)] [(.int ((1 : Int32) <<< ((u1 &&& (15 : Int32)) &&& 31))), (.int (orB (0 : Int32) u0))]))
  refine Gl.go (fun _ k => XS.ior X0.here hx rfl (hb hby d1_30) rfl k) ?_
  show Gl p.tables e below (QQof s (Q_bc3 Z a1 kA u0 u1 u2 h0 n0) 0 0) (s₁.setTop (mkF m 31 #[.val (.ref a1), .val (.int (orB (0 : Int32) u0)), .val (.ref a1), .val (.int (3 : Int32)), .val (.int (1 : Int32)), .val (.int u1)] [(.int ((orB (0 : Int32) u0) ||| ((1 : Int32) <<< ((u1 &&& (15 : Int32)) &&& 31))))]))
  show Gl p.tables e below (QQof s (Q_bc3 Z a1 kA u0 u1 u2 h0 n0) 0 0) (s₁.setTop (mkF m 31 #[.val (.ref a1), .val (.int (orB (0 : Int32) u0)), .val (.ref a1), .val (.int (3 : Int32)), .val (.int (1 : Int32)), .val (.int u1)] [(.int (orB (orB (0 : Int32) u0) u1))]))
  refine Gl.go (fun _ k => XS.istoreN X0.here hx rfl (hb hby d1_31) rfl (l' := #[.val (.ref a1), .val (.int (orB (orB (0 : Int32) u0) u1)), .val (.ref a1), .val (.int (3 : Int32)), .val (.int (1 : Int32)), .val (.int u1)]) rfl k) ?_
  show Gl p.tables e below (QQof s (Q_bc3 Z a1 kA u0 u1 u2 h0 n0) 0 0) (s₁.setTop (mkF m 32 #[.val (.ref a1), .val (.int (orB (orB (0 : Int32) u0) u1)), .val (.ref a1), .val (.int (3 : Int32)), .val (.int (1 : Int32)), .val (.int u1)] []))
  refine Gl.go (fun _ k => XS.iinc X0.here hx rfl (hb hby d1_32) rfl (l' := #[.val (.ref a1), .val (.int (orB (orB (0 : Int32) u0) u1)), .val (.ref a1), .val (.int (3 : Int32)), .val (.int ((1 : Int32) + (1 : Int32))), .val (.int u1)]) rfl k) ?_
  show Gl p.tables e below (QQof s (Q_bc3 Z a1 kA u0 u1 u2 h0 n0) 0 0) (s₁.setTop (mkF m 35 #[.val (.ref a1), .val (.int (orB (orB (0 : Int32) u0) u1)), .val (.ref a1), .val (.int (3 : Int32)), .val (.int ((1 : Int32) + (1 : Int32))), .val (.int u1)] []))
  rw [(by decide : ((1 : Int32) + (1 : Int32)) = (2 : Int32))]
  show Gl p.tables e below (QQof s (Q_bc3 Z a1 kA u0 u1 u2 h0 n0) 0 0) (s₁.setTop (mkF m 35 #[.val (.ref a1), .val (.int (orB (orB (0 : Int32) u0) u1)), .val (.ref a1), .val (.int (3 : Int32)), .val (.int (2 : Int32)), .val (.int u1)] []))
  refine Gl.go (fun _ k => XS.goto X0.here hx rfl (pc0 := 35) (pc' := 10) rfl (hb hby d1_35) (by decide) (by decide) k) ?_
  show Gl p.tables e below (QQof s (Q_bc3 Z a1 kA u0 u1 u2 h0 n0) 0 0) (s₁.setTop (mkF m 10 #[.val (.ref a1), .val (.int (orB (orB (0 : Int32) u0) u1)), .val (.ref a1), .val (.int (3 : Int32)), .val (.int (2 : Int32)), .val (.int u1)] []))
  refine Gl.go (fun _ k => XS.iload X0.here hx rfl (hb hby d1_10) rfl  k) ?_
  show Gl p.tables e below (QQof s (Q_bc3 Z a1 kA u0 u1 u2 h0 n0) 0 0) (s₁.setTop (mkF m 12 #[.val (.ref a1), .val (.int (orB (orB (0 : Int32) u0) u1)), .val (.ref a1), .val (.int (3 : Int32)), .val (.int (2 : Int32)), .val (.int u1)] [(.int (2 : Int32))]))
  refine Gl.go (fun _ k => XS.iloadN X0.here hx rfl (hb hby d1_12) rfl  k) ?_
  show Gl p.tables e below (QQof s (Q_bc3 Z a1 kA u0 u1 u2 h0 n0) 0 0) (s₁.setTop (mkF m 13 #[.val (.ref a1), .val (.int (orB (orB (0 : Int32) u0) u1)), .val (.ref a1), .val (.int (3 : Int32)), .val (.int (2 : Int32)), .val (.int u1)] [(.int (3 : Int32)), (.int (2 : Int32))]))
  refine Gl.go (fun _ k => XS.icmpNo X0.here hx rfl (hb hby d1_13) rfl (tlt (by decide)).2.1 k) ?_
  show Gl p.tables e below (QQof s (Q_bc3 Z a1 kA u0 u1 u2 h0 n0) 0 0) (s₁.setTop (mkF m 16 #[.val (.ref a1), .val (.int (orB (orB (0 : Int32) u0) u1)), .val (.ref a1), .val (.int (3 : Int32)), .val (.int (2 : Int32)), .val (.int u1)] []))
  refine Gl.go (fun _ k => XS.aloadN X0.here hx rfl (hb hby d1_16) rfl rfl  k) ?_
  show Gl p.tables e below (QQof s (Q_bc3 Z a1 kA u0 u1 u2 h0 n0) 0 0) (s₁.setTop (mkF m 17 #[.val (.ref a1), .val (.int (orB (orB (0 : Int32) u0) u1)), .val (.ref a1), .val (.int (3 : Int32)), .val (.int (2 : Int32)), .val (.int u1)] [(.ref a1)]))
  refine Gl.go (fun _ k => XS.iload X0.here hx rfl (hb hby d1_17) rfl  k) ?_
  show Gl p.tables e below (QQof s (Q_bc3 Z a1 kA u0 u1 u2 h0 n0) 0 0) (s₁.setTop (mkF m 19 #[.val (.ref a1), .val (.int (orB (orB (0 : Int32) u0) u1)), .val (.ref a1), .val (.int (3 : Int32)), .val (.int (2 : Int32)), .val (.int u1)] [(.int (2 : Int32)), (.ref a1)]))
  obtain ⟨cl4, Ar4, qA4, SA4, NA4, HA4, GA4⟩ := id V0
  have hin4 := inb_of (j := (2 : Int32)) SA4 ⟨by decide, by decide⟩
  have hat4 : cl4.slots[((2 : Int32)).toNatClampNeg]? = some (.int u2) := HA4.at hin4 rfl
  refine Gl.go (fun _ k => X0.baloadBytes hx (j := (2 : Int32)) (v := (.int u2)) (by rw [e0]; exact Ar4.1) (State.isArrayOf_alike hZ.alike Ar4.2.1) Ar4.2.2 hin4 hat4 (g := (mkF m 19 #[.val (.ref a1), .val (.int (orB (orB (0 : Int32) u0) u1)), .val (.ref a1), .val (.int (3 : Int32)), .val (.int (2 : Int32)), .val (.int u1)] [(.int (2 : Int32)), (.ref a1)])) rfl rfl (hb hby d1_19) _ k) ?_
  show Gl p.tables e below (QQof s (Q_bc3 Z a1 kA u0 u1 u2 h0 n0) 0 0) (s₁.setTop (mkF m 20 #[.val (.ref a1), .val (.int (orB (orB (0 : Int32) u0) u1)), .val (.ref a1), .val (.int (3 : Int32)), .val (.int (2 : Int32)), .val (.int u1)] [(.int u2)]))
  refine Gl.go (fun _ k => XS.istore X0.here hx rfl (hb hby d1_20) rfl (l' := #[.val (.ref a1), .val (.int (orB (orB (0 : Int32) u0) u1)), .val (.ref a1), .val (.int (3 : Int32)), .val (.int (2 : Int32)), .val (.int u2)]) rfl k) ?_
  show Gl p.tables e below (QQof s (Q_bc3 Z a1 kA u0 u1 u2 h0 n0) 0 0) (s₁.setTop (mkF m 22 #[.val (.ref a1), .val (.int (orB (orB (0 : Int32) u0) u1)), .val (.ref a1), .val (.int (3 : Int32)), .val (.int (2 : Int32)), .val (.int u2)] []))
  refine Gl.go (fun _ k => XS.iloadN X0.here hx rfl (hb hby d1_22) rfl  k) ?_
  show Gl p.tables e below (QQof s (Q_bc3 Z a1 kA u0 u1 u2 h0 n0) 0 0) (s₁.setTop (mkF m 23 #[.val (.ref a1), .val (.int (orB (orB (0 : Int32) u0) u1)), .val (.ref a1), .val (.int (3 : Int32)), .val (.int (2 : Int32)), .val (.int u2)] [(.int (orB (orB (0 : Int32) u0) u1))]))
  refine Gl.go (fun _ k => XS.iconst X0.here hx rfl (hb hby d1_23) k) ?_
  show Gl p.tables e below (QQof s (Q_bc3 Z a1 kA u0 u1 u2 h0 n0) 0 0) (s₁.setTop (mkF m 24 #[.val (.ref a1), .val (.int (orB (orB (0 : Int32) u0) u1)), .val (.ref a1), .val (.int (3 : Int32)), .val (.int (2 : Int32)), .val (.int u2)] [(.int (1 : Int32)), (.int (orB (orB (0 : Int32) u0) u1))]))
  refine Gl.go (fun _ k => XS.iload X0.here hx rfl (hb hby d1_24) rfl  k) ?_
  show Gl p.tables e below (QQof s (Q_bc3 Z a1 kA u0 u1 u2 h0 n0) 0 0) (s₁.setTop (mkF m 26 #[.val (.ref a1), .val (.int (orB (orB (0 : Int32) u0) u1)), .val (.ref a1), .val (.int (3 : Int32)), .val (.int (2 : Int32)), .val (.int u2)] [(.int u2), (.int (1 : Int32)), (.int (orB (orB (0 : Int32) u0) u1))]))
  refine Gl.go (fun _ k => XS.bipush X0.here hx rfl (hb hby d1_26) k) ?_
  show Gl p.tables e below (QQof s (Q_bc3 Z a1 kA u0 u1 u2 h0 n0) 0 0) (s₁.setTop (mkF m 28 #[.val (.ref a1), .val (.int (orB (orB (0 : Int32) u0) u1)), .val (.ref a1), .val (.int (3 : Int32)), .val (.int (2 : Int32)), .val (.int u2)] [(.int (15 : Int32)), (.int u2), (.int (1 : Int32)), (.int (orB (orB (0 : Int32) u0) u1))]))
  refine Gl.go (fun _ k => XS.iand X0.here hx rfl (hb hby d1_28) rfl k) ?_
  show Gl p.tables e below (QQof s (Q_bc3 Z a1 kA u0 u1 u2 h0 n0) 0 0) (s₁.setTop (mkF m 29 #[.val (.ref a1), .val (.int (orB (orB (0 : Int32) u0) u1)), .val (.ref a1), .val (.int (3 : Int32)), .val (.int (2 : Int32)), .val (.int u2)] [(.int (u2 &&& (15 : Int32))), (.int (1 : Int32)), (.int (orB (orB (0 : Int32) u0) u1))]))
  refine Gl.go (fun _ k => XS.ishl X0.here hx rfl (hb hby d1_29) rfl k) ?_
  show Gl p.tables e below (QQof s (Q_bc3 Z a1 kA u0 u1 u2 h0 n0) 0 0) (s₁.setTop (mkF m 30 #[.val (.ref a1), .val (.int (orB (orB (0 : Int32) u0) u1)), .val (.ref a1), .val (.int (3 : Int32)), .val (.int (2 : Int32)), .val (.int u2)] [(.int ((1 : Int32) <<< ((u2 &&& (15 : Int32)) &&& 31))), (.int (orB (orB (0 : Int32) u0) u1))]))
  refine Gl.go (fun _ k => XS.ior X0.here hx rfl (hb hby d1_30) rfl k) ?_
  show Gl p.tables e below (QQof s (Q_bc3 Z a1 kA u0 u1 u2 h0 n0) 0 0) (s₁.setTop (mkF m 31 #[.val (.ref a1), .val (.int (orB (orB (0 : Int32) u0) u1)), .val (.ref a1), .val (.int (3 : Int32)), .val (.int (2 : Int32)), .val (.int u2)] [(.int ((orB (orB (0 : Int32) u0) u1) ||| ((1 : Int32) <<< ((u2 &&& (15 : Int32)) &&& 31))))]))
  show Gl p.tables e below (QQof s (Q_bc3 Z a1 kA u0 u1 u2 h0 n0) 0 0) (s₁.setTop (mkF m 31 #[.val (.ref a1), .val (.int (orB (orB (0 : Int32) u0) u1)), .val (.ref a1), .val (.int (3 : Int32)), .val (.int (2 : Int32)), .val (.int u2)] [(.int (orB (orB (orB (0 : Int32) u0) u1) u2))]))
  refine Gl.go (fun _ k => XS.istoreN X0.here hx rfl (hb hby d1_31) rfl (l' := #[.val (.ref a1), .val (.int (orB (orB (orB (0 : Int32) u0) u1) u2)), .val (.ref a1), .val (.int (3 : Int32)), .val (.int (2 : Int32)), .val (.int u2)]) rfl k) ?_
  show Gl p.tables e below (QQof s (Q_bc3 Z a1 kA u0 u1 u2 h0 n0) 0 0) (s₁.setTop (mkF m 32 #[.val (.ref a1), .val (.int (orB (orB (orB (0 : Int32) u0) u1) u2)), .val (.ref a1), .val (.int (3 : Int32)), .val (.int (2 : Int32)), .val (.int u2)] []))
  refine Gl.go (fun _ k => XS.iinc X0.here hx rfl (hb hby d1_32) rfl (l' := #[.val (.ref a1), .val (.int (orB (orB (orB (0 : Int32) u0) u1) u2)), .val (.ref a1), .val (.int (3 : Int32)), .val (.int ((2 : Int32) + (1 : Int32))), .val (.int u2)]) rfl k) ?_
  show Gl p.tables e below (QQof s (Q_bc3 Z a1 kA u0 u1 u2 h0 n0) 0 0) (s₁.setTop (mkF m 35 #[.val (.ref a1), .val (.int (orB (orB (orB (0 : Int32) u0) u1) u2)), .val (.ref a1), .val (.int (3 : Int32)), .val (.int ((2 : Int32) + (1 : Int32))), .val (.int u2)] []))
  rw [(by decide : ((2 : Int32) + (1 : Int32)) = (3 : Int32))]
  show Gl p.tables e below (QQof s (Q_bc3 Z a1 kA u0 u1 u2 h0 n0) 0 0) (s₁.setTop (mkF m 35 #[.val (.ref a1), .val (.int (orB (orB (orB (0 : Int32) u0) u1) u2)), .val (.ref a1), .val (.int (3 : Int32)), .val (.int (3 : Int32)), .val (.int u2)] []))
  refine Gl.go (fun _ k => XS.goto X0.here hx rfl (pc0 := 35) (pc' := 10) rfl (hb hby d1_35) (by decide) (by decide) k) ?_
  show Gl p.tables e below (QQof s (Q_bc3 Z a1 kA u0 u1 u2 h0 n0) 0 0) (s₁.setTop (mkF m 10 #[.val (.ref a1), .val (.int (orB (orB (orB (0 : Int32) u0) u1) u2)), .val (.ref a1), .val (.int (3 : Int32)), .val (.int (3 : Int32)), .val (.int u2)] []))
  refine Gl.go (fun _ k => XS.iload X0.here hx rfl (hb hby d1_10) rfl  k) ?_
  show Gl p.tables e below (QQof s (Q_bc3 Z a1 kA u0 u1 u2 h0 n0) 0 0) (s₁.setTop (mkF m 12 #[.val (.ref a1), .val (.int (orB (orB (orB (0 : Int32) u0) u1) u2)), .val (.ref a1), .val (.int (3 : Int32)), .val (.int (3 : Int32)), .val (.int u2)] [(.int (3 : Int32))]))
  refine Gl.go (fun _ k => XS.iloadN X0.here hx rfl (hb hby d1_12) rfl  k) ?_
  show Gl p.tables e below (QQof s (Q_bc3 Z a1 kA u0 u1 u2 h0 n0) 0 0) (s₁.setTop (mkF m 13 #[.val (.ref a1), .val (.int (orB (orB (orB (0 : Int32) u0) u1) u2)), .val (.ref a1), .val (.int (3 : Int32)), .val (.int (3 : Int32)), .val (.int u2)] [(.int (3 : Int32)), (.int (3 : Int32))]))
  refine Gl.go (fun _ k => XS.icmpYes X0.here hx rfl (pc0 := 13) (pc' := 38) rfl (hb hby d1_13) rfl (flt (by decide)).2.1 (by decide) (by decide) k) ?_
  show Gl p.tables e below (QQof s (Q_bc3 Z a1 kA u0 u1 u2 h0 n0) 0 0) (s₁.setTop (mkF m 38 #[.val (.ref a1), .val (.int (orB (orB (orB (0 : Int32) u0) u1) u2)), .val (.ref a1), .val (.int (3 : Int32)), .val (.int (3 : Int32)), .val (.int u2)] []))
  refine Gl.go (fun _ k => XS.iloadN X0.here hx rfl (hb hby d1_38) rfl  k) ?_
  show Gl p.tables e below (QQof s (Q_bc3 Z a1 kA u0 u1 u2 h0 n0) 0 0) (s₁.setTop (mkF m 39 #[.val (.ref a1), .val (.int (orB (orB (orB (0 : Int32) u0) u1) u2)), .val (.ref a1), .val (.int (3 : Int32)), .val (.int (3 : Int32)), .val (.int u2)] [(.int (orB (orB (orB (0 : Int32) u0) u1) u2))]))
  refine Gl.go (fun _ k => XS.i2c X0.here hx rfl (hb hby d1_39) rfl k) ?_
  show Gl p.tables e below (QQof s (Q_bc3 Z a1 kA u0 u1 u2 h0 n0) 0 0) (s₁.setTop (mkF m 40 #[.val (.ref a1), .val (.int (orB (orB (orB (0 : Int32) u0) u1) u2)), .val (.ref a1), .val (.int (3 : Int32)), .val (.int (3 : Int32)), .val (.int u2)] [(.int ((orB (orB (orB (0 : Int32) u0) u1) u2).toUInt32.toUInt16.toUInt32.toInt32))]))
  refine leafN X0 hx hlk (t := .char) Bd.returns (by simp) (hb hby d1_40) ?_ (by decide) (by decide)
  exact ⟨rfl, N0, e0⟩
def Q_sg (Z : State) (q1 q2 : Int32) (h0 : Heap) (n0 : Nat) (v : Option Value) (h : Heap) (L : List Loc) : Prop := v = some (.int (sgV q1 q2)) ∧ Fr n0 L ∧ h = h0
set_option maxRecDepth 65536 in
set_option maxHeartbeats 40000000 in
theorem rm_sg (l : Launch) (Z : State) (a0 : Array Value) (hw : ∀ d ∈ tables_1, d.before a0 Z = true) (ws : List Jvm.Cond) (q1 q2 : Int32) (h0 : Heap) (n0 : Nat) (Z0 : n0 ≤ h0.size)  :
    MetFree l (⟨"com/example/aloud/aloud/PathPatternByteClassesPinLaw", "single", "(II)Z"⟩ : MethodName) (head1 (Jvm.Cond.code (⟨"com/example/aloud/aloud/PathPatternByteClassesPinLaw", "single", "(II)Z"⟩ : MethodName) method_2_code 2 (some .boolean) :: ws) ({ frames := 0, cells := 0, slots := 0, locals := 0 } : Room)) (fun aa U => aa = #[(.int q1), (.int q2)] ∧ Z.Warmed39 U.vm ∧ U.heap = h0) (fun _ _ _ _ _ => True) (fun _ U o U' => ∃ v L, o = .returned v ∧ Q_sg Z q1 q2 h0 n0 v U'.heap L ∧ FrameEnd U o U' L ({ frames := 0, cells := 0, slots := 0, locals := 0 } : Room).cells ({ frames := 0, cells := 0, slots := 0, locals := 0 } : Room).slots) := by
  refine MetFree.of_bodySF (plainFor_of_name pn_1) hisR ?_
  intro p e s m args below meth c s₁ Bd hml0 hP hK
  obtain ⟨rfl, hZ, hh⟩ := hP
  have hx := Bd.exec
  have hby := Bd.bytes
  have hml : c.maxLocals = 2 := hml0
  have hown : s.vm.findClass "com/example/aloud/aloud/PathPatternByteClassesPinLaw" = some m.cls := findClass_of_methodNamed Bd.named
  have hnm := (name_of_methodNamed Bd.named Bd.method).1
  have hlk : meth.locks = false := BodyLoose.notSynchronized Bd
  have X0 : Stand p l e ({ frames := 0, cells := 0, slots := 0, locals := 0 } : Room) s m #[(.int q1), (.int q2)] below meth c s₁ [] 0 0 := Stand.of_body Bd
  have e0 : s₁.heap = h0 := by rw [← hh, Bd.state]; rfl
  have N0 := Fr.nil n0
  have K0 : Keep h0 h0 [] := Keep.refl _ _
  show Gl p.tables e below (QQof s (Q_sg Z q1 q2 h0 n0) 0 0) (s₁.setTop (entryFrame m #[(.int q1), (.int q2)] 2))
  refine Gl.go (fun t k => castTop (ef_sg m q1 q2) k) ?_
  show Gl p.tables e below (QQof s (Q_sg Z q1 q2 h0 n0) 0 0) (s₁.setTop (mkF m 0 #[.val (.int q1), .val (.int q2)] []))
  refine Gl.go (fun _ k => XS.iloadN X0.here hx rfl (hb hby d2_0) rfl  k) ?_
  show Gl p.tables e below (QQof s (Q_sg Z q1 q2 h0 n0) 0 0) (s₁.setTop (mkF m 1 #[.val (.int q1), .val (.int q2)] [(.int q2)]))
  refine Gl.go (fun _ k => XS.iloadN X0.here hx rfl (hb hby d2_1) rfl  k) ?_
  show Gl p.tables e below (QQof s (Q_sg Z q1 q2 h0 n0) 0 0) (s₁.setTop (mkF m 2 #[.val (.int q1), .val (.int q2)] [(.int q1), (.int q2)]))
  refine Gl.go (fun _ k => XS.bipush X0.here hx rfl (hb hby d2_2) k) ?_
  show Gl p.tables e below (QQof s (Q_sg Z q1 q2 h0 n0) 0 0) (s₁.setTop (mkF m 4 #[.val (.int q1), .val (.int q2)] [(.int (15 : Int32)), (.int q1), (.int q2)]))
  refine Gl.go (fun _ k => XS.iand X0.here hx rfl (hb hby d2_4) rfl k) ?_
  show Gl p.tables e below (QQof s (Q_sg Z q1 q2 h0 n0) 0 0) (s₁.setTop (mkF m 5 #[.val (.int q1), .val (.int q2)] [(.int (q1 &&& (15 : Int32))), (.int q2)]))
  refine Gl.go (fun _ k => XS.iushr X0.here hx rfl (hb hby d2_5) rfl k) ?_
  show Gl p.tables e below (QQof s (Q_sg Z q1 q2 h0 n0) 0 0) (s₁.setTop (mkF m 6 #[.val (.int q1), .val (.int q2)] [(.int ((q2.toUInt32 >>> ((q1 &&& (15 : Int32)) &&& 31).toUInt32).toInt32))]))
  refine Gl.go (fun _ k => XS.iconst X0.here hx rfl (hb hby d2_6) k) ?_
  show Gl p.tables e below (QQof s (Q_sg Z q1 q2 h0 n0) 0 0) (s₁.setTop (mkF m 7 #[.val (.int q1), .val (.int q2)] [(.int (1 : Int32)), (.int ((q2.toUInt32 >>> ((q1 &&& (15 : Int32)) &&& 31).toUInt32).toInt32))]))
  by_cases h7 : ((q2.toUInt32 >>> ((q1 &&& (15 : Int32)) &&& 31).toUInt32).toInt32) = (1 : Int32)
  · skip
    refine Gl.go (fun _ k => XS.icmpNo X0.here hx rfl (hb hby d2_7) rfl (teq h7).2 k) ?_
    show Gl p.tables e below (QQof s (Q_sg Z q1 q2 h0 n0) 0 0) (s₁.setTop (mkF m 10 #[.val (.int q1), .val (.int q2)] []))
    refine Gl.go (fun _ k => XS.iconst X0.here hx rfl (hb hby d2_10) k) ?_
    show Gl p.tables e below (QQof s (Q_sg Z q1 q2 h0 n0) 0 0) (s₁.setTop (mkF m 11 #[.val (.int q1), .val (.int q2)] [(.int (1 : Int32))]))
    refine Gl.go (fun _ k => XS.goto X0.here hx rfl (pc0 := 11) (pc' := 15) rfl (hb hby d2_11) (by decide) (by decide) k) ?_
    show Gl p.tables e below (QQof s (Q_sg Z q1 q2 h0 n0) 0 0) (s₁.setTop (mkF m 15 #[.val (.int q1), .val (.int q2)] [(.int (1 : Int32))]))
    refine leafN X0 hx hlk (t := .boolean) Bd.returns (by simp) (hb hby d2_15) ?_ (by decide) (by decide)
    exact ⟨by rw [nar1, sgV, if_pos h7], N0, e0⟩
  · skip
    refine Gl.go (fun _ k => XS.icmpYes X0.here hx rfl (pc0 := 7) (pc' := 14) rfl (hb hby d2_7) rfl (feq h7).2 (by decide) (by decide) k) ?_
    show Gl p.tables e below (QQof s (Q_sg Z q1 q2 h0 n0) 0 0) (s₁.setTop (mkF m 14 #[.val (.int q1), .val (.int q2)] []))
    refine Gl.go (fun _ k => XS.iconst X0.here hx rfl (hb hby d2_14) k) ?_
    show Gl p.tables e below (QQof s (Q_sg Z q1 q2 h0 n0) 0 0) (s₁.setTop (mkF m 15 #[.val (.int q1), .val (.int q2)] [(.int (0 : Int32))]))
    refine leafN X0 hx hlk (t := .boolean) Bd.returns (by simp) (hb hby d2_15) ?_ (by decide) (by decide)
    exact ⟨by rw [nar0, sgV, if_neg h7], N0, e0⟩
def Q_law (Z : State) (a b c_ d : Int32) (h0 : Heap) (n0 : Nat) (v : Option Value) (h : Heap) (L : List Loc) : Prop := v = some (.int 1) ∧ Fr n0 L
set_option maxRecDepth 65536 in
set_option maxHeartbeats 40000000 in
theorem rm_law (l : Launch) (Z : State) (a0 : Array Value) (hw : ∀ d ∈ tables_1, d.before a0 Z = true) (ws : List Jvm.Cond) (a b c_ d : Int32) (h0 : Heap) (n0 : Nat) (Z0 : n0 ≤ h0.size)  :
    MetFree l x (head1 (Jvm.Cond.code x code maxLocals ret :: ws) room_1) (fun aa U => aa = #[(.int a), (.int b), (.int c_), (.int d)] ∧ Z.Warmed39 U.vm ∧ U.heap = h0) (fun _ _ _ _ _ => True) (fun _ U o U' => ∃ v L, o = .returned v ∧ Q_law Z a b c_ d h0 n0 v U'.heap L ∧ FrameEnd U o U' L 4 6) := by
  refine MetFree.of_bodySF (plainFor_of_name pn_1) hisR ?_
  intro p e s m args below meth c s₁ Bd hml0 hP hK
  obtain ⟨rfl, hZ, hh⟩ := hP
  have hx := Bd.exec
  have hby := Bd.bytes
  have hml : c.maxLocals = 14 := hml0
  have hown : s.vm.findClass "com/example/aloud/aloud/PathPatternByteClassesPinLaw" = some m.cls := findClass_of_methodNamed Bd.named
  have hnm := (name_of_methodNamed Bd.named Bd.method).1
  have hlk : meth.locks = false := BodyLoose.notSynchronized Bd
  have X0 : Stand p l e room_1 s m #[(.int a), (.int b), (.int c_), (.int d)] below meth c s₁ [] 0 0 := Stand.of_body Bd
  have e0 : s₁.heap = h0 := by rw [← hh, Bd.state]; rfl
  have N0 := Fr.nil n0
  have K0 : Keep h0 h0 [] := Keep.refl _ _
  show Gl p.tables e below (QQof s (Q_law Z a b c_ d h0 n0) 4 6) (s₁.setTop (entryFrame m #[(.int a), (.int b), (.int c_), (.int d)] maxLocals))
  refine Gl.go (fun t k => castTop (ef_law m a b c_ d) k) ?_
  show Gl p.tables e below (QQof s (Q_law Z a b c_ d h0 n0) 4 6) (s₁.setTop (mkF m 0 #[.val (.int a), .val (.int b), .val (.int c_), .val (.int d), .unset, .unset, .unset, .unset, .unset, .unset, .unset, .unset, .unset, .unset] []))
  refine Gl.go (fun _ k => XS.iloadN X0.here hx rfl (hb hby at_0) rfl  k) ?_
  show Gl p.tables e below (QQof s (Q_law Z a b c_ d h0 n0) 4 6) (s₁.setTop (mkF m 1 #[.val (.int a), .val (.int b), .val (.int c_), .val (.int d), .unset, .unset, .unset, .unset, .unset, .unset, .unset, .unset, .unset, .unset] [(.int d)]))
  refine Gl.go (fun _ k => XS.iconst X0.here hx rfl (hb hby at_1) k) ?_
  show Gl p.tables e below (QQof s (Q_law Z a b c_ d h0 n0) 4 6) (s₁.setTop (mkF m 2 #[.val (.int a), .val (.int b), .val (.int c_), .val (.int d), .unset, .unset, .unset, .unset, .unset, .unset, .unset, .unset, .unset, .unset] [(.int (3 : Int32)), (.int d)]))
  refine Gl.go (fun _ k => XS.iand X0.here hx rfl (hb hby at_2) rfl k) ?_
  show Gl p.tables e below (QQof s (Q_law Z a b c_ d h0 n0) 4 6) (s₁.setTop (mkF m 3 #[.val (.int a), .val (.int b), .val (.int c_), .val (.int d), .unset, .unset, .unset, .unset, .unset, .unset, .unset, .unset, .unset, .unset] [(.int (d &&& (3 : Int32)))]))
  rcases own_len d with hl | hl | hl | hl
  · skip
    rw [(hl : (d &&& (3 : Int32)) = (0 : Int32))]
    show Gl p.tables e below (QQof s (Q_law Z a b c_ d h0 n0) 4 6) (s₁.setTop (mkF m 3 #[.val (.int a), .val (.int b), .val (.int c_), .val (.int d), .unset, .unset, .unset, .unset, .unset, .unset, .unset, .unset, .unset, .unset] [(.int (0 : Int32))]))
    refine Gl.go (fun _ k => XS.istore X0.here hx rfl (hb hby at_3) rfl (l' := #[.val (.int a), .val (.int b), .val (.int c_), .val (.int d), .val (.int (0 : Int32)), .unset, .unset, .unset, .unset, .unset, .unset, .unset, .unset, .unset]) rfl k) ?_
    show Gl p.tables e below (QQof s (Q_law Z a b c_ d h0 n0) 4 6) (s₁.setTop (mkF m 5 #[.val (.int a), .val (.int b), .val (.int c_), .val (.int d), .val (.int (0 : Int32)), .unset, .unset, .unset, .unset, .unset, .unset, .unset, .unset, .unset] []))
    refine Gl.go (fun _ k => XS.iconst X0.here hx rfl (hb hby at_5) k) ?_
    show Gl p.tables e below (QQof s (Q_law Z a b c_ d h0 n0) 4 6) (s₁.setTop (mkF m 6 #[.val (.int a), .val (.int b), .val (.int c_), .val (.int d), .val (.int (0 : Int32)), .unset, .unset, .unset, .unset, .unset, .unset, .unset, .unset, .unset] [(.int (1 : Int32))]))
    obtain ⟨T1, h1, cA1, X1, e1, E1, A1, st1⟩ := newP X0 hx hZ (hw _ (List.mem_of_getElem? (i := 0) rfl)) e0 (g := (mkF m 6 #[.val (.int a), .val (.int b), .val (.int c_), .val (.int d), .val (.int (0 : Int32)), .unset, .unset, .unset, .unset, .unset, .unset, .unset, .unset, .unset] [(.int (1 : Int32))])) rfl (hb hby at_6) rfl (by decide) (cap := 1) (by decide) (by decide) (by decide) (by decide)
    obtain ⟨b1, g1⟩ : ∃ z, z = h0.size := ⟨_, rfl⟩
    rw [← g1] at A1 st1
    have g_b1 : n0 ≤ b1 := Nat.le_trans Z0 (Nat.le_of_eq g1.symm)
    have sz_b1 : h0.size ≤ b1 := Nat.le_trans K0.1 (Nat.le_of_eq g1.symm)
    have SZ1 : n0 ≤ h1.size := Nat.le_trans Z0 E1.1
    have K1 : Keep h0 h1 [] := K0.ext E1
    have V_b1_1 : Arv Z h1 b1 cA1 .byte (1 : Int32) [(.int (0 : Int32))] (.int (0 : Int32)) := (Arv.new A1 (by decide)).pad (pad_rep [] _ 1)
    refine Gl.go (fun _ k => st1 _ k) ?_
    show Gl p.tables e below (QQof s (Q_law Z a b c_ d h0 n0) 4 6) (T1.setTop (mkF m 8 #[.val (.int a), .val (.int b), .val (.int c_), .val (.int d), .val (.int (0 : Int32)), .unset, .unset, .unset, .unset, .unset, .unset, .unset, .unset, .unset] [(.ref b1)]))
    refine Gl.go (fun _ k => XS.dup X1.here hx rfl (hb hby at_8) rfl rfl k) ?_
    show Gl p.tables e below (QQof s (Q_law Z a b c_ d h0 n0) 4 6) (T1.setTop (mkF m 9 #[.val (.int a), .val (.int b), .val (.int c_), .val (.int d), .val (.int (0 : Int32)), .unset, .unset, .unset, .unset, .unset, .unset, .unset, .unset, .unset] [(.ref b1), (.ref b1)]))
    refine Gl.go (fun _ k => XS.iconst X1.here hx rfl (hb hby at_9) k) ?_
    show Gl p.tables e below (QQof s (Q_law Z a b c_ d h0 n0) 4 6) (T1.setTop (mkF m 10 #[.val (.int a), .val (.int b), .val (.int c_), .val (.int d), .val (.int (0 : Int32)), .unset, .unset, .unset, .unset, .unset, .unset, .unset, .unset, .unset] [(.int (0 : Int32)), (.ref b1), (.ref b1)]))
    refine Gl.go (fun _ k => XS.iloadN X1.here hx rfl (hb hby at_10) rfl  k) ?_
    show Gl p.tables e below (QQof s (Q_law Z a b c_ d h0 n0) 4 6) (T1.setTop (mkF m 11 #[.val (.int a), .val (.int b), .val (.int c_), .val (.int d), .val (.int (0 : Int32)), .unset, .unset, .unset, .unset, .unset, .unset, .unset, .unset, .unset] [(.int a), (.int (0 : Int32)), (.ref b1), (.ref b1)]))
    refine Gl.go (fun _ k => XS.i2b X1.here hx rfl (hb hby at_11) rfl k) ?_
    show Gl p.tables e below (QQof s (Q_law Z a b c_ d h0 n0) 4 6) (T1.setTop (mkF m 12 #[.val (.int a), .val (.int b), .val (.int c_), .val (.int d), .val (.int (0 : Int32)), .unset, .unset, .unset, .unset, .unset, .unset, .unset, .unset, .unset] [(.int (a.toInt8.toInt32)), (.int (0 : Int32)), (.ref b1), (.ref b1)]))
    obtain ⟨cl2, Ar2, qA2, SA2, NA2, HA2, GA2⟩ := id V_b1_1
    obtain ⟨T2, h2, X2, e2, W2, st2⟩ := stB X1 hx hZ e1 Ar2 (j := (0 : Int32)) (inb_of SA2 ⟨by decide, by decide⟩) (g := (mkF m 12 #[.val (.int a), .val (.int b), .val (.int c_), .val (.int d), .val (.int (0 : Int32)), .unset, .unset, .unset, .unset, .unset, .unset, .unset, .unset, .unset] [(.int (a.toInt8.toInt32)), (.int (0 : Int32)), (.ref b1), (.ref b1)])) rfl rfl (hb hby at_12)
    have SZ2 : n0 ≤ h2.size := by rw [Wr.size W2]; exact SZ1
    have K2 : Keep h0 h2 [] := K1.wr W2 (Or.inr sz_b1)
    have N2 := Fr.snoc X2 N0 g_b1
    have V_b1_2 : Arv Z h2 b1 cA1 .byte (1 : Int32) [(.int (nar .byte (a.toInt8.toInt32)))] (.int (0 : Int32)) := Arv.set Ar2 qA2 SA2 NA2 HA2 GA2 (fits_nar_byte _) W2 0 rfl (Nat.le_of_ble_eq_true rfl)
    refine Gl.go (fun _ k => st2 _ k) ?_
    show Gl p.tables e below (QQof s (Q_law Z a b c_ d h0 n0) 4 6) (T2.setTop (mkF m 13 #[.val (.int a), .val (.int b), .val (.int c_), .val (.int d), .val (.int (0 : Int32)), .unset, .unset, .unset, .unset, .unset, .unset, .unset, .unset, .unset] [(.ref b1)]))
    refine Gl.go (fun _ k => XS.astore X2.here hx rfl (hb hby at_13) rfl rfl (l' := #[.val (.int a), .val (.int b), .val (.int c_), .val (.int d), .val (.int (0 : Int32)), .val (.ref b1), .unset, .unset, .unset, .unset, .unset, .unset, .unset, .unset]) rfl k) ?_
    show Gl p.tables e below (QQof s (Q_law Z a b c_ d h0 n0) 4 6) (T2.setTop (mkF m 15 #[.val (.int a), .val (.int b), .val (.int c_), .val (.int d), .val (.int (0 : Int32)), .val (.ref b1), .unset, .unset, .unset, .unset, .unset, .unset, .unset, .unset] []))
    refine Gl.go (fun _ k => XS.iconst X2.here hx rfl (hb hby at_15) k) ?_
    show Gl p.tables e below (QQof s (Q_law Z a b c_ d h0 n0) 4 6) (T2.setTop (mkF m 16 #[.val (.int a), .val (.int b), .val (.int c_), .val (.int d), .val (.int (0 : Int32)), .val (.ref b1), .unset, .unset, .unset, .unset, .unset, .unset, .unset, .unset] [(.int (1 : Int32))]))
    obtain ⟨T3, h3, cA3, X3, e3, E3, A3, st3⟩ := newP X2 hx hZ (hw _ (List.mem_of_getElem? (i := 0) rfl)) e2 (g := (mkF m 16 #[.val (.int a), .val (.int b), .val (.int c_), .val (.int d), .val (.int (0 : Int32)), .val (.ref b1), .unset, .unset, .unset, .unset, .unset, .unset, .unset, .unset] [(.int (1 : Int32))])) rfl (hb hby at_16) rfl (by decide) (cap := 1) (by decide) (by decide) (by decide) (by decide)
    obtain ⟨b3, g3⟩ : ∃ z, z = h2.size := ⟨_, rfl⟩
    rw [← g3] at A3 st3
    have g_b3 : n0 ≤ b3 := Nat.le_trans SZ2 (Nat.le_of_eq g3.symm)
    have sz_b3 : h0.size ≤ b3 := Nat.le_trans K2.1 (Nat.le_of_eq g3.symm)
    have ne_b1_b3 : b1 ≠ b3 := Nat.ne_of_lt (Nat.lt_of_lt_of_le V_b1_2.lt (Nat.le_of_eq g3.symm))
    have V_b1_3 : Arv Z h3 b1 cA1 .byte (1 : Int32) [(.int (nar .byte (a.toInt8.toInt32)))] (.int (0 : Int32)) := V_b1_2.ext E3
    have SZ3 : n0 ≤ h3.size := Nat.le_trans SZ2 E3.1
    have K3 : Keep h0 h3 [] := K2.ext E3
    have V_b3_3 : Arv Z h3 b3 cA3 .byte (1 : Int32) [(.int (0 : Int32))] (.int (0 : Int32)) := (Arv.new A3 (by decide)).pad (pad_rep [] _ 1)
    refine Gl.go (fun _ k => st3 _ k) ?_
    show Gl p.tables e below (QQof s (Q_law Z a b c_ d h0 n0) 4 6) (T3.setTop (mkF m 18 #[.val (.int a), .val (.int b), .val (.int c_), .val (.int d), .val (.int (0 : Int32)), .val (.ref b1), .unset, .unset, .unset, .unset, .unset, .unset, .unset, .unset] [(.ref b3)]))
    refine Gl.go (fun _ k => XS.dup X3.here hx rfl (hb hby at_18) rfl rfl k) ?_
    show Gl p.tables e below (QQof s (Q_law Z a b c_ d h0 n0) 4 6) (T3.setTop (mkF m 19 #[.val (.int a), .val (.int b), .val (.int c_), .val (.int d), .val (.int (0 : Int32)), .val (.ref b1), .unset, .unset, .unset, .unset, .unset, .unset, .unset, .unset] [(.ref b3), (.ref b3)]))
    refine Gl.go (fun _ k => XS.iconst X3.here hx rfl (hb hby at_19) k) ?_
    show Gl p.tables e below (QQof s (Q_law Z a b c_ d h0 n0) 4 6) (T3.setTop (mkF m 20 #[.val (.int a), .val (.int b), .val (.int c_), .val (.int d), .val (.int (0 : Int32)), .val (.ref b1), .unset, .unset, .unset, .unset, .unset, .unset, .unset, .unset] [(.int (0 : Int32)), (.ref b3), (.ref b3)]))
    refine Gl.go (fun _ k => XS.iloadN X3.here hx rfl (hb hby at_20) rfl  k) ?_
    show Gl p.tables e below (QQof s (Q_law Z a b c_ d h0 n0) 4 6) (T3.setTop (mkF m 21 #[.val (.int a), .val (.int b), .val (.int c_), .val (.int d), .val (.int (0 : Int32)), .val (.ref b1), .unset, .unset, .unset, .unset, .unset, .unset, .unset, .unset] [(.int b), (.int (0 : Int32)), (.ref b3), (.ref b3)]))
    refine Gl.go (fun _ k => XS.i2b X3.here hx rfl (hb hby at_21) rfl k) ?_
    show Gl p.tables e below (QQof s (Q_law Z a b c_ d h0 n0) 4 6) (T3.setTop (mkF m 22 #[.val (.int a), .val (.int b), .val (.int c_), .val (.int d), .val (.int (0 : Int32)), .val (.ref b1), .unset, .unset, .unset, .unset, .unset, .unset, .unset, .unset] [(.int (b.toInt8.toInt32)), (.int (0 : Int32)), (.ref b3), (.ref b3)]))
    obtain ⟨cl4, Ar4, qA4, SA4, NA4, HA4, GA4⟩ := id V_b3_3
    obtain ⟨T4, h4, X4, e4, W4, st4⟩ := stB X3 hx hZ e3 Ar4 (j := (0 : Int32)) (inb_of SA4 ⟨by decide, by decide⟩) (g := (mkF m 22 #[.val (.int a), .val (.int b), .val (.int c_), .val (.int d), .val (.int (0 : Int32)), .val (.ref b1), .unset, .unset, .unset, .unset, .unset, .unset, .unset, .unset] [(.int (b.toInt8.toInt32)), (.int (0 : Int32)), (.ref b3), (.ref b3)])) rfl rfl (hb hby at_22)
    have V_b1_4 : Arv Z h4 b1 cA1 .byte (1 : Int32) [(.int (nar .byte (a.toInt8.toInt32)))] (.int (0 : Int32)) := V_b1_3.other W4 ne_b1_b3
    have SZ4 : n0 ≤ h4.size := by rw [Wr.size W4]; exact SZ3
    have K4 : Keep h0 h4 [] := K3.wr W4 (Or.inr sz_b3)
    have N4 := Fr.snoc X4 N2 g_b3
    have V_b3_4 : Arv Z h4 b3 cA3 .byte (1 : Int32) [(.int (nar .byte (b.toInt8.toInt32)))] (.int (0 : Int32)) := Arv.set Ar4 qA4 SA4 NA4 HA4 GA4 (fits_nar_byte _) W4 0 rfl (Nat.le_of_ble_eq_true rfl)
    refine Gl.go (fun _ k => st4 _ k) ?_
    show Gl p.tables e below (QQof s (Q_law Z a b c_ d h0 n0) 4 6) (T4.setTop (mkF m 23 #[.val (.int a), .val (.int b), .val (.int c_), .val (.int d), .val (.int (0 : Int32)), .val (.ref b1), .unset, .unset, .unset, .unset, .unset, .unset, .unset, .unset] [(.ref b3)]))
    refine Gl.go (fun _ k => XS.astore X4.here hx rfl (hb hby at_23) rfl rfl (l' := #[.val (.int a), .val (.int b), .val (.int c_), .val (.int d), .val (.int (0 : Int32)), .val (.ref b1), .val (.ref b3), .unset, .unset, .unset, .unset, .unset, .unset, .unset]) rfl k) ?_
    show Gl p.tables e below (QQof s (Q_law Z a b c_ d h0 n0) 4 6) (T4.setTop (mkF m 25 #[.val (.int a), .val (.int b), .val (.int c_), .val (.int d), .val (.int (0 : Int32)), .val (.ref b1), .val (.ref b3), .unset, .unset, .unset, .unset, .unset, .unset, .unset] []))
    refine Gl.go (fun _ k => XS.iconst X4.here hx rfl (hb hby at_25) k) ?_
    show Gl p.tables e below (QQof s (Q_law Z a b c_ d h0 n0) 4 6) (T4.setTop (mkF m 26 #[.val (.int a), .val (.int b), .val (.int c_), .val (.int d), .val (.int (0 : Int32)), .val (.ref b1), .val (.ref b3), .unset, .unset, .unset, .unset, .unset, .unset, .unset] [(.int (1 : Int32))]))
    obtain ⟨T5, h5, cA5, X5, e5, E5, A5, st5⟩ := newP X4 hx hZ (hw _ (List.mem_of_getElem? (i := 0) rfl)) e4 (g := (mkF m 26 #[.val (.int a), .val (.int b), .val (.int c_), .val (.int d), .val (.int (0 : Int32)), .val (.ref b1), .val (.ref b3), .unset, .unset, .unset, .unset, .unset, .unset, .unset] [(.int (1 : Int32))])) rfl (hb hby at_26) rfl (by decide) (cap := 1) (by decide) (by decide) (by decide) (by decide)
    obtain ⟨b5, g5⟩ : ∃ z, z = h4.size := ⟨_, rfl⟩
    rw [← g5] at A5 st5
    have g_b5 : n0 ≤ b5 := Nat.le_trans SZ4 (Nat.le_of_eq g5.symm)
    have sz_b5 : h0.size ≤ b5 := Nat.le_trans K4.1 (Nat.le_of_eq g5.symm)
    have ne_b1_b5 : b1 ≠ b5 := Nat.ne_of_lt (Nat.lt_of_lt_of_le V_b1_4.lt (Nat.le_of_eq g5.symm))
    have ne_b3_b5 : b3 ≠ b5 := Nat.ne_of_lt (Nat.lt_of_lt_of_le V_b3_4.lt (Nat.le_of_eq g5.symm))
    have V_b1_5 : Arv Z h5 b1 cA1 .byte (1 : Int32) [(.int (nar .byte (a.toInt8.toInt32)))] (.int (0 : Int32)) := V_b1_4.ext E5
    have V_b3_5 : Arv Z h5 b3 cA3 .byte (1 : Int32) [(.int (nar .byte (b.toInt8.toInt32)))] (.int (0 : Int32)) := V_b3_4.ext E5
    have SZ5 : n0 ≤ h5.size := Nat.le_trans SZ4 E5.1
    have K5 : Keep h0 h5 [] := K4.ext E5
    have V_b5_5 : Arv Z h5 b5 cA5 .byte (1 : Int32) [(.int (0 : Int32))] (.int (0 : Int32)) := (Arv.new A5 (by decide)).pad (pad_rep [] _ 1)
    refine Gl.go (fun _ k => st5 _ k) ?_
    show Gl p.tables e below (QQof s (Q_law Z a b c_ d h0 n0) 4 6) (T5.setTop (mkF m 28 #[.val (.int a), .val (.int b), .val (.int c_), .val (.int d), .val (.int (0 : Int32)), .val (.ref b1), .val (.ref b3), .unset, .unset, .unset, .unset, .unset, .unset, .unset] [(.ref b5)]))
    refine Gl.go (fun _ k => XS.dup X5.here hx rfl (hb hby at_28) rfl rfl k) ?_
    show Gl p.tables e below (QQof s (Q_law Z a b c_ d h0 n0) 4 6) (T5.setTop (mkF m 29 #[.val (.int a), .val (.int b), .val (.int c_), .val (.int d), .val (.int (0 : Int32)), .val (.ref b1), .val (.ref b3), .unset, .unset, .unset, .unset, .unset, .unset, .unset] [(.ref b5), (.ref b5)]))
    refine Gl.go (fun _ k => XS.iconst X5.here hx rfl (hb hby at_29) k) ?_
    show Gl p.tables e below (QQof s (Q_law Z a b c_ d h0 n0) 4 6) (T5.setTop (mkF m 30 #[.val (.int a), .val (.int b), .val (.int c_), .val (.int d), .val (.int (0 : Int32)), .val (.ref b1), .val (.ref b3), .unset, .unset, .unset, .unset, .unset, .unset, .unset] [(.int (0 : Int32)), (.ref b5), (.ref b5)]))
    refine Gl.go (fun _ k => XS.iloadN X5.here hx rfl (hb hby at_30) rfl  k) ?_
    show Gl p.tables e below (QQof s (Q_law Z a b c_ d h0 n0) 4 6) (T5.setTop (mkF m 31 #[.val (.int a), .val (.int b), .val (.int c_), .val (.int d), .val (.int (0 : Int32)), .val (.ref b1), .val (.ref b3), .unset, .unset, .unset, .unset, .unset, .unset, .unset] [(.int c_), (.int (0 : Int32)), (.ref b5), (.ref b5)]))
    refine Gl.go (fun _ k => XS.i2b X5.here hx rfl (hb hby at_31) rfl k) ?_
    show Gl p.tables e below (QQof s (Q_law Z a b c_ d h0 n0) 4 6) (T5.setTop (mkF m 32 #[.val (.int a), .val (.int b), .val (.int c_), .val (.int d), .val (.int (0 : Int32)), .val (.ref b1), .val (.ref b3), .unset, .unset, .unset, .unset, .unset, .unset, .unset] [(.int (c_.toInt8.toInt32)), (.int (0 : Int32)), (.ref b5), (.ref b5)]))
    obtain ⟨cl6, Ar6, qA6, SA6, NA6, HA6, GA6⟩ := id V_b5_5
    obtain ⟨T6, h6, X6, e6, W6, st6⟩ := stB X5 hx hZ e5 Ar6 (j := (0 : Int32)) (inb_of SA6 ⟨by decide, by decide⟩) (g := (mkF m 32 #[.val (.int a), .val (.int b), .val (.int c_), .val (.int d), .val (.int (0 : Int32)), .val (.ref b1), .val (.ref b3), .unset, .unset, .unset, .unset, .unset, .unset, .unset] [(.int (c_.toInt8.toInt32)), (.int (0 : Int32)), (.ref b5), (.ref b5)])) rfl rfl (hb hby at_32)
    have V_b1_6 : Arv Z h6 b1 cA1 .byte (1 : Int32) [(.int (nar .byte (a.toInt8.toInt32)))] (.int (0 : Int32)) := V_b1_5.other W6 ne_b1_b5
    have V_b3_6 : Arv Z h6 b3 cA3 .byte (1 : Int32) [(.int (nar .byte (b.toInt8.toInt32)))] (.int (0 : Int32)) := V_b3_5.other W6 ne_b3_b5
    have SZ6 : n0 ≤ h6.size := by rw [Wr.size W6]; exact SZ5
    have K6 : Keep h0 h6 [] := K5.wr W6 (Or.inr sz_b5)
    have N6 := Fr.snoc X6 N4 g_b5
    have V_b5_6 : Arv Z h6 b5 cA5 .byte (1 : Int32) [(.int (nar .byte (c_.toInt8.toInt32)))] (.int (0 : Int32)) := Arv.set Ar6 qA6 SA6 NA6 HA6 GA6 (fits_nar_byte _) W6 0 rfl (Nat.le_of_ble_eq_true rfl)
    refine Gl.go (fun _ k => st6 _ k) ?_
    show Gl p.tables e below (QQof s (Q_law Z a b c_ d h0 n0) 4 6) (T6.setTop (mkF m 33 #[.val (.int a), .val (.int b), .val (.int c_), .val (.int d), .val (.int (0 : Int32)), .val (.ref b1), .val (.ref b3), .unset, .unset, .unset, .unset, .unset, .unset, .unset] [(.ref b5)]))
    refine Gl.go (fun _ k => XS.astore X6.here hx rfl (hb hby at_33) rfl rfl (l' := #[.val (.int a), .val (.int b), .val (.int c_), .val (.int d), .val (.int (0 : Int32)), .val (.ref b1), .val (.ref b3), .val (.ref b5), .unset, .unset, .unset, .unset, .unset, .unset]) rfl k) ?_
    show Gl p.tables e below (QQof s (Q_law Z a b c_ d h0 n0) 4 6) (T6.setTop (mkF m 35 #[.val (.int a), .val (.int b), .val (.int c_), .val (.int d), .val (.int (0 : Int32)), .val (.ref b1), .val (.ref b3), .val (.ref b5), .unset, .unset, .unset, .unset, .unset, .unset] []))
    refine Gl.go (fun _ k => XS.iload X6.here hx rfl (hb hby at_35) rfl  k) ?_
    show Gl p.tables e below (QQof s (Q_law Z a b c_ d h0 n0) 4 6) (T6.setTop (mkF m 37 #[.val (.int a), .val (.int b), .val (.int c_), .val (.int d), .val (.int (0 : Int32)), .val (.ref b1), .val (.ref b3), .val (.ref b5), .unset, .unset, .unset, .unset, .unset, .unset] [(.int (0 : Int32))]))
    obtain ⟨T7, h7, cA7, X7, e7, E7, A7, st7⟩ := newP X6 hx hZ (hw _ (List.mem_of_getElem? (i := 0) rfl)) e6 (g := (mkF m 37 #[.val (.int a), .val (.int b), .val (.int c_), .val (.int d), .val (.int (0 : Int32)), .val (.ref b1), .val (.ref b3), .val (.ref b5), .unset, .unset, .unset, .unset, .unset, .unset] [(.int (0 : Int32))])) rfl (hb hby at_37) rfl (by decide) (cap := 0) (by decide) (by decide) (by decide) (by decide)
    obtain ⟨b7, g7⟩ : ∃ z, z = h6.size := ⟨_, rfl⟩
    rw [← g7] at A7 st7
    have g_b7 : n0 ≤ b7 := Nat.le_trans SZ6 (Nat.le_of_eq g7.symm)
    have sz_b7 : h0.size ≤ b7 := Nat.le_trans K6.1 (Nat.le_of_eq g7.symm)
    have ne_b1_b7 : b1 ≠ b7 := Nat.ne_of_lt (Nat.lt_of_lt_of_le V_b1_6.lt (Nat.le_of_eq g7.symm))
    have ne_b3_b7 : b3 ≠ b7 := Nat.ne_of_lt (Nat.lt_of_lt_of_le V_b3_6.lt (Nat.le_of_eq g7.symm))
    have ne_b5_b7 : b5 ≠ b7 := Nat.ne_of_lt (Nat.lt_of_lt_of_le V_b5_6.lt (Nat.le_of_eq g7.symm))
    have V_b1_7 : Arv Z h7 b1 cA1 .byte (1 : Int32) [(.int (nar .byte (a.toInt8.toInt32)))] (.int (0 : Int32)) := V_b1_6.ext E7
    have V_b3_7 : Arv Z h7 b3 cA3 .byte (1 : Int32) [(.int (nar .byte (b.toInt8.toInt32)))] (.int (0 : Int32)) := V_b3_6.ext E7
    have V_b5_7 : Arv Z h7 b5 cA5 .byte (1 : Int32) [(.int (nar .byte (c_.toInt8.toInt32)))] (.int (0 : Int32)) := V_b5_6.ext E7
    have SZ7 : n0 ≤ h7.size := Nat.le_trans SZ6 E7.1
    have K7 : Keep h0 h7 [] := K6.ext E7
    have V_b7_7 : Arv Z h7 b7 cA7 .byte (0 : Int32) [] (.int (0 : Int32)) := (Arv.new A7 (by decide)).pad (pad_rep [] _ 0)
    refine Gl.go (fun _ k => st7 _ k) ?_
    show Gl p.tables e below (QQof s (Q_law Z a b c_ d h0 n0) 4 6) (T7.setTop (mkF m 39 #[.val (.int a), .val (.int b), .val (.int c_), .val (.int d), .val (.int (0 : Int32)), .val (.ref b1), .val (.ref b3), .val (.ref b5), .unset, .unset, .unset, .unset, .unset, .unset] [(.ref b7)]))
    refine Gl.go (fun _ k => XS.astore X7.here hx rfl (hb hby at_39) rfl rfl (l' := #[.val (.int a), .val (.int b), .val (.int c_), .val (.int d), .val (.int (0 : Int32)), .val (.ref b1), .val (.ref b3), .val (.ref b5), .val (.ref b7), .unset, .unset, .unset, .unset, .unset]) rfl k) ?_
    show Gl p.tables e below (QQof s (Q_law Z a b c_ d h0 n0) 4 6) (T7.setTop (mkF m 41 #[.val (.int a), .val (.int b), .val (.int c_), .val (.int d), .val (.int (0 : Int32)), .val (.ref b1), .val (.ref b3), .val (.ref b5), .val (.ref b7), .unset, .unset, .unset, .unset, .unset] []))
    refine Gl.go (fun _ k => XS.iload X7.here hx rfl (hb hby at_41) rfl  k) ?_
    show Gl p.tables e below (QQof s (Q_law Z a b c_ d h0 n0) 4 6) (T7.setTop (mkF m 43 #[.val (.int a), .val (.int b), .val (.int c_), .val (.int d), .val (.int (0 : Int32)), .val (.ref b1), .val (.ref b3), .val (.ref b5), .val (.ref b7), .unset, .unset, .unset, .unset, .unset] [(.int (0 : Int32))]))
    refine Gl.go (fun _ k => XS.ifYes X7.here hx rfl (pc0 := 43) (pc' := 52) rfl (hb hby at_43) rfl ((if0 _ _).trans (flt (by decide)).2.2.2) (by decide) (by decide) k) ?_
    show Gl p.tables e below (QQof s (Q_law Z a b c_ d h0 n0) 4 6) (T7.setTop (mkF m 52 #[.val (.int a), .val (.int b), .val (.int c_), .val (.int d), .val (.int (0 : Int32)), .val (.ref b1), .val (.ref b3), .val (.ref b5), .val (.ref b7), .unset, .unset, .unset, .unset, .unset] []))
    refine Gl.go (fun _ k => XS.iload X7.here hx rfl (hb hby at_52) rfl  k) ?_
    show Gl p.tables e below (QQof s (Q_law Z a b c_ d h0 n0) 4 6) (T7.setTop (mkF m 54 #[.val (.int a), .val (.int b), .val (.int c_), .val (.int d), .val (.int (0 : Int32)), .val (.ref b1), .val (.ref b3), .val (.ref b5), .val (.ref b7), .unset, .unset, .unset, .unset, .unset] [(.int (0 : Int32))]))
    refine Gl.go (fun _ k => XS.iconst X7.here hx rfl (hb hby at_54) k) ?_
    show Gl p.tables e below (QQof s (Q_law Z a b c_ d h0 n0) 4 6) (T7.setTop (mkF m 55 #[.val (.int a), .val (.int b), .val (.int c_), .val (.int d), .val (.int (0 : Int32)), .val (.ref b1), .val (.ref b3), .val (.ref b5), .val (.ref b7), .unset, .unset, .unset, .unset, .unset] [(.int (1 : Int32)), (.int (0 : Int32))]))
    refine Gl.go (fun _ k => XS.icmpYes X7.here hx rfl (pc0 := 55) (pc' := 64) rfl (hb hby at_55) rfl (flt (by decide)).2.2.2 (by decide) (by decide) k) ?_
    show Gl p.tables e below (QQof s (Q_law Z a b c_ d h0 n0) 4 6) (T7.setTop (mkF m 64 #[.val (.int a), .val (.int b), .val (.int c_), .val (.int d), .val (.int (0 : Int32)), .val (.ref b1), .val (.ref b3), .val (.ref b5), .val (.ref b7), .unset, .unset, .unset, .unset, .unset] []))
    refine Gl.go (fun _ k => XS.iload X7.here hx rfl (hb hby at_64) rfl  k) ?_
    show Gl p.tables e below (QQof s (Q_law Z a b c_ d h0 n0) 4 6) (T7.setTop (mkF m 66 #[.val (.int a), .val (.int b), .val (.int c_), .val (.int d), .val (.int (0 : Int32)), .val (.ref b1), .val (.ref b3), .val (.ref b5), .val (.ref b7), .unset, .unset, .unset, .unset, .unset] [(.int (0 : Int32))]))
    refine Gl.go (fun _ k => XS.iconst X7.here hx rfl (hb hby at_66) k) ?_
    show Gl p.tables e below (QQof s (Q_law Z a b c_ d h0 n0) 4 6) (T7.setTop (mkF m 67 #[.val (.int a), .val (.int b), .val (.int c_), .val (.int d), .val (.int (0 : Int32)), .val (.ref b1), .val (.ref b3), .val (.ref b5), .val (.ref b7), .unset, .unset, .unset, .unset, .unset] [(.int (2 : Int32)), (.int (0 : Int32))]))
    refine Gl.go (fun _ k => XS.icmpYes X7.here hx rfl (pc0 := 67) (pc' := 76) rfl (hb hby at_67) rfl (flt (by decide)).2.2.2 (by decide) (by decide) k) ?_
    show Gl p.tables e below (QQof s (Q_law Z a b c_ d h0 n0) 4 6) (T7.setTop (mkF m 76 #[.val (.int a), .val (.int b), .val (.int c_), .val (.int d), .val (.int (0 : Int32)), .val (.ref b1), .val (.ref b3), .val (.ref b5), .val (.ref b7), .unset, .unset, .unset, .unset, .unset] []))
    refine Gl.go (fun _ k => XS.aload X7.here hx rfl (hb hby at_76) rfl rfl  k) ?_
    show Gl p.tables e below (QQof s (Q_law Z a b c_ d h0 n0) 4 6) (T7.setTop (mkF m 78 #[.val (.int a), .val (.int b), .val (.int c_), .val (.int d), .val (.int (0 : Int32)), .val (.ref b1), .val (.ref b3), .val (.ref b5), .val (.ref b7), .unset, .unset, .unset, .unset, .unset] [(.ref b1)]))
    obtain ⟨_, _, ⟨T8, L8, k8, n8⟩, -, X8, ⟨Lc8, hQ8, l8, y8, z8⟩, st8⟩ := Jvm.LawKit.callS X7 hx (y := (⟨"com/example/aloud/aloud/PathPattern", "byteClasses", "([B)C"⟩ : MethodName)) hown (mvT hZ (hw _ (List.mem_of_getElem? (i := 1) rfl))) (mvT hZ (hw _ (List.mem_of_getElem? (i := 2) rfl))) (mvT hZ (hw _ (List.mem_of_getElem? (i := 3) rfl))) (mvT hZ (hw _ (List.mem_of_getElem? (i := 4) rfl))) (by decide) (backOf (W := 0) (rm_bc1 l Z a0 hw [] b1 cA1 (byB a) h7 n0 SZ7 V_b1_7) hZ (hw _ (List.mem_of_getElem? (i := 4) rfl)) (hw _ (List.mem_of_getElem? (i := 3) rfl)) (by decide) (by decide)) (g := (mkF m 78 #[.val (.int a), .val (.int b), .val (.int c_), .val (.int d), .val (.int (0 : Int32)), .val (.ref b1), .val (.ref b3), .val (.ref b5), .val (.ref b7), .unset, .unset, .unset, .unset, .unset] [(.ref b1)])) rfl (by rw [hml]; rfl) (argsL := [(.ref b1)]) (rest := []) (lenOf pd_0 rfl) rfl (by show 2 * 0 + _ ≤ _; exact Nat.le_of_eq rfl) (hb hby at_78) (fun _ _ => ⟨rfl, e7, (by decide : 4 + 0 ≤ _), (by decide : 3 + 0 ≤ _)⟩)
    dsimp only [Pt.U, Pt.locs, Pt.cells, Pt.slots] at X8 l8 y8 z8 st8 hQ8
    subst l8 y8 z8
    obtain ⟨rfl, Nq8, e8⟩ := hQ8
    have N8 := Fr.app N6 Nq8
    refine Gl.go (fun _ k => st8 _ k) ?_
    show Gl p.tables e below (QQof s (Q_law Z a b c_ d h0 n0) 4 6) (T8.setTop (mkF m 81 #[.val (.int a), .val (.int b), .val (.int c_), .val (.int d), .val (.int (0 : Int32)), .val (.ref b1), .val (.ref b3), .val (.ref b5), .val (.ref b7), .unset, .unset, .unset, .unset, .unset] [(.int (chV (orB (0 : Int32) (byB a))))]))
    refine Gl.go (fun _ k => XS.istore X8.here hx rfl (hb hby at_81) rfl (l' := #[.val (.int a), .val (.int b), .val (.int c_), .val (.int d), .val (.int (0 : Int32)), .val (.ref b1), .val (.ref b3), .val (.ref b5), .val (.ref b7), .val (.int (chV (orB (0 : Int32) (byB a)))), .unset, .unset, .unset, .unset]) rfl k) ?_
    show Gl p.tables e below (QQof s (Q_law Z a b c_ d h0 n0) 4 6) (T8.setTop (mkF m 83 #[.val (.int a), .val (.int b), .val (.int c_), .val (.int d), .val (.int (0 : Int32)), .val (.ref b1), .val (.ref b3), .val (.ref b5), .val (.ref b7), .val (.int (chV (orB (0 : Int32) (byB a)))), .unset, .unset, .unset, .unset] []))
    refine Gl.go (fun _ k => XS.aload X8.here hx rfl (hb hby at_83) rfl rfl  k) ?_
    show Gl p.tables e below (QQof s (Q_law Z a b c_ d h0 n0) 4 6) (T8.setTop (mkF m 85 #[.val (.int a), .val (.int b), .val (.int c_), .val (.int d), .val (.int (0 : Int32)), .val (.ref b1), .val (.ref b3), .val (.ref b5), .val (.ref b7), .val (.int (chV (orB (0 : Int32) (byB a)))), .unset, .unset, .unset, .unset] [(.ref b3)]))
    obtain ⟨_, _, ⟨T9, L9, k9, n9⟩, -, X9, ⟨Lc9, hQ9, l9, y9, z9⟩, st9⟩ := Jvm.LawKit.callS X8 hx (y := (⟨"com/example/aloud/aloud/PathPattern", "byteClasses", "([B)C"⟩ : MethodName)) hown (mvT hZ (hw _ (List.mem_of_getElem? (i := 1) rfl))) (mvT hZ (hw _ (List.mem_of_getElem? (i := 2) rfl))) (mvT hZ (hw _ (List.mem_of_getElem? (i := 3) rfl))) (mvT hZ (hw _ (List.mem_of_getElem? (i := 4) rfl))) (by decide) (backOf (W := 0) (rm_bc1 l Z a0 hw [] b3 cA3 (byB b) h7 n0 SZ7 V_b3_7) hZ (hw _ (List.mem_of_getElem? (i := 4) rfl)) (hw _ (List.mem_of_getElem? (i := 3) rfl)) (by decide) (by decide)) (g := (mkF m 85 #[.val (.int a), .val (.int b), .val (.int c_), .val (.int d), .val (.int (0 : Int32)), .val (.ref b1), .val (.ref b3), .val (.ref b5), .val (.ref b7), .val (.int (chV (orB (0 : Int32) (byB a)))), .unset, .unset, .unset, .unset] [(.ref b3)])) rfl (by rw [hml]; rfl) (argsL := [(.ref b3)]) (rest := []) (lenOf pd_0 rfl) rfl (by show 2 * 0 + _ ≤ _; exact Nat.le_of_eq rfl) (hb hby at_85) (fun _ _ => ⟨rfl, e8, (by decide : 4 + 0 ≤ _), (by decide : 3 + 0 ≤ _)⟩)
    dsimp only [Pt.U, Pt.locs, Pt.cells, Pt.slots] at X9 l9 y9 z9 st9 hQ9
    subst l9 y9 z9
    obtain ⟨rfl, Nq9, e9⟩ := hQ9
    have N9 := Fr.app N8 Nq9
    refine Gl.go (fun _ k => st9 _ k) ?_
    show Gl p.tables e below (QQof s (Q_law Z a b c_ d h0 n0) 4 6) (T9.setTop (mkF m 88 #[.val (.int a), .val (.int b), .val (.int c_), .val (.int d), .val (.int (0 : Int32)), .val (.ref b1), .val (.ref b3), .val (.ref b5), .val (.ref b7), .val (.int (chV (orB (0 : Int32) (byB a)))), .unset, .unset, .unset, .unset] [(.int (chV (orB (0 : Int32) (byB b))))]))
    refine Gl.go (fun _ k => XS.istore X9.here hx rfl (hb hby at_88) rfl (l' := #[.val (.int a), .val (.int b), .val (.int c_), .val (.int d), .val (.int (0 : Int32)), .val (.ref b1), .val (.ref b3), .val (.ref b5), .val (.ref b7), .val (.int (chV (orB (0 : Int32) (byB a)))), .val (.int (chV (orB (0 : Int32) (byB b)))), .unset, .unset, .unset]) rfl k) ?_
    show Gl p.tables e below (QQof s (Q_law Z a b c_ d h0 n0) 4 6) (T9.setTop (mkF m 90 #[.val (.int a), .val (.int b), .val (.int c_), .val (.int d), .val (.int (0 : Int32)), .val (.ref b1), .val (.ref b3), .val (.ref b5), .val (.ref b7), .val (.int (chV (orB (0 : Int32) (byB a)))), .val (.int (chV (orB (0 : Int32) (byB b)))), .unset, .unset, .unset] []))
    refine Gl.go (fun _ k => XS.aload X9.here hx rfl (hb hby at_90) rfl rfl  k) ?_
    show Gl p.tables e below (QQof s (Q_law Z a b c_ d h0 n0) 4 6) (T9.setTop (mkF m 92 #[.val (.int a), .val (.int b), .val (.int c_), .val (.int d), .val (.int (0 : Int32)), .val (.ref b1), .val (.ref b3), .val (.ref b5), .val (.ref b7), .val (.int (chV (orB (0 : Int32) (byB a)))), .val (.int (chV (orB (0 : Int32) (byB b)))), .unset, .unset, .unset] [(.ref b5)]))
    obtain ⟨_, _, ⟨T10, L10, k10, n10⟩, -, X10, ⟨Lc10, hQ10, l10, y10, z10⟩, st10⟩ := Jvm.LawKit.callS X9 hx (y := (⟨"com/example/aloud/aloud/PathPattern", "byteClasses", "([B)C"⟩ : MethodName)) hown (mvT hZ (hw _ (List.mem_of_getElem? (i := 1) rfl))) (mvT hZ (hw _ (List.mem_of_getElem? (i := 2) rfl))) (mvT hZ (hw _ (List.mem_of_getElem? (i := 3) rfl))) (mvT hZ (hw _ (List.mem_of_getElem? (i := 4) rfl))) (by decide) (backOf (W := 0) (rm_bc1 l Z a0 hw [] b5 cA5 (byB c_) h7 n0 SZ7 V_b5_7) hZ (hw _ (List.mem_of_getElem? (i := 4) rfl)) (hw _ (List.mem_of_getElem? (i := 3) rfl)) (by decide) (by decide)) (g := (mkF m 92 #[.val (.int a), .val (.int b), .val (.int c_), .val (.int d), .val (.int (0 : Int32)), .val (.ref b1), .val (.ref b3), .val (.ref b5), .val (.ref b7), .val (.int (chV (orB (0 : Int32) (byB a)))), .val (.int (chV (orB (0 : Int32) (byB b)))), .unset, .unset, .unset] [(.ref b5)])) rfl (by rw [hml]; rfl) (argsL := [(.ref b5)]) (rest := []) (lenOf pd_0 rfl) rfl (by show 2 * 0 + _ ≤ _; exact Nat.le_of_eq rfl) (hb hby at_92) (fun _ _ => ⟨rfl, e9, (by decide : 4 + 0 ≤ _), (by decide : 3 + 0 ≤ _)⟩)
    dsimp only [Pt.U, Pt.locs, Pt.cells, Pt.slots] at X10 l10 y10 z10 st10 hQ10
    subst l10 y10 z10
    obtain ⟨rfl, Nq10, e10⟩ := hQ10
    have N10 := Fr.app N9 Nq10
    refine Gl.go (fun _ k => st10 _ k) ?_
    show Gl p.tables e below (QQof s (Q_law Z a b c_ d h0 n0) 4 6) (T10.setTop (mkF m 95 #[.val (.int a), .val (.int b), .val (.int c_), .val (.int d), .val (.int (0 : Int32)), .val (.ref b1), .val (.ref b3), .val (.ref b5), .val (.ref b7), .val (.int (chV (orB (0 : Int32) (byB a)))), .val (.int (chV (orB (0 : Int32) (byB b)))), .unset, .unset, .unset] [(.int (chV (orB (0 : Int32) (byB c_))))]))
    refine Gl.go (fun _ k => XS.istore X10.here hx rfl (hb hby at_95) rfl (l' := #[.val (.int a), .val (.int b), .val (.int c_), .val (.int d), .val (.int (0 : Int32)), .val (.ref b1), .val (.ref b3), .val (.ref b5), .val (.ref b7), .val (.int (chV (orB (0 : Int32) (byB a)))), .val (.int (chV (orB (0 : Int32) (byB b)))), .val (.int (chV (orB (0 : Int32) (byB c_)))), .unset, .unset]) rfl k) ?_
    show Gl p.tables e below (QQof s (Q_law Z a b c_ d h0 n0) 4 6) (T10.setTop (mkF m 97 #[.val (.int a), .val (.int b), .val (.int c_), .val (.int d), .val (.int (0 : Int32)), .val (.ref b1), .val (.ref b3), .val (.ref b5), .val (.ref b7), .val (.int (chV (orB (0 : Int32) (byB a)))), .val (.int (chV (orB (0 : Int32) (byB b)))), .val (.int (chV (orB (0 : Int32) (byB c_)))), .unset, .unset] []))
    refine Gl.go (fun _ k => XS.aload X10.here hx rfl (hb hby at_97) rfl rfl  k) ?_
    show Gl p.tables e below (QQof s (Q_law Z a b c_ d h0 n0) 4 6) (T10.setTop (mkF m 99 #[.val (.int a), .val (.int b), .val (.int c_), .val (.int d), .val (.int (0 : Int32)), .val (.ref b1), .val (.ref b3), .val (.ref b5), .val (.ref b7), .val (.int (chV (orB (0 : Int32) (byB a)))), .val (.int (chV (orB (0 : Int32) (byB b)))), .val (.int (chV (orB (0 : Int32) (byB c_)))), .unset, .unset] [(.ref b7)]))
    obtain ⟨_, _, ⟨T11, L11, k11, n11⟩, -, X11, ⟨Lc11, hQ11, l11, y11, z11⟩, st11⟩ := Jvm.LawKit.callS X10 hx (y := (⟨"com/example/aloud/aloud/PathPattern", "byteClasses", "([B)C"⟩ : MethodName)) hown (mvT hZ (hw _ (List.mem_of_getElem? (i := 1) rfl))) (mvT hZ (hw _ (List.mem_of_getElem? (i := 2) rfl))) (mvT hZ (hw _ (List.mem_of_getElem? (i := 3) rfl))) (mvT hZ (hw _ (List.mem_of_getElem? (i := 4) rfl))) (by decide) (backOf (W := 0) (rm_bc0 l Z a0 hw [] b7 cA7  h7 n0 SZ7 V_b7_7) hZ (hw _ (List.mem_of_getElem? (i := 4) rfl)) (hw _ (List.mem_of_getElem? (i := 3) rfl)) (by decide) (by decide)) (g := (mkF m 99 #[.val (.int a), .val (.int b), .val (.int c_), .val (.int d), .val (.int (0 : Int32)), .val (.ref b1), .val (.ref b3), .val (.ref b5), .val (.ref b7), .val (.int (chV (orB (0 : Int32) (byB a)))), .val (.int (chV (orB (0 : Int32) (byB b)))), .val (.int (chV (orB (0 : Int32) (byB c_)))), .unset, .unset] [(.ref b7)])) rfl (by rw [hml]; rfl) (argsL := [(.ref b7)]) (rest := []) (lenOf pd_0 rfl) rfl (by show 2 * 0 + _ ≤ _; exact Nat.le_of_eq rfl) (hb hby at_99) (fun _ _ => ⟨rfl, e10, (by decide : 4 + 0 ≤ _), (by decide : 3 + 0 ≤ _)⟩)
    dsimp only [Pt.U, Pt.locs, Pt.cells, Pt.slots] at X11 l11 y11 z11 st11 hQ11
    subst l11 y11 z11
    obtain ⟨rfl, Nq11, e11⟩ := hQ11
    have N11 := Fr.app N10 Nq11
    refine Gl.go (fun _ k => st11 _ k) ?_
    show Gl p.tables e below (QQof s (Q_law Z a b c_ d h0 n0) 4 6) (T11.setTop (mkF m 102 #[.val (.int a), .val (.int b), .val (.int c_), .val (.int d), .val (.int (0 : Int32)), .val (.ref b1), .val (.ref b3), .val (.ref b5), .val (.ref b7), .val (.int (chV (orB (0 : Int32) (byB a)))), .val (.int (chV (orB (0 : Int32) (byB b)))), .val (.int (chV (orB (0 : Int32) (byB c_)))), .unset, .unset] [(.int (chV (0 : Int32)))]))
    refine Gl.go (fun _ k => XS.istore X11.here hx rfl (hb hby at_102) rfl (l' := #[.val (.int a), .val (.int b), .val (.int c_), .val (.int d), .val (.int (0 : Int32)), .val (.ref b1), .val (.ref b3), .val (.ref b5), .val (.ref b7), .val (.int (chV (orB (0 : Int32) (byB a)))), .val (.int (chV (orB (0 : Int32) (byB b)))), .val (.int (chV (orB (0 : Int32) (byB c_)))), .val (.int (chV (0 : Int32))), .unset]) rfl k) ?_
    show Gl p.tables e below (QQof s (Q_law Z a b c_ d h0 n0) 4 6) (T11.setTop (mkF m 104 #[.val (.int a), .val (.int b), .val (.int c_), .val (.int d), .val (.int (0 : Int32)), .val (.ref b1), .val (.ref b3), .val (.ref b5), .val (.ref b7), .val (.int (chV (orB (0 : Int32) (byB a)))), .val (.int (chV (orB (0 : Int32) (byB b)))), .val (.int (chV (orB (0 : Int32) (byB c_)))), .val (.int (chV (0 : Int32))), .unset] []))
    refine Gl.go (fun _ k => XS.iconst X11.here hx rfl (hb hby at_104) k) ?_
    show Gl p.tables e below (QQof s (Q_law Z a b c_ d h0 n0) 4 6) (T11.setTop (mkF m 105 #[.val (.int a), .val (.int b), .val (.int c_), .val (.int d), .val (.int (0 : Int32)), .val (.ref b1), .val (.ref b3), .val (.ref b5), .val (.ref b7), .val (.int (chV (orB (0 : Int32) (byB a)))), .val (.int (chV (orB (0 : Int32) (byB b)))), .val (.int (chV (orB (0 : Int32) (byB c_)))), .val (.int (chV (0 : Int32))), .unset] [(.int (0 : Int32))]))
    refine Gl.go (fun _ k => XS.istore X11.here hx rfl (hb hby at_105) rfl (l' := #[.val (.int a), .val (.int b), .val (.int c_), .val (.int d), .val (.int (0 : Int32)), .val (.ref b1), .val (.ref b3), .val (.ref b5), .val (.ref b7), .val (.int (chV (orB (0 : Int32) (byB a)))), .val (.int (chV (orB (0 : Int32) (byB b)))), .val (.int (chV (orB (0 : Int32) (byB c_)))), .val (.int (chV (0 : Int32))), .val (.int (0 : Int32))]) rfl k) ?_
    show Gl p.tables e below (QQof s (Q_law Z a b c_ d h0 n0) 4 6) (T11.setTop (mkF m 107 #[.val (.int a), .val (.int b), .val (.int c_), .val (.int d), .val (.int (0 : Int32)), .val (.ref b1), .val (.ref b3), .val (.ref b5), .val (.ref b7), .val (.int (chV (orB (0 : Int32) (byB a)))), .val (.int (chV (orB (0 : Int32) (byB b)))), .val (.int (chV (orB (0 : Int32) (byB c_)))), .val (.int (chV (0 : Int32))), .val (.int (0 : Int32))] []))
    refine Gl.go (fun _ k => XS.iload X11.here hx rfl (hb hby at_107) rfl  k) ?_
    show Gl p.tables e below (QQof s (Q_law Z a b c_ d h0 n0) 4 6) (T11.setTop (mkF m 109 #[.val (.int a), .val (.int b), .val (.int c_), .val (.int d), .val (.int (0 : Int32)), .val (.ref b1), .val (.ref b3), .val (.ref b5), .val (.ref b7), .val (.int (chV (orB (0 : Int32) (byB a)))), .val (.int (chV (orB (0 : Int32) (byB b)))), .val (.int (chV (orB (0 : Int32) (byB c_)))), .val (.int (chV (0 : Int32))), .val (.int (0 : Int32))] [(.int (0 : Int32))]))
    refine Gl.go (fun _ k => XS.ifYes X11.here hx rfl (pc0 := 109) (pc' := 119) rfl (hb hby at_109) rfl ((if0 _ _).trans (flt (by decide)).2.2.2) (by decide) (by decide) k) ?_
    show Gl p.tables e below (QQof s (Q_law Z a b c_ d h0 n0) 4 6) (T11.setTop (mkF m 119 #[.val (.int a), .val (.int b), .val (.int c_), .val (.int d), .val (.int (0 : Int32)), .val (.ref b1), .val (.ref b3), .val (.ref b5), .val (.ref b7), .val (.int (chV (orB (0 : Int32) (byB a)))), .val (.int (chV (orB (0 : Int32) (byB b)))), .val (.int (chV (orB (0 : Int32) (byB c_)))), .val (.int (chV (0 : Int32))), .val (.int (0 : Int32))] []))
    refine Gl.go (fun _ k => XS.iload X11.here hx rfl (hb hby at_119) rfl  k) ?_
    show Gl p.tables e below (QQof s (Q_law Z a b c_ d h0 n0) 4 6) (T11.setTop (mkF m 121 #[.val (.int a), .val (.int b), .val (.int c_), .val (.int d), .val (.int (0 : Int32)), .val (.ref b1), .val (.ref b3), .val (.ref b5), .val (.ref b7), .val (.int (chV (orB (0 : Int32) (byB a)))), .val (.int (chV (orB (0 : Int32) (byB b)))), .val (.int (chV (orB (0 : Int32) (byB c_)))), .val (.int (chV (0 : Int32))), .val (.int (0 : Int32))] [(.int (0 : Int32))]))
    refine Gl.go (fun _ k => XS.iconst X11.here hx rfl (hb hby at_121) k) ?_
    show Gl p.tables e below (QQof s (Q_law Z a b c_ d h0 n0) 4 6) (T11.setTop (mkF m 122 #[.val (.int a), .val (.int b), .val (.int c_), .val (.int d), .val (.int (0 : Int32)), .val (.ref b1), .val (.ref b3), .val (.ref b5), .val (.ref b7), .val (.int (chV (orB (0 : Int32) (byB a)))), .val (.int (chV (orB (0 : Int32) (byB b)))), .val (.int (chV (orB (0 : Int32) (byB c_)))), .val (.int (chV (0 : Int32))), .val (.int (0 : Int32))] [(.int (1 : Int32)), (.int (0 : Int32))]))
    refine Gl.go (fun _ k => XS.icmpYes X11.here hx rfl (pc0 := 122) (pc' := 132) rfl (hb hby at_122) rfl (flt (by decide)).2.2.2 (by decide) (by decide) k) ?_
    show Gl p.tables e below (QQof s (Q_law Z a b c_ d h0 n0) 4 6) (T11.setTop (mkF m 132 #[.val (.int a), .val (.int b), .val (.int c_), .val (.int d), .val (.int (0 : Int32)), .val (.ref b1), .val (.ref b3), .val (.ref b5), .val (.ref b7), .val (.int (chV (orB (0 : Int32) (byB a)))), .val (.int (chV (orB (0 : Int32) (byB b)))), .val (.int (chV (orB (0 : Int32) (byB c_)))), .val (.int (chV (0 : Int32))), .val (.int (0 : Int32))] []))
    refine Gl.go (fun _ k => XS.iload X11.here hx rfl (hb hby at_132) rfl  k) ?_
    show Gl p.tables e below (QQof s (Q_law Z a b c_ d h0 n0) 4 6) (T11.setTop (mkF m 134 #[.val (.int a), .val (.int b), .val (.int c_), .val (.int d), .val (.int (0 : Int32)), .val (.ref b1), .val (.ref b3), .val (.ref b5), .val (.ref b7), .val (.int (chV (orB (0 : Int32) (byB a)))), .val (.int (chV (orB (0 : Int32) (byB b)))), .val (.int (chV (orB (0 : Int32) (byB c_)))), .val (.int (chV (0 : Int32))), .val (.int (0 : Int32))] [(.int (0 : Int32))]))
    refine Gl.go (fun _ k => XS.iconst X11.here hx rfl (hb hby at_134) k) ?_
    show Gl p.tables e below (QQof s (Q_law Z a b c_ d h0 n0) 4 6) (T11.setTop (mkF m 135 #[.val (.int a), .val (.int b), .val (.int c_), .val (.int d), .val (.int (0 : Int32)), .val (.ref b1), .val (.ref b3), .val (.ref b5), .val (.ref b7), .val (.int (chV (orB (0 : Int32) (byB a)))), .val (.int (chV (orB (0 : Int32) (byB b)))), .val (.int (chV (orB (0 : Int32) (byB c_)))), .val (.int (chV (0 : Int32))), .val (.int (0 : Int32))] [(.int (2 : Int32)), (.int (0 : Int32))]))
    refine Gl.go (fun _ k => XS.icmpYes X11.here hx rfl (pc0 := 135) (pc' := 145) rfl (hb hby at_135) rfl (flt (by decide)).2.2.2 (by decide) (by decide) k) ?_
    show Gl p.tables e below (QQof s (Q_law Z a b c_ d h0 n0) 4 6) (T11.setTop (mkF m 145 #[.val (.int a), .val (.int b), .val (.int c_), .val (.int d), .val (.int (0 : Int32)), .val (.ref b1), .val (.ref b3), .val (.ref b5), .val (.ref b7), .val (.int (chV (orB (0 : Int32) (byB a)))), .val (.int (chV (orB (0 : Int32) (byB b)))), .val (.int (chV (orB (0 : Int32) (byB c_)))), .val (.int (chV (0 : Int32))), .val (.int (0 : Int32))] []))
    refine Gl.go (fun _ k => XS.iloadN X11.here hx rfl (hb hby at_145) rfl  k) ?_
    show Gl p.tables e below (QQof s (Q_law Z a b c_ d h0 n0) 4 6) (T11.setTop (mkF m 146 #[.val (.int a), .val (.int b), .val (.int c_), .val (.int d), .val (.int (0 : Int32)), .val (.ref b1), .val (.ref b3), .val (.ref b5), .val (.ref b7), .val (.int (chV (orB (0 : Int32) (byB a)))), .val (.int (chV (orB (0 : Int32) (byB b)))), .val (.int (chV (orB (0 : Int32) (byB c_)))), .val (.int (chV (0 : Int32))), .val (.int (0 : Int32))] [(.int a)]))
    refine Gl.go (fun _ k => XS.iload X11.here hx rfl (hb hby at_146) rfl  k) ?_
    show Gl p.tables e below (QQof s (Q_law Z a b c_ d h0 n0) 4 6) (T11.setTop (mkF m 148 #[.val (.int a), .val (.int b), .val (.int c_), .val (.int d), .val (.int (0 : Int32)), .val (.ref b1), .val (.ref b3), .val (.ref b5), .val (.ref b7), .val (.int (chV (orB (0 : Int32) (byB a)))), .val (.int (chV (orB (0 : Int32) (byB b)))), .val (.int (chV (orB (0 : Int32) (byB c_)))), .val (.int (chV (0 : Int32))), .val (.int (0 : Int32))] [(.int (chV (orB (0 : Int32) (byB a)))), (.int a)]))
    obtain ⟨_, _, ⟨T12, L12, k12, n12⟩, -, X12, ⟨Lc12, hQ12, l12, y12, z12⟩, st12⟩ := Jvm.LawKit.callS X11 hx (y := (⟨"com/example/aloud/aloud/PathPatternByteClassesPinLaw", "single", "(II)Z"⟩ : MethodName)) hown (mvT hZ (hw _ (List.mem_of_getElem? (i := 5) rfl))) (mvT hZ (hw _ (List.mem_of_getElem? (i := 6) rfl))) (mvT hZ (hw _ (List.mem_of_getElem? (i := 7) rfl))) (mvT hZ (hw _ (List.mem_of_getElem? (i := 8) rfl))) (by decide) (backOf (W := 0) (rm_sg l Z a0 hw [] a (chV (orB (0 : Int32) (byB a))) h7 n0 SZ7 ) hZ (hw _ (List.mem_of_getElem? (i := 8) rfl)) (hw _ (List.mem_of_getElem? (i := 7) rfl)) (by decide) (by decide)) (g := (mkF m 148 #[.val (.int a), .val (.int b), .val (.int c_), .val (.int d), .val (.int (0 : Int32)), .val (.ref b1), .val (.ref b3), .val (.ref b5), .val (.ref b7), .val (.int (chV (orB (0 : Int32) (byB a)))), .val (.int (chV (orB (0 : Int32) (byB b)))), .val (.int (chV (orB (0 : Int32) (byB c_)))), .val (.int (chV (0 : Int32))), .val (.int (0 : Int32))] [(.int (chV (orB (0 : Int32) (byB a)))), (.int a)])) rfl (by rw [hml]; rfl) (argsL := [(.int a), (.int (chV (orB (0 : Int32) (byB a))))]) (rest := []) (lenOf pd_1 rfl) rfl (by show 2 * 0 + _ ≤ _; exact Nat.le_of_eq rfl) (hb hby at_148) (fun _ _ => ⟨rfl, e11, (by decide : 4 + 0 ≤ _), (by decide : 3 + 0 ≤ _)⟩)
    dsimp only [Pt.U, Pt.locs, Pt.cells, Pt.slots] at X12 l12 y12 z12 st12 hQ12
    subst l12 y12 z12
    obtain ⟨rfl, Nq12, e12⟩ := hQ12
    have N12 := Fr.app N11 Nq12
    refine Gl.go (fun _ k => st12 _ k) ?_
    show Gl p.tables e below (QQof s (Q_law Z a b c_ d h0 n0) 4 6) (T12.setTop (mkF m 151 #[.val (.int a), .val (.int b), .val (.int c_), .val (.int d), .val (.int (0 : Int32)), .val (.ref b1), .val (.ref b3), .val (.ref b5), .val (.ref b7), .val (.int (chV (orB (0 : Int32) (byB a)))), .val (.int (chV (orB (0 : Int32) (byB b)))), .val (.int (chV (orB (0 : Int32) (byB c_)))), .val (.int (chV (0 : Int32))), .val (.int (0 : Int32))] [(.int (sgV a (chV (orB (0 : Int32) (byB a)))))]))
    rw [(own_sg a : (sgV a (chV (orB (0 : Int32) (byB a)))) = (1 : Int32))]
    show Gl p.tables e below (QQof s (Q_law Z a b c_ d h0 n0) 4 6) (T12.setTop (mkF m 151 #[.val (.int a), .val (.int b), .val (.int c_), .val (.int d), .val (.int (0 : Int32)), .val (.ref b1), .val (.ref b3), .val (.ref b5), .val (.ref b7), .val (.int (chV (orB (0 : Int32) (byB a)))), .val (.int (chV (orB (0 : Int32) (byB b)))), .val (.int (chV (orB (0 : Int32) (byB c_)))), .val (.int (chV (0 : Int32))), .val (.int (0 : Int32))] [(.int (1 : Int32))]))
    refine Gl.go (fun _ k => XS.ifNo X12.here hx rfl (hb hby at_151) rfl ((if0 _ _).trans (feq (by decide)).1) k) ?_
    show Gl p.tables e below (QQof s (Q_law Z a b c_ d h0 n0) 4 6) (T12.setTop (mkF m 154 #[.val (.int a), .val (.int b), .val (.int c_), .val (.int d), .val (.int (0 : Int32)), .val (.ref b1), .val (.ref b3), .val (.ref b5), .val (.ref b7), .val (.int (chV (orB (0 : Int32) (byB a)))), .val (.int (chV (orB (0 : Int32) (byB b)))), .val (.int (chV (orB (0 : Int32) (byB c_)))), .val (.int (chV (0 : Int32))), .val (.int (0 : Int32))] []))
    refine Gl.go (fun _ k => XS.iloadN X12.here hx rfl (hb hby at_154) rfl  k) ?_
    show Gl p.tables e below (QQof s (Q_law Z a b c_ d h0 n0) 4 6) (T12.setTop (mkF m 155 #[.val (.int a), .val (.int b), .val (.int c_), .val (.int d), .val (.int (0 : Int32)), .val (.ref b1), .val (.ref b3), .val (.ref b5), .val (.ref b7), .val (.int (chV (orB (0 : Int32) (byB a)))), .val (.int (chV (orB (0 : Int32) (byB b)))), .val (.int (chV (orB (0 : Int32) (byB c_)))), .val (.int (chV (0 : Int32))), .val (.int (0 : Int32))] [(.int b)]))
    refine Gl.go (fun _ k => XS.iload X12.here hx rfl (hb hby at_155) rfl  k) ?_
    show Gl p.tables e below (QQof s (Q_law Z a b c_ d h0 n0) 4 6) (T12.setTop (mkF m 157 #[.val (.int a), .val (.int b), .val (.int c_), .val (.int d), .val (.int (0 : Int32)), .val (.ref b1), .val (.ref b3), .val (.ref b5), .val (.ref b7), .val (.int (chV (orB (0 : Int32) (byB a)))), .val (.int (chV (orB (0 : Int32) (byB b)))), .val (.int (chV (orB (0 : Int32) (byB c_)))), .val (.int (chV (0 : Int32))), .val (.int (0 : Int32))] [(.int (chV (orB (0 : Int32) (byB b)))), (.int b)]))
    obtain ⟨_, _, ⟨T13, L13, k13, n13⟩, -, X13, ⟨Lc13, hQ13, l13, y13, z13⟩, st13⟩ := Jvm.LawKit.callS X12 hx (y := (⟨"com/example/aloud/aloud/PathPatternByteClassesPinLaw", "single", "(II)Z"⟩ : MethodName)) hown (mvT hZ (hw _ (List.mem_of_getElem? (i := 5) rfl))) (mvT hZ (hw _ (List.mem_of_getElem? (i := 6) rfl))) (mvT hZ (hw _ (List.mem_of_getElem? (i := 7) rfl))) (mvT hZ (hw _ (List.mem_of_getElem? (i := 8) rfl))) (by decide) (backOf (W := 0) (rm_sg l Z a0 hw [] b (chV (orB (0 : Int32) (byB b))) h7 n0 SZ7 ) hZ (hw _ (List.mem_of_getElem? (i := 8) rfl)) (hw _ (List.mem_of_getElem? (i := 7) rfl)) (by decide) (by decide)) (g := (mkF m 157 #[.val (.int a), .val (.int b), .val (.int c_), .val (.int d), .val (.int (0 : Int32)), .val (.ref b1), .val (.ref b3), .val (.ref b5), .val (.ref b7), .val (.int (chV (orB (0 : Int32) (byB a)))), .val (.int (chV (orB (0 : Int32) (byB b)))), .val (.int (chV (orB (0 : Int32) (byB c_)))), .val (.int (chV (0 : Int32))), .val (.int (0 : Int32))] [(.int (chV (orB (0 : Int32) (byB b)))), (.int b)])) rfl (by rw [hml]; rfl) (argsL := [(.int b), (.int (chV (orB (0 : Int32) (byB b))))]) (rest := []) (lenOf pd_1 rfl) rfl (by show 2 * 0 + _ ≤ _; exact Nat.le_of_eq rfl) (hb hby at_157) (fun _ _ => ⟨rfl, e12, (by decide : 4 + 0 ≤ _), (by decide : 3 + 0 ≤ _)⟩)
    dsimp only [Pt.U, Pt.locs, Pt.cells, Pt.slots] at X13 l13 y13 z13 st13 hQ13
    subst l13 y13 z13
    obtain ⟨rfl, Nq13, e13⟩ := hQ13
    have N13 := Fr.app N12 Nq13
    refine Gl.go (fun _ k => st13 _ k) ?_
    show Gl p.tables e below (QQof s (Q_law Z a b c_ d h0 n0) 4 6) (T13.setTop (mkF m 160 #[.val (.int a), .val (.int b), .val (.int c_), .val (.int d), .val (.int (0 : Int32)), .val (.ref b1), .val (.ref b3), .val (.ref b5), .val (.ref b7), .val (.int (chV (orB (0 : Int32) (byB a)))), .val (.int (chV (orB (0 : Int32) (byB b)))), .val (.int (chV (orB (0 : Int32) (byB c_)))), .val (.int (chV (0 : Int32))), .val (.int (0 : Int32))] [(.int (sgV b (chV (orB (0 : Int32) (byB b)))))]))
    rw [(own_sg b : (sgV b (chV (orB (0 : Int32) (byB b)))) = (1 : Int32))]
    show Gl p.tables e below (QQof s (Q_law Z a b c_ d h0 n0) 4 6) (T13.setTop (mkF m 160 #[.val (.int a), .val (.int b), .val (.int c_), .val (.int d), .val (.int (0 : Int32)), .val (.ref b1), .val (.ref b3), .val (.ref b5), .val (.ref b7), .val (.int (chV (orB (0 : Int32) (byB a)))), .val (.int (chV (orB (0 : Int32) (byB b)))), .val (.int (chV (orB (0 : Int32) (byB c_)))), .val (.int (chV (0 : Int32))), .val (.int (0 : Int32))] [(.int (1 : Int32))]))
    refine Gl.go (fun _ k => XS.ifNo X13.here hx rfl (hb hby at_160) rfl ((if0 _ _).trans (feq (by decide)).1) k) ?_
    show Gl p.tables e below (QQof s (Q_law Z a b c_ d h0 n0) 4 6) (T13.setTop (mkF m 163 #[.val (.int a), .val (.int b), .val (.int c_), .val (.int d), .val (.int (0 : Int32)), .val (.ref b1), .val (.ref b3), .val (.ref b5), .val (.ref b7), .val (.int (chV (orB (0 : Int32) (byB a)))), .val (.int (chV (orB (0 : Int32) (byB b)))), .val (.int (chV (orB (0 : Int32) (byB c_)))), .val (.int (chV (0 : Int32))), .val (.int (0 : Int32))] []))
    refine Gl.go (fun _ k => XS.iloadN X13.here hx rfl (hb hby at_163) rfl  k) ?_
    show Gl p.tables e below (QQof s (Q_law Z a b c_ d h0 n0) 4 6) (T13.setTop (mkF m 164 #[.val (.int a), .val (.int b), .val (.int c_), .val (.int d), .val (.int (0 : Int32)), .val (.ref b1), .val (.ref b3), .val (.ref b5), .val (.ref b7), .val (.int (chV (orB (0 : Int32) (byB a)))), .val (.int (chV (orB (0 : Int32) (byB b)))), .val (.int (chV (orB (0 : Int32) (byB c_)))), .val (.int (chV (0 : Int32))), .val (.int (0 : Int32))] [(.int c_)]))
    refine Gl.go (fun _ k => XS.iload X13.here hx rfl (hb hby at_164) rfl  k) ?_
    show Gl p.tables e below (QQof s (Q_law Z a b c_ d h0 n0) 4 6) (T13.setTop (mkF m 166 #[.val (.int a), .val (.int b), .val (.int c_), .val (.int d), .val (.int (0 : Int32)), .val (.ref b1), .val (.ref b3), .val (.ref b5), .val (.ref b7), .val (.int (chV (orB (0 : Int32) (byB a)))), .val (.int (chV (orB (0 : Int32) (byB b)))), .val (.int (chV (orB (0 : Int32) (byB c_)))), .val (.int (chV (0 : Int32))), .val (.int (0 : Int32))] [(.int (chV (orB (0 : Int32) (byB c_)))), (.int c_)]))
    obtain ⟨_, _, ⟨T14, L14, k14, n14⟩, -, X14, ⟨Lc14, hQ14, l14, y14, z14⟩, st14⟩ := Jvm.LawKit.callS X13 hx (y := (⟨"com/example/aloud/aloud/PathPatternByteClassesPinLaw", "single", "(II)Z"⟩ : MethodName)) hown (mvT hZ (hw _ (List.mem_of_getElem? (i := 5) rfl))) (mvT hZ (hw _ (List.mem_of_getElem? (i := 6) rfl))) (mvT hZ (hw _ (List.mem_of_getElem? (i := 7) rfl))) (mvT hZ (hw _ (List.mem_of_getElem? (i := 8) rfl))) (by decide) (backOf (W := 0) (rm_sg l Z a0 hw [] c_ (chV (orB (0 : Int32) (byB c_))) h7 n0 SZ7 ) hZ (hw _ (List.mem_of_getElem? (i := 8) rfl)) (hw _ (List.mem_of_getElem? (i := 7) rfl)) (by decide) (by decide)) (g := (mkF m 166 #[.val (.int a), .val (.int b), .val (.int c_), .val (.int d), .val (.int (0 : Int32)), .val (.ref b1), .val (.ref b3), .val (.ref b5), .val (.ref b7), .val (.int (chV (orB (0 : Int32) (byB a)))), .val (.int (chV (orB (0 : Int32) (byB b)))), .val (.int (chV (orB (0 : Int32) (byB c_)))), .val (.int (chV (0 : Int32))), .val (.int (0 : Int32))] [(.int (chV (orB (0 : Int32) (byB c_)))), (.int c_)])) rfl (by rw [hml]; rfl) (argsL := [(.int c_), (.int (chV (orB (0 : Int32) (byB c_))))]) (rest := []) (lenOf pd_1 rfl) rfl (by show 2 * 0 + _ ≤ _; exact Nat.le_of_eq rfl) (hb hby at_166) (fun _ _ => ⟨rfl, e13, (by decide : 4 + 0 ≤ _), (by decide : 3 + 0 ≤ _)⟩)
    dsimp only [Pt.U, Pt.locs, Pt.cells, Pt.slots] at X14 l14 y14 z14 st14 hQ14
    subst l14 y14 z14
    obtain ⟨rfl, Nq14, e14⟩ := hQ14
    have N14 := Fr.app N13 Nq14
    refine Gl.go (fun _ k => st14 _ k) ?_
    show Gl p.tables e below (QQof s (Q_law Z a b c_ d h0 n0) 4 6) (T14.setTop (mkF m 169 #[.val (.int a), .val (.int b), .val (.int c_), .val (.int d), .val (.int (0 : Int32)), .val (.ref b1), .val (.ref b3), .val (.ref b5), .val (.ref b7), .val (.int (chV (orB (0 : Int32) (byB a)))), .val (.int (chV (orB (0 : Int32) (byB b)))), .val (.int (chV (orB (0 : Int32) (byB c_)))), .val (.int (chV (0 : Int32))), .val (.int (0 : Int32))] [(.int (sgV c_ (chV (orB (0 : Int32) (byB c_)))))]))
    rw [(own_sg c_ : (sgV c_ (chV (orB (0 : Int32) (byB c_)))) = (1 : Int32))]
    show Gl p.tables e below (QQof s (Q_law Z a b c_ d h0 n0) 4 6) (T14.setTop (mkF m 169 #[.val (.int a), .val (.int b), .val (.int c_), .val (.int d), .val (.int (0 : Int32)), .val (.ref b1), .val (.ref b3), .val (.ref b5), .val (.ref b7), .val (.int (chV (orB (0 : Int32) (byB a)))), .val (.int (chV (orB (0 : Int32) (byB b)))), .val (.int (chV (orB (0 : Int32) (byB c_)))), .val (.int (chV (0 : Int32))), .val (.int (0 : Int32))] [(.int (1 : Int32))]))
    refine Gl.go (fun _ k => XS.ifNo X14.here hx rfl (hb hby at_169) rfl ((if0 _ _).trans (feq (by decide)).1) k) ?_
    show Gl p.tables e below (QQof s (Q_law Z a b c_ d h0 n0) 4 6) (T14.setTop (mkF m 172 #[.val (.int a), .val (.int b), .val (.int c_), .val (.int d), .val (.int (0 : Int32)), .val (.ref b1), .val (.ref b3), .val (.ref b5), .val (.ref b7), .val (.int (chV (orB (0 : Int32) (byB a)))), .val (.int (chV (orB (0 : Int32) (byB b)))), .val (.int (chV (orB (0 : Int32) (byB c_)))), .val (.int (chV (0 : Int32))), .val (.int (0 : Int32))] []))
    refine Gl.go (fun _ k => XS.iload X14.here hx rfl (hb hby at_172) rfl  k) ?_
    show Gl p.tables e below (QQof s (Q_law Z a b c_ d h0 n0) 4 6) (T14.setTop (mkF m 174 #[.val (.int a), .val (.int b), .val (.int c_), .val (.int d), .val (.int (0 : Int32)), .val (.ref b1), .val (.ref b3), .val (.ref b5), .val (.ref b7), .val (.int (chV (orB (0 : Int32) (byB a)))), .val (.int (chV (orB (0 : Int32) (byB b)))), .val (.int (chV (orB (0 : Int32) (byB c_)))), .val (.int (chV (0 : Int32))), .val (.int (0 : Int32))] [(.int (chV (0 : Int32)))]))
    refine Gl.go (fun _ k => XS.iload X14.here hx rfl (hb hby at_174) rfl  k) ?_
    show Gl p.tables e below (QQof s (Q_law Z a b c_ d h0 n0) 4 6) (T14.setTop (mkF m 176 #[.val (.int a), .val (.int b), .val (.int c_), .val (.int d), .val (.int (0 : Int32)), .val (.ref b1), .val (.ref b3), .val (.ref b5), .val (.ref b7), .val (.int (chV (orB (0 : Int32) (byB a)))), .val (.int (chV (orB (0 : Int32) (byB b)))), .val (.int (chV (orB (0 : Int32) (byB c_)))), .val (.int (chV (0 : Int32))), .val (.int (0 : Int32))] [(.int (0 : Int32)), (.int (chV (0 : Int32)))]))
    refine Gl.go (fun _ k => XS.icmpNo X14.here hx rfl (hb hby at_176) rfl (teq own_ch0).2 k) ?_
    show Gl p.tables e below (QQof s (Q_law Z a b c_ d h0 n0) 4 6) (T14.setTop (mkF m 179 #[.val (.int a), .val (.int b), .val (.int c_), .val (.int d), .val (.int (0 : Int32)), .val (.ref b1), .val (.ref b3), .val (.ref b5), .val (.ref b7), .val (.int (chV (orB (0 : Int32) (byB a)))), .val (.int (chV (orB (0 : Int32) (byB b)))), .val (.int (chV (orB (0 : Int32) (byB c_)))), .val (.int (chV (0 : Int32))), .val (.int (0 : Int32))] []))
    refine Gl.go (fun _ k => XS.iconst X14.here hx rfl (hb hby at_179) k) ?_
    show Gl p.tables e below (QQof s (Q_law Z a b c_ d h0 n0) 4 6) (T14.setTop (mkF m 180 #[.val (.int a), .val (.int b), .val (.int c_), .val (.int d), .val (.int (0 : Int32)), .val (.ref b1), .val (.ref b3), .val (.ref b5), .val (.ref b7), .val (.int (chV (orB (0 : Int32) (byB a)))), .val (.int (chV (orB (0 : Int32) (byB b)))), .val (.int (chV (orB (0 : Int32) (byB c_)))), .val (.int (chV (0 : Int32))), .val (.int (0 : Int32))] [(.int (1 : Int32))]))
    refine Gl.go (fun _ k => XS.goto X14.here hx rfl (pc0 := 180) (pc' := 184) rfl (hb hby at_180) (by decide) (by decide) k) ?_
    show Gl p.tables e below (QQof s (Q_law Z a b c_ d h0 n0) 4 6) (T14.setTop (mkF m 184 #[.val (.int a), .val (.int b), .val (.int c_), .val (.int d), .val (.int (0 : Int32)), .val (.ref b1), .val (.ref b3), .val (.ref b5), .val (.ref b7), .val (.int (chV (orB (0 : Int32) (byB a)))), .val (.int (chV (orB (0 : Int32) (byB b)))), .val (.int (chV (orB (0 : Int32) (byB c_)))), .val (.int (chV (0 : Int32))), .val (.int (0 : Int32))] [(.int (1 : Int32))]))
    refine leafN X14 hx hlk (t := .boolean) Bd.returns (by simp) (hb hby at_184) ?_ (by decide) (by decide)
    exact ⟨rfl, N14⟩
  · skip
    rw [(hl : (d &&& (3 : Int32)) = (1 : Int32))]
    show Gl p.tables e below (QQof s (Q_law Z a b c_ d h0 n0) 4 6) (s₁.setTop (mkF m 3 #[.val (.int a), .val (.int b), .val (.int c_), .val (.int d), .unset, .unset, .unset, .unset, .unset, .unset, .unset, .unset, .unset, .unset] [(.int (1 : Int32))]))
    refine Gl.go (fun _ k => XS.istore X0.here hx rfl (hb hby at_3) rfl (l' := #[.val (.int a), .val (.int b), .val (.int c_), .val (.int d), .val (.int (1 : Int32)), .unset, .unset, .unset, .unset, .unset, .unset, .unset, .unset, .unset]) rfl k) ?_
    show Gl p.tables e below (QQof s (Q_law Z a b c_ d h0 n0) 4 6) (s₁.setTop (mkF m 5 #[.val (.int a), .val (.int b), .val (.int c_), .val (.int d), .val (.int (1 : Int32)), .unset, .unset, .unset, .unset, .unset, .unset, .unset, .unset, .unset] []))
    refine Gl.go (fun _ k => XS.iconst X0.here hx rfl (hb hby at_5) k) ?_
    show Gl p.tables e below (QQof s (Q_law Z a b c_ d h0 n0) 4 6) (s₁.setTop (mkF m 6 #[.val (.int a), .val (.int b), .val (.int c_), .val (.int d), .val (.int (1 : Int32)), .unset, .unset, .unset, .unset, .unset, .unset, .unset, .unset, .unset] [(.int (1 : Int32))]))
    obtain ⟨T15, h15, cA15, X15, e15, E15, A15, st15⟩ := newP X0 hx hZ (hw _ (List.mem_of_getElem? (i := 0) rfl)) e0 (g := (mkF m 6 #[.val (.int a), .val (.int b), .val (.int c_), .val (.int d), .val (.int (1 : Int32)), .unset, .unset, .unset, .unset, .unset, .unset, .unset, .unset, .unset] [(.int (1 : Int32))])) rfl (hb hby at_6) rfl (by decide) (cap := 1) (by decide) (by decide) (by decide) (by decide)
    obtain ⟨b15, g15⟩ : ∃ z, z = h0.size := ⟨_, rfl⟩
    rw [← g15] at A15 st15
    have g_b15 : n0 ≤ b15 := Nat.le_trans Z0 (Nat.le_of_eq g15.symm)
    have sz_b15 : h0.size ≤ b15 := Nat.le_trans K0.1 (Nat.le_of_eq g15.symm)
    have SZ15 : n0 ≤ h15.size := Nat.le_trans Z0 E15.1
    have K15 : Keep h0 h15 [] := K0.ext E15
    have V_b15_15 : Arv Z h15 b15 cA15 .byte (1 : Int32) [(.int (0 : Int32))] (.int (0 : Int32)) := (Arv.new A15 (by decide)).pad (pad_rep [] _ 1)
    refine Gl.go (fun _ k => st15 _ k) ?_
    show Gl p.tables e below (QQof s (Q_law Z a b c_ d h0 n0) 4 6) (T15.setTop (mkF m 8 #[.val (.int a), .val (.int b), .val (.int c_), .val (.int d), .val (.int (1 : Int32)), .unset, .unset, .unset, .unset, .unset, .unset, .unset, .unset, .unset] [(.ref b15)]))
    refine Gl.go (fun _ k => XS.dup X15.here hx rfl (hb hby at_8) rfl rfl k) ?_
    show Gl p.tables e below (QQof s (Q_law Z a b c_ d h0 n0) 4 6) (T15.setTop (mkF m 9 #[.val (.int a), .val (.int b), .val (.int c_), .val (.int d), .val (.int (1 : Int32)), .unset, .unset, .unset, .unset, .unset, .unset, .unset, .unset, .unset] [(.ref b15), (.ref b15)]))
    refine Gl.go (fun _ k => XS.iconst X15.here hx rfl (hb hby at_9) k) ?_
    show Gl p.tables e below (QQof s (Q_law Z a b c_ d h0 n0) 4 6) (T15.setTop (mkF m 10 #[.val (.int a), .val (.int b), .val (.int c_), .val (.int d), .val (.int (1 : Int32)), .unset, .unset, .unset, .unset, .unset, .unset, .unset, .unset, .unset] [(.int (0 : Int32)), (.ref b15), (.ref b15)]))
    refine Gl.go (fun _ k => XS.iloadN X15.here hx rfl (hb hby at_10) rfl  k) ?_
    show Gl p.tables e below (QQof s (Q_law Z a b c_ d h0 n0) 4 6) (T15.setTop (mkF m 11 #[.val (.int a), .val (.int b), .val (.int c_), .val (.int d), .val (.int (1 : Int32)), .unset, .unset, .unset, .unset, .unset, .unset, .unset, .unset, .unset] [(.int a), (.int (0 : Int32)), (.ref b15), (.ref b15)]))
    refine Gl.go (fun _ k => XS.i2b X15.here hx rfl (hb hby at_11) rfl k) ?_
    show Gl p.tables e below (QQof s (Q_law Z a b c_ d h0 n0) 4 6) (T15.setTop (mkF m 12 #[.val (.int a), .val (.int b), .val (.int c_), .val (.int d), .val (.int (1 : Int32)), .unset, .unset, .unset, .unset, .unset, .unset, .unset, .unset, .unset] [(.int (a.toInt8.toInt32)), (.int (0 : Int32)), (.ref b15), (.ref b15)]))
    obtain ⟨cl16, Ar16, qA16, SA16, NA16, HA16, GA16⟩ := id V_b15_15
    obtain ⟨T16, h16, X16, e16, W16, st16⟩ := stB X15 hx hZ e15 Ar16 (j := (0 : Int32)) (inb_of SA16 ⟨by decide, by decide⟩) (g := (mkF m 12 #[.val (.int a), .val (.int b), .val (.int c_), .val (.int d), .val (.int (1 : Int32)), .unset, .unset, .unset, .unset, .unset, .unset, .unset, .unset, .unset] [(.int (a.toInt8.toInt32)), (.int (0 : Int32)), (.ref b15), (.ref b15)])) rfl rfl (hb hby at_12)
    have SZ16 : n0 ≤ h16.size := by rw [Wr.size W16]; exact SZ15
    have K16 : Keep h0 h16 [] := K15.wr W16 (Or.inr sz_b15)
    have N16 := Fr.snoc X16 N0 g_b15
    have V_b15_16 : Arv Z h16 b15 cA15 .byte (1 : Int32) [(.int (nar .byte (a.toInt8.toInt32)))] (.int (0 : Int32)) := Arv.set Ar16 qA16 SA16 NA16 HA16 GA16 (fits_nar_byte _) W16 0 rfl (Nat.le_of_ble_eq_true rfl)
    refine Gl.go (fun _ k => st16 _ k) ?_
    show Gl p.tables e below (QQof s (Q_law Z a b c_ d h0 n0) 4 6) (T16.setTop (mkF m 13 #[.val (.int a), .val (.int b), .val (.int c_), .val (.int d), .val (.int (1 : Int32)), .unset, .unset, .unset, .unset, .unset, .unset, .unset, .unset, .unset] [(.ref b15)]))
    refine Gl.go (fun _ k => XS.astore X16.here hx rfl (hb hby at_13) rfl rfl (l' := #[.val (.int a), .val (.int b), .val (.int c_), .val (.int d), .val (.int (1 : Int32)), .val (.ref b15), .unset, .unset, .unset, .unset, .unset, .unset, .unset, .unset]) rfl k) ?_
    show Gl p.tables e below (QQof s (Q_law Z a b c_ d h0 n0) 4 6) (T16.setTop (mkF m 15 #[.val (.int a), .val (.int b), .val (.int c_), .val (.int d), .val (.int (1 : Int32)), .val (.ref b15), .unset, .unset, .unset, .unset, .unset, .unset, .unset, .unset] []))
    refine Gl.go (fun _ k => XS.iconst X16.here hx rfl (hb hby at_15) k) ?_
    show Gl p.tables e below (QQof s (Q_law Z a b c_ d h0 n0) 4 6) (T16.setTop (mkF m 16 #[.val (.int a), .val (.int b), .val (.int c_), .val (.int d), .val (.int (1 : Int32)), .val (.ref b15), .unset, .unset, .unset, .unset, .unset, .unset, .unset, .unset] [(.int (1 : Int32))]))
    obtain ⟨T17, h17, cA17, X17, e17, E17, A17, st17⟩ := newP X16 hx hZ (hw _ (List.mem_of_getElem? (i := 0) rfl)) e16 (g := (mkF m 16 #[.val (.int a), .val (.int b), .val (.int c_), .val (.int d), .val (.int (1 : Int32)), .val (.ref b15), .unset, .unset, .unset, .unset, .unset, .unset, .unset, .unset] [(.int (1 : Int32))])) rfl (hb hby at_16) rfl (by decide) (cap := 1) (by decide) (by decide) (by decide) (by decide)
    obtain ⟨b17, g17⟩ : ∃ z, z = h16.size := ⟨_, rfl⟩
    rw [← g17] at A17 st17
    have g_b17 : n0 ≤ b17 := Nat.le_trans SZ16 (Nat.le_of_eq g17.symm)
    have sz_b17 : h0.size ≤ b17 := Nat.le_trans K16.1 (Nat.le_of_eq g17.symm)
    have ne_b15_b17 : b15 ≠ b17 := Nat.ne_of_lt (Nat.lt_of_lt_of_le V_b15_16.lt (Nat.le_of_eq g17.symm))
    have V_b15_17 : Arv Z h17 b15 cA15 .byte (1 : Int32) [(.int (nar .byte (a.toInt8.toInt32)))] (.int (0 : Int32)) := V_b15_16.ext E17
    have SZ17 : n0 ≤ h17.size := Nat.le_trans SZ16 E17.1
    have K17 : Keep h0 h17 [] := K16.ext E17
    have V_b17_17 : Arv Z h17 b17 cA17 .byte (1 : Int32) [(.int (0 : Int32))] (.int (0 : Int32)) := (Arv.new A17 (by decide)).pad (pad_rep [] _ 1)
    refine Gl.go (fun _ k => st17 _ k) ?_
    show Gl p.tables e below (QQof s (Q_law Z a b c_ d h0 n0) 4 6) (T17.setTop (mkF m 18 #[.val (.int a), .val (.int b), .val (.int c_), .val (.int d), .val (.int (1 : Int32)), .val (.ref b15), .unset, .unset, .unset, .unset, .unset, .unset, .unset, .unset] [(.ref b17)]))
    refine Gl.go (fun _ k => XS.dup X17.here hx rfl (hb hby at_18) rfl rfl k) ?_
    show Gl p.tables e below (QQof s (Q_law Z a b c_ d h0 n0) 4 6) (T17.setTop (mkF m 19 #[.val (.int a), .val (.int b), .val (.int c_), .val (.int d), .val (.int (1 : Int32)), .val (.ref b15), .unset, .unset, .unset, .unset, .unset, .unset, .unset, .unset] [(.ref b17), (.ref b17)]))
    refine Gl.go (fun _ k => XS.iconst X17.here hx rfl (hb hby at_19) k) ?_
    show Gl p.tables e below (QQof s (Q_law Z a b c_ d h0 n0) 4 6) (T17.setTop (mkF m 20 #[.val (.int a), .val (.int b), .val (.int c_), .val (.int d), .val (.int (1 : Int32)), .val (.ref b15), .unset, .unset, .unset, .unset, .unset, .unset, .unset, .unset] [(.int (0 : Int32)), (.ref b17), (.ref b17)]))
    refine Gl.go (fun _ k => XS.iloadN X17.here hx rfl (hb hby at_20) rfl  k) ?_
    show Gl p.tables e below (QQof s (Q_law Z a b c_ d h0 n0) 4 6) (T17.setTop (mkF m 21 #[.val (.int a), .val (.int b), .val (.int c_), .val (.int d), .val (.int (1 : Int32)), .val (.ref b15), .unset, .unset, .unset, .unset, .unset, .unset, .unset, .unset] [(.int b), (.int (0 : Int32)), (.ref b17), (.ref b17)]))
    refine Gl.go (fun _ k => XS.i2b X17.here hx rfl (hb hby at_21) rfl k) ?_
    show Gl p.tables e below (QQof s (Q_law Z a b c_ d h0 n0) 4 6) (T17.setTop (mkF m 22 #[.val (.int a), .val (.int b), .val (.int c_), .val (.int d), .val (.int (1 : Int32)), .val (.ref b15), .unset, .unset, .unset, .unset, .unset, .unset, .unset, .unset] [(.int (b.toInt8.toInt32)), (.int (0 : Int32)), (.ref b17), (.ref b17)]))
    obtain ⟨cl18, Ar18, qA18, SA18, NA18, HA18, GA18⟩ := id V_b17_17
    obtain ⟨T18, h18, X18, e18, W18, st18⟩ := stB X17 hx hZ e17 Ar18 (j := (0 : Int32)) (inb_of SA18 ⟨by decide, by decide⟩) (g := (mkF m 22 #[.val (.int a), .val (.int b), .val (.int c_), .val (.int d), .val (.int (1 : Int32)), .val (.ref b15), .unset, .unset, .unset, .unset, .unset, .unset, .unset, .unset] [(.int (b.toInt8.toInt32)), (.int (0 : Int32)), (.ref b17), (.ref b17)])) rfl rfl (hb hby at_22)
    have V_b15_18 : Arv Z h18 b15 cA15 .byte (1 : Int32) [(.int (nar .byte (a.toInt8.toInt32)))] (.int (0 : Int32)) := V_b15_17.other W18 ne_b15_b17
    have SZ18 : n0 ≤ h18.size := by rw [Wr.size W18]; exact SZ17
    have K18 : Keep h0 h18 [] := K17.wr W18 (Or.inr sz_b17)
    have N18 := Fr.snoc X18 N16 g_b17
    have V_b17_18 : Arv Z h18 b17 cA17 .byte (1 : Int32) [(.int (nar .byte (b.toInt8.toInt32)))] (.int (0 : Int32)) := Arv.set Ar18 qA18 SA18 NA18 HA18 GA18 (fits_nar_byte _) W18 0 rfl (Nat.le_of_ble_eq_true rfl)
    refine Gl.go (fun _ k => st18 _ k) ?_
    show Gl p.tables e below (QQof s (Q_law Z a b c_ d h0 n0) 4 6) (T18.setTop (mkF m 23 #[.val (.int a), .val (.int b), .val (.int c_), .val (.int d), .val (.int (1 : Int32)), .val (.ref b15), .unset, .unset, .unset, .unset, .unset, .unset, .unset, .unset] [(.ref b17)]))
    refine Gl.go (fun _ k => XS.astore X18.here hx rfl (hb hby at_23) rfl rfl (l' := #[.val (.int a), .val (.int b), .val (.int c_), .val (.int d), .val (.int (1 : Int32)), .val (.ref b15), .val (.ref b17), .unset, .unset, .unset, .unset, .unset, .unset, .unset]) rfl k) ?_
    show Gl p.tables e below (QQof s (Q_law Z a b c_ d h0 n0) 4 6) (T18.setTop (mkF m 25 #[.val (.int a), .val (.int b), .val (.int c_), .val (.int d), .val (.int (1 : Int32)), .val (.ref b15), .val (.ref b17), .unset, .unset, .unset, .unset, .unset, .unset, .unset] []))
    refine Gl.go (fun _ k => XS.iconst X18.here hx rfl (hb hby at_25) k) ?_
    show Gl p.tables e below (QQof s (Q_law Z a b c_ d h0 n0) 4 6) (T18.setTop (mkF m 26 #[.val (.int a), .val (.int b), .val (.int c_), .val (.int d), .val (.int (1 : Int32)), .val (.ref b15), .val (.ref b17), .unset, .unset, .unset, .unset, .unset, .unset, .unset] [(.int (1 : Int32))]))
    obtain ⟨T19, h19, cA19, X19, e19, E19, A19, st19⟩ := newP X18 hx hZ (hw _ (List.mem_of_getElem? (i := 0) rfl)) e18 (g := (mkF m 26 #[.val (.int a), .val (.int b), .val (.int c_), .val (.int d), .val (.int (1 : Int32)), .val (.ref b15), .val (.ref b17), .unset, .unset, .unset, .unset, .unset, .unset, .unset] [(.int (1 : Int32))])) rfl (hb hby at_26) rfl (by decide) (cap := 1) (by decide) (by decide) (by decide) (by decide)
    obtain ⟨b19, g19⟩ : ∃ z, z = h18.size := ⟨_, rfl⟩
    rw [← g19] at A19 st19
    have g_b19 : n0 ≤ b19 := Nat.le_trans SZ18 (Nat.le_of_eq g19.symm)
    have sz_b19 : h0.size ≤ b19 := Nat.le_trans K18.1 (Nat.le_of_eq g19.symm)
    have ne_b15_b19 : b15 ≠ b19 := Nat.ne_of_lt (Nat.lt_of_lt_of_le V_b15_18.lt (Nat.le_of_eq g19.symm))
    have ne_b17_b19 : b17 ≠ b19 := Nat.ne_of_lt (Nat.lt_of_lt_of_le V_b17_18.lt (Nat.le_of_eq g19.symm))
    have V_b15_19 : Arv Z h19 b15 cA15 .byte (1 : Int32) [(.int (nar .byte (a.toInt8.toInt32)))] (.int (0 : Int32)) := V_b15_18.ext E19
    have V_b17_19 : Arv Z h19 b17 cA17 .byte (1 : Int32) [(.int (nar .byte (b.toInt8.toInt32)))] (.int (0 : Int32)) := V_b17_18.ext E19
    have SZ19 : n0 ≤ h19.size := Nat.le_trans SZ18 E19.1
    have K19 : Keep h0 h19 [] := K18.ext E19
    have V_b19_19 : Arv Z h19 b19 cA19 .byte (1 : Int32) [(.int (0 : Int32))] (.int (0 : Int32)) := (Arv.new A19 (by decide)).pad (pad_rep [] _ 1)
    refine Gl.go (fun _ k => st19 _ k) ?_
    show Gl p.tables e below (QQof s (Q_law Z a b c_ d h0 n0) 4 6) (T19.setTop (mkF m 28 #[.val (.int a), .val (.int b), .val (.int c_), .val (.int d), .val (.int (1 : Int32)), .val (.ref b15), .val (.ref b17), .unset, .unset, .unset, .unset, .unset, .unset, .unset] [(.ref b19)]))
    refine Gl.go (fun _ k => XS.dup X19.here hx rfl (hb hby at_28) rfl rfl k) ?_
    show Gl p.tables e below (QQof s (Q_law Z a b c_ d h0 n0) 4 6) (T19.setTop (mkF m 29 #[.val (.int a), .val (.int b), .val (.int c_), .val (.int d), .val (.int (1 : Int32)), .val (.ref b15), .val (.ref b17), .unset, .unset, .unset, .unset, .unset, .unset, .unset] [(.ref b19), (.ref b19)]))
    refine Gl.go (fun _ k => XS.iconst X19.here hx rfl (hb hby at_29) k) ?_
    show Gl p.tables e below (QQof s (Q_law Z a b c_ d h0 n0) 4 6) (T19.setTop (mkF m 30 #[.val (.int a), .val (.int b), .val (.int c_), .val (.int d), .val (.int (1 : Int32)), .val (.ref b15), .val (.ref b17), .unset, .unset, .unset, .unset, .unset, .unset, .unset] [(.int (0 : Int32)), (.ref b19), (.ref b19)]))
    refine Gl.go (fun _ k => XS.iloadN X19.here hx rfl (hb hby at_30) rfl  k) ?_
    show Gl p.tables e below (QQof s (Q_law Z a b c_ d h0 n0) 4 6) (T19.setTop (mkF m 31 #[.val (.int a), .val (.int b), .val (.int c_), .val (.int d), .val (.int (1 : Int32)), .val (.ref b15), .val (.ref b17), .unset, .unset, .unset, .unset, .unset, .unset, .unset] [(.int c_), (.int (0 : Int32)), (.ref b19), (.ref b19)]))
    refine Gl.go (fun _ k => XS.i2b X19.here hx rfl (hb hby at_31) rfl k) ?_
    show Gl p.tables e below (QQof s (Q_law Z a b c_ d h0 n0) 4 6) (T19.setTop (mkF m 32 #[.val (.int a), .val (.int b), .val (.int c_), .val (.int d), .val (.int (1 : Int32)), .val (.ref b15), .val (.ref b17), .unset, .unset, .unset, .unset, .unset, .unset, .unset] [(.int (c_.toInt8.toInt32)), (.int (0 : Int32)), (.ref b19), (.ref b19)]))
    obtain ⟨cl20, Ar20, qA20, SA20, NA20, HA20, GA20⟩ := id V_b19_19
    obtain ⟨T20, h20, X20, e20, W20, st20⟩ := stB X19 hx hZ e19 Ar20 (j := (0 : Int32)) (inb_of SA20 ⟨by decide, by decide⟩) (g := (mkF m 32 #[.val (.int a), .val (.int b), .val (.int c_), .val (.int d), .val (.int (1 : Int32)), .val (.ref b15), .val (.ref b17), .unset, .unset, .unset, .unset, .unset, .unset, .unset] [(.int (c_.toInt8.toInt32)), (.int (0 : Int32)), (.ref b19), (.ref b19)])) rfl rfl (hb hby at_32)
    have V_b15_20 : Arv Z h20 b15 cA15 .byte (1 : Int32) [(.int (nar .byte (a.toInt8.toInt32)))] (.int (0 : Int32)) := V_b15_19.other W20 ne_b15_b19
    have V_b17_20 : Arv Z h20 b17 cA17 .byte (1 : Int32) [(.int (nar .byte (b.toInt8.toInt32)))] (.int (0 : Int32)) := V_b17_19.other W20 ne_b17_b19
    have SZ20 : n0 ≤ h20.size := by rw [Wr.size W20]; exact SZ19
    have K20 : Keep h0 h20 [] := K19.wr W20 (Or.inr sz_b19)
    have N20 := Fr.snoc X20 N18 g_b19
    have V_b19_20 : Arv Z h20 b19 cA19 .byte (1 : Int32) [(.int (nar .byte (c_.toInt8.toInt32)))] (.int (0 : Int32)) := Arv.set Ar20 qA20 SA20 NA20 HA20 GA20 (fits_nar_byte _) W20 0 rfl (Nat.le_of_ble_eq_true rfl)
    refine Gl.go (fun _ k => st20 _ k) ?_
    show Gl p.tables e below (QQof s (Q_law Z a b c_ d h0 n0) 4 6) (T20.setTop (mkF m 33 #[.val (.int a), .val (.int b), .val (.int c_), .val (.int d), .val (.int (1 : Int32)), .val (.ref b15), .val (.ref b17), .unset, .unset, .unset, .unset, .unset, .unset, .unset] [(.ref b19)]))
    refine Gl.go (fun _ k => XS.astore X20.here hx rfl (hb hby at_33) rfl rfl (l' := #[.val (.int a), .val (.int b), .val (.int c_), .val (.int d), .val (.int (1 : Int32)), .val (.ref b15), .val (.ref b17), .val (.ref b19), .unset, .unset, .unset, .unset, .unset, .unset]) rfl k) ?_
    show Gl p.tables e below (QQof s (Q_law Z a b c_ d h0 n0) 4 6) (T20.setTop (mkF m 35 #[.val (.int a), .val (.int b), .val (.int c_), .val (.int d), .val (.int (1 : Int32)), .val (.ref b15), .val (.ref b17), .val (.ref b19), .unset, .unset, .unset, .unset, .unset, .unset] []))
    refine Gl.go (fun _ k => XS.iload X20.here hx rfl (hb hby at_35) rfl  k) ?_
    show Gl p.tables e below (QQof s (Q_law Z a b c_ d h0 n0) 4 6) (T20.setTop (mkF m 37 #[.val (.int a), .val (.int b), .val (.int c_), .val (.int d), .val (.int (1 : Int32)), .val (.ref b15), .val (.ref b17), .val (.ref b19), .unset, .unset, .unset, .unset, .unset, .unset] [(.int (1 : Int32))]))
    obtain ⟨T21, h21, cA21, X21, e21, E21, A21, st21⟩ := newP X20 hx hZ (hw _ (List.mem_of_getElem? (i := 0) rfl)) e20 (g := (mkF m 37 #[.val (.int a), .val (.int b), .val (.int c_), .val (.int d), .val (.int (1 : Int32)), .val (.ref b15), .val (.ref b17), .val (.ref b19), .unset, .unset, .unset, .unset, .unset, .unset] [(.int (1 : Int32))])) rfl (hb hby at_37) rfl (by decide) (cap := 1) (by decide) (by decide) (by decide) (by decide)
    obtain ⟨b21, g21⟩ : ∃ z, z = h20.size := ⟨_, rfl⟩
    rw [← g21] at A21 st21
    have g_b21 : n0 ≤ b21 := Nat.le_trans SZ20 (Nat.le_of_eq g21.symm)
    have sz_b21 : h0.size ≤ b21 := Nat.le_trans K20.1 (Nat.le_of_eq g21.symm)
    have ne_b15_b21 : b15 ≠ b21 := Nat.ne_of_lt (Nat.lt_of_lt_of_le V_b15_20.lt (Nat.le_of_eq g21.symm))
    have ne_b17_b21 : b17 ≠ b21 := Nat.ne_of_lt (Nat.lt_of_lt_of_le V_b17_20.lt (Nat.le_of_eq g21.symm))
    have ne_b19_b21 : b19 ≠ b21 := Nat.ne_of_lt (Nat.lt_of_lt_of_le V_b19_20.lt (Nat.le_of_eq g21.symm))
    have V_b15_21 : Arv Z h21 b15 cA15 .byte (1 : Int32) [(.int (nar .byte (a.toInt8.toInt32)))] (.int (0 : Int32)) := V_b15_20.ext E21
    have V_b17_21 : Arv Z h21 b17 cA17 .byte (1 : Int32) [(.int (nar .byte (b.toInt8.toInt32)))] (.int (0 : Int32)) := V_b17_20.ext E21
    have V_b19_21 : Arv Z h21 b19 cA19 .byte (1 : Int32) [(.int (nar .byte (c_.toInt8.toInt32)))] (.int (0 : Int32)) := V_b19_20.ext E21
    have SZ21 : n0 ≤ h21.size := Nat.le_trans SZ20 E21.1
    have K21 : Keep h0 h21 [] := K20.ext E21
    have V_b21_21 : Arv Z h21 b21 cA21 .byte (1 : Int32) [(.int (0 : Int32))] (.int (0 : Int32)) := (Arv.new A21 (by decide)).pad (pad_rep [] _ 1)
    refine Gl.go (fun _ k => st21 _ k) ?_
    show Gl p.tables e below (QQof s (Q_law Z a b c_ d h0 n0) 4 6) (T21.setTop (mkF m 39 #[.val (.int a), .val (.int b), .val (.int c_), .val (.int d), .val (.int (1 : Int32)), .val (.ref b15), .val (.ref b17), .val (.ref b19), .unset, .unset, .unset, .unset, .unset, .unset] [(.ref b21)]))
    refine Gl.go (fun _ k => XS.astore X21.here hx rfl (hb hby at_39) rfl rfl (l' := #[.val (.int a), .val (.int b), .val (.int c_), .val (.int d), .val (.int (1 : Int32)), .val (.ref b15), .val (.ref b17), .val (.ref b19), .val (.ref b21), .unset, .unset, .unset, .unset, .unset]) rfl k) ?_
    show Gl p.tables e below (QQof s (Q_law Z a b c_ d h0 n0) 4 6) (T21.setTop (mkF m 41 #[.val (.int a), .val (.int b), .val (.int c_), .val (.int d), .val (.int (1 : Int32)), .val (.ref b15), .val (.ref b17), .val (.ref b19), .val (.ref b21), .unset, .unset, .unset, .unset, .unset] []))
    refine Gl.go (fun _ k => XS.iload X21.here hx rfl (hb hby at_41) rfl  k) ?_
    show Gl p.tables e below (QQof s (Q_law Z a b c_ d h0 n0) 4 6) (T21.setTop (mkF m 43 #[.val (.int a), .val (.int b), .val (.int c_), .val (.int d), .val (.int (1 : Int32)), .val (.ref b15), .val (.ref b17), .val (.ref b19), .val (.ref b21), .unset, .unset, .unset, .unset, .unset] [(.int (1 : Int32))]))
    refine Gl.go (fun _ k => XS.ifNo X21.here hx rfl (hb hby at_43) rfl ((if0 _ _).trans (tlt (by decide)).2.2.2) k) ?_
    show Gl p.tables e below (QQof s (Q_law Z a b c_ d h0 n0) 4 6) (T21.setTop (mkF m 46 #[.val (.int a), .val (.int b), .val (.int c_), .val (.int d), .val (.int (1 : Int32)), .val (.ref b15), .val (.ref b17), .val (.ref b19), .val (.ref b21), .unset, .unset, .unset, .unset, .unset] []))
    refine Gl.go (fun _ k => XS.aload X21.here hx rfl (hb hby at_46) rfl rfl  k) ?_
    show Gl p.tables e below (QQof s (Q_law Z a b c_ d h0 n0) 4 6) (T21.setTop (mkF m 48 #[.val (.int a), .val (.int b), .val (.int c_), .val (.int d), .val (.int (1 : Int32)), .val (.ref b15), .val (.ref b17), .val (.ref b19), .val (.ref b21), .unset, .unset, .unset, .unset, .unset] [(.ref b21)]))
    refine Gl.go (fun _ k => XS.iconst X21.here hx rfl (hb hby at_48) k) ?_
    show Gl p.tables e below (QQof s (Q_law Z a b c_ d h0 n0) 4 6) (T21.setTop (mkF m 49 #[.val (.int a), .val (.int b), .val (.int c_), .val (.int d), .val (.int (1 : Int32)), .val (.ref b15), .val (.ref b17), .val (.ref b19), .val (.ref b21), .unset, .unset, .unset, .unset, .unset] [(.int (0 : Int32)), (.ref b21)]))
    refine Gl.go (fun _ k => XS.iloadN X21.here hx rfl (hb hby at_49) rfl  k) ?_
    show Gl p.tables e below (QQof s (Q_law Z a b c_ d h0 n0) 4 6) (T21.setTop (mkF m 50 #[.val (.int a), .val (.int b), .val (.int c_), .val (.int d), .val (.int (1 : Int32)), .val (.ref b15), .val (.ref b17), .val (.ref b19), .val (.ref b21), .unset, .unset, .unset, .unset, .unset] [(.int a), (.int (0 : Int32)), (.ref b21)]))
    refine Gl.go (fun _ k => XS.i2b X21.here hx rfl (hb hby at_50) rfl k) ?_
    show Gl p.tables e below (QQof s (Q_law Z a b c_ d h0 n0) 4 6) (T21.setTop (mkF m 51 #[.val (.int a), .val (.int b), .val (.int c_), .val (.int d), .val (.int (1 : Int32)), .val (.ref b15), .val (.ref b17), .val (.ref b19), .val (.ref b21), .unset, .unset, .unset, .unset, .unset] [(.int (a.toInt8.toInt32)), (.int (0 : Int32)), (.ref b21)]))
    obtain ⟨cl22, Ar22, qA22, SA22, NA22, HA22, GA22⟩ := id V_b21_21
    obtain ⟨T22, h22, X22, e22, W22, st22⟩ := stB X21 hx hZ e21 Ar22 (j := (0 : Int32)) (inb_of SA22 ⟨by decide, by decide⟩) (g := (mkF m 51 #[.val (.int a), .val (.int b), .val (.int c_), .val (.int d), .val (.int (1 : Int32)), .val (.ref b15), .val (.ref b17), .val (.ref b19), .val (.ref b21), .unset, .unset, .unset, .unset, .unset] [(.int (a.toInt8.toInt32)), (.int (0 : Int32)), (.ref b21)])) rfl rfl (hb hby at_51)
    have V_b15_22 : Arv Z h22 b15 cA15 .byte (1 : Int32) [(.int (nar .byte (a.toInt8.toInt32)))] (.int (0 : Int32)) := V_b15_21.other W22 ne_b15_b21
    have V_b17_22 : Arv Z h22 b17 cA17 .byte (1 : Int32) [(.int (nar .byte (b.toInt8.toInt32)))] (.int (0 : Int32)) := V_b17_21.other W22 ne_b17_b21
    have V_b19_22 : Arv Z h22 b19 cA19 .byte (1 : Int32) [(.int (nar .byte (c_.toInt8.toInt32)))] (.int (0 : Int32)) := V_b19_21.other W22 ne_b19_b21
    have SZ22 : n0 ≤ h22.size := by rw [Wr.size W22]; exact SZ21
    have K22 : Keep h0 h22 [] := K21.wr W22 (Or.inr sz_b21)
    have N22 := Fr.snoc X22 N20 g_b21
    have V_b21_22 : Arv Z h22 b21 cA21 .byte (1 : Int32) [(.int (nar .byte (a.toInt8.toInt32)))] (.int (0 : Int32)) := Arv.set Ar22 qA22 SA22 NA22 HA22 GA22 (fits_nar_byte _) W22 0 rfl (Nat.le_of_ble_eq_true rfl)
    refine Gl.go (fun _ k => st22 _ k) ?_
    show Gl p.tables e below (QQof s (Q_law Z a b c_ d h0 n0) 4 6) (T22.setTop (mkF m 52 #[.val (.int a), .val (.int b), .val (.int c_), .val (.int d), .val (.int (1 : Int32)), .val (.ref b15), .val (.ref b17), .val (.ref b19), .val (.ref b21), .unset, .unset, .unset, .unset, .unset] []))
    refine Gl.go (fun _ k => XS.iload X22.here hx rfl (hb hby at_52) rfl  k) ?_
    show Gl p.tables e below (QQof s (Q_law Z a b c_ d h0 n0) 4 6) (T22.setTop (mkF m 54 #[.val (.int a), .val (.int b), .val (.int c_), .val (.int d), .val (.int (1 : Int32)), .val (.ref b15), .val (.ref b17), .val (.ref b19), .val (.ref b21), .unset, .unset, .unset, .unset, .unset] [(.int (1 : Int32))]))
    refine Gl.go (fun _ k => XS.iconst X22.here hx rfl (hb hby at_54) k) ?_
    show Gl p.tables e below (QQof s (Q_law Z a b c_ d h0 n0) 4 6) (T22.setTop (mkF m 55 #[.val (.int a), .val (.int b), .val (.int c_), .val (.int d), .val (.int (1 : Int32)), .val (.ref b15), .val (.ref b17), .val (.ref b19), .val (.ref b21), .unset, .unset, .unset, .unset, .unset] [(.int (1 : Int32)), (.int (1 : Int32))]))
    refine Gl.go (fun _ k => XS.icmpYes X22.here hx rfl (pc0 := 55) (pc' := 64) rfl (hb hby at_55) rfl (flt (by decide)).2.2.2 (by decide) (by decide) k) ?_
    show Gl p.tables e below (QQof s (Q_law Z a b c_ d h0 n0) 4 6) (T22.setTop (mkF m 64 #[.val (.int a), .val (.int b), .val (.int c_), .val (.int d), .val (.int (1 : Int32)), .val (.ref b15), .val (.ref b17), .val (.ref b19), .val (.ref b21), .unset, .unset, .unset, .unset, .unset] []))
    refine Gl.go (fun _ k => XS.iload X22.here hx rfl (hb hby at_64) rfl  k) ?_
    show Gl p.tables e below (QQof s (Q_law Z a b c_ d h0 n0) 4 6) (T22.setTop (mkF m 66 #[.val (.int a), .val (.int b), .val (.int c_), .val (.int d), .val (.int (1 : Int32)), .val (.ref b15), .val (.ref b17), .val (.ref b19), .val (.ref b21), .unset, .unset, .unset, .unset, .unset] [(.int (1 : Int32))]))
    refine Gl.go (fun _ k => XS.iconst X22.here hx rfl (hb hby at_66) k) ?_
    show Gl p.tables e below (QQof s (Q_law Z a b c_ d h0 n0) 4 6) (T22.setTop (mkF m 67 #[.val (.int a), .val (.int b), .val (.int c_), .val (.int d), .val (.int (1 : Int32)), .val (.ref b15), .val (.ref b17), .val (.ref b19), .val (.ref b21), .unset, .unset, .unset, .unset, .unset] [(.int (2 : Int32)), (.int (1 : Int32))]))
    refine Gl.go (fun _ k => XS.icmpYes X22.here hx rfl (pc0 := 67) (pc' := 76) rfl (hb hby at_67) rfl (flt (by decide)).2.2.2 (by decide) (by decide) k) ?_
    show Gl p.tables e below (QQof s (Q_law Z a b c_ d h0 n0) 4 6) (T22.setTop (mkF m 76 #[.val (.int a), .val (.int b), .val (.int c_), .val (.int d), .val (.int (1 : Int32)), .val (.ref b15), .val (.ref b17), .val (.ref b19), .val (.ref b21), .unset, .unset, .unset, .unset, .unset] []))
    refine Gl.go (fun _ k => XS.aload X22.here hx rfl (hb hby at_76) rfl rfl  k) ?_
    show Gl p.tables e below (QQof s (Q_law Z a b c_ d h0 n0) 4 6) (T22.setTop (mkF m 78 #[.val (.int a), .val (.int b), .val (.int c_), .val (.int d), .val (.int (1 : Int32)), .val (.ref b15), .val (.ref b17), .val (.ref b19), .val (.ref b21), .unset, .unset, .unset, .unset, .unset] [(.ref b15)]))
    obtain ⟨_, _, ⟨T23, L23, k23, n23⟩, -, X23, ⟨Lc23, hQ23, l23, y23, z23⟩, st23⟩ := Jvm.LawKit.callS X22 hx (y := (⟨"com/example/aloud/aloud/PathPattern", "byteClasses", "([B)C"⟩ : MethodName)) hown (mvT hZ (hw _ (List.mem_of_getElem? (i := 1) rfl))) (mvT hZ (hw _ (List.mem_of_getElem? (i := 2) rfl))) (mvT hZ (hw _ (List.mem_of_getElem? (i := 3) rfl))) (mvT hZ (hw _ (List.mem_of_getElem? (i := 4) rfl))) (by decide) (backOf (W := 0) (rm_bc1 l Z a0 hw [] b15 cA15 (byB a) h22 n0 SZ22 V_b15_22) hZ (hw _ (List.mem_of_getElem? (i := 4) rfl)) (hw _ (List.mem_of_getElem? (i := 3) rfl)) (by decide) (by decide)) (g := (mkF m 78 #[.val (.int a), .val (.int b), .val (.int c_), .val (.int d), .val (.int (1 : Int32)), .val (.ref b15), .val (.ref b17), .val (.ref b19), .val (.ref b21), .unset, .unset, .unset, .unset, .unset] [(.ref b15)])) rfl (by rw [hml]; rfl) (argsL := [(.ref b15)]) (rest := []) (lenOf pd_0 rfl) rfl (by show 2 * 0 + _ ≤ _; exact Nat.le_of_eq rfl) (hb hby at_78) (fun _ _ => ⟨rfl, e22, (by decide : 4 + 0 ≤ _), (by decide : 4 + 0 ≤ _)⟩)
    dsimp only [Pt.U, Pt.locs, Pt.cells, Pt.slots] at X23 l23 y23 z23 st23 hQ23
    subst l23 y23 z23
    obtain ⟨rfl, Nq23, e23⟩ := hQ23
    have N23 := Fr.app N22 Nq23
    refine Gl.go (fun _ k => st23 _ k) ?_
    show Gl p.tables e below (QQof s (Q_law Z a b c_ d h0 n0) 4 6) (T23.setTop (mkF m 81 #[.val (.int a), .val (.int b), .val (.int c_), .val (.int d), .val (.int (1 : Int32)), .val (.ref b15), .val (.ref b17), .val (.ref b19), .val (.ref b21), .unset, .unset, .unset, .unset, .unset] [(.int (chV (orB (0 : Int32) (byB a))))]))
    refine Gl.go (fun _ k => XS.istore X23.here hx rfl (hb hby at_81) rfl (l' := #[.val (.int a), .val (.int b), .val (.int c_), .val (.int d), .val (.int (1 : Int32)), .val (.ref b15), .val (.ref b17), .val (.ref b19), .val (.ref b21), .val (.int (chV (orB (0 : Int32) (byB a)))), .unset, .unset, .unset, .unset]) rfl k) ?_
    show Gl p.tables e below (QQof s (Q_law Z a b c_ d h0 n0) 4 6) (T23.setTop (mkF m 83 #[.val (.int a), .val (.int b), .val (.int c_), .val (.int d), .val (.int (1 : Int32)), .val (.ref b15), .val (.ref b17), .val (.ref b19), .val (.ref b21), .val (.int (chV (orB (0 : Int32) (byB a)))), .unset, .unset, .unset, .unset] []))
    refine Gl.go (fun _ k => XS.aload X23.here hx rfl (hb hby at_83) rfl rfl  k) ?_
    show Gl p.tables e below (QQof s (Q_law Z a b c_ d h0 n0) 4 6) (T23.setTop (mkF m 85 #[.val (.int a), .val (.int b), .val (.int c_), .val (.int d), .val (.int (1 : Int32)), .val (.ref b15), .val (.ref b17), .val (.ref b19), .val (.ref b21), .val (.int (chV (orB (0 : Int32) (byB a)))), .unset, .unset, .unset, .unset] [(.ref b17)]))
    obtain ⟨_, _, ⟨T24, L24, k24, n24⟩, -, X24, ⟨Lc24, hQ24, l24, y24, z24⟩, st24⟩ := Jvm.LawKit.callS X23 hx (y := (⟨"com/example/aloud/aloud/PathPattern", "byteClasses", "([B)C"⟩ : MethodName)) hown (mvT hZ (hw _ (List.mem_of_getElem? (i := 1) rfl))) (mvT hZ (hw _ (List.mem_of_getElem? (i := 2) rfl))) (mvT hZ (hw _ (List.mem_of_getElem? (i := 3) rfl))) (mvT hZ (hw _ (List.mem_of_getElem? (i := 4) rfl))) (by decide) (backOf (W := 0) (rm_bc1 l Z a0 hw [] b17 cA17 (byB b) h22 n0 SZ22 V_b17_22) hZ (hw _ (List.mem_of_getElem? (i := 4) rfl)) (hw _ (List.mem_of_getElem? (i := 3) rfl)) (by decide) (by decide)) (g := (mkF m 85 #[.val (.int a), .val (.int b), .val (.int c_), .val (.int d), .val (.int (1 : Int32)), .val (.ref b15), .val (.ref b17), .val (.ref b19), .val (.ref b21), .val (.int (chV (orB (0 : Int32) (byB a)))), .unset, .unset, .unset, .unset] [(.ref b17)])) rfl (by rw [hml]; rfl) (argsL := [(.ref b17)]) (rest := []) (lenOf pd_0 rfl) rfl (by show 2 * 0 + _ ≤ _; exact Nat.le_of_eq rfl) (hb hby at_85) (fun _ _ => ⟨rfl, e23, (by decide : 4 + 0 ≤ _), (by decide : 4 + 0 ≤ _)⟩)
    dsimp only [Pt.U, Pt.locs, Pt.cells, Pt.slots] at X24 l24 y24 z24 st24 hQ24
    subst l24 y24 z24
    obtain ⟨rfl, Nq24, e24⟩ := hQ24
    have N24 := Fr.app N23 Nq24
    refine Gl.go (fun _ k => st24 _ k) ?_
    show Gl p.tables e below (QQof s (Q_law Z a b c_ d h0 n0) 4 6) (T24.setTop (mkF m 88 #[.val (.int a), .val (.int b), .val (.int c_), .val (.int d), .val (.int (1 : Int32)), .val (.ref b15), .val (.ref b17), .val (.ref b19), .val (.ref b21), .val (.int (chV (orB (0 : Int32) (byB a)))), .unset, .unset, .unset, .unset] [(.int (chV (orB (0 : Int32) (byB b))))]))
    refine Gl.go (fun _ k => XS.istore X24.here hx rfl (hb hby at_88) rfl (l' := #[.val (.int a), .val (.int b), .val (.int c_), .val (.int d), .val (.int (1 : Int32)), .val (.ref b15), .val (.ref b17), .val (.ref b19), .val (.ref b21), .val (.int (chV (orB (0 : Int32) (byB a)))), .val (.int (chV (orB (0 : Int32) (byB b)))), .unset, .unset, .unset]) rfl k) ?_
    show Gl p.tables e below (QQof s (Q_law Z a b c_ d h0 n0) 4 6) (T24.setTop (mkF m 90 #[.val (.int a), .val (.int b), .val (.int c_), .val (.int d), .val (.int (1 : Int32)), .val (.ref b15), .val (.ref b17), .val (.ref b19), .val (.ref b21), .val (.int (chV (orB (0 : Int32) (byB a)))), .val (.int (chV (orB (0 : Int32) (byB b)))), .unset, .unset, .unset] []))
    refine Gl.go (fun _ k => XS.aload X24.here hx rfl (hb hby at_90) rfl rfl  k) ?_
    show Gl p.tables e below (QQof s (Q_law Z a b c_ d h0 n0) 4 6) (T24.setTop (mkF m 92 #[.val (.int a), .val (.int b), .val (.int c_), .val (.int d), .val (.int (1 : Int32)), .val (.ref b15), .val (.ref b17), .val (.ref b19), .val (.ref b21), .val (.int (chV (orB (0 : Int32) (byB a)))), .val (.int (chV (orB (0 : Int32) (byB b)))), .unset, .unset, .unset] [(.ref b19)]))
    obtain ⟨_, _, ⟨T25, L25, k25, n25⟩, -, X25, ⟨Lc25, hQ25, l25, y25, z25⟩, st25⟩ := Jvm.LawKit.callS X24 hx (y := (⟨"com/example/aloud/aloud/PathPattern", "byteClasses", "([B)C"⟩ : MethodName)) hown (mvT hZ (hw _ (List.mem_of_getElem? (i := 1) rfl))) (mvT hZ (hw _ (List.mem_of_getElem? (i := 2) rfl))) (mvT hZ (hw _ (List.mem_of_getElem? (i := 3) rfl))) (mvT hZ (hw _ (List.mem_of_getElem? (i := 4) rfl))) (by decide) (backOf (W := 0) (rm_bc1 l Z a0 hw [] b19 cA19 (byB c_) h22 n0 SZ22 V_b19_22) hZ (hw _ (List.mem_of_getElem? (i := 4) rfl)) (hw _ (List.mem_of_getElem? (i := 3) rfl)) (by decide) (by decide)) (g := (mkF m 92 #[.val (.int a), .val (.int b), .val (.int c_), .val (.int d), .val (.int (1 : Int32)), .val (.ref b15), .val (.ref b17), .val (.ref b19), .val (.ref b21), .val (.int (chV (orB (0 : Int32) (byB a)))), .val (.int (chV (orB (0 : Int32) (byB b)))), .unset, .unset, .unset] [(.ref b19)])) rfl (by rw [hml]; rfl) (argsL := [(.ref b19)]) (rest := []) (lenOf pd_0 rfl) rfl (by show 2 * 0 + _ ≤ _; exact Nat.le_of_eq rfl) (hb hby at_92) (fun _ _ => ⟨rfl, e24, (by decide : 4 + 0 ≤ _), (by decide : 4 + 0 ≤ _)⟩)
    dsimp only [Pt.U, Pt.locs, Pt.cells, Pt.slots] at X25 l25 y25 z25 st25 hQ25
    subst l25 y25 z25
    obtain ⟨rfl, Nq25, e25⟩ := hQ25
    have N25 := Fr.app N24 Nq25
    refine Gl.go (fun _ k => st25 _ k) ?_
    show Gl p.tables e below (QQof s (Q_law Z a b c_ d h0 n0) 4 6) (T25.setTop (mkF m 95 #[.val (.int a), .val (.int b), .val (.int c_), .val (.int d), .val (.int (1 : Int32)), .val (.ref b15), .val (.ref b17), .val (.ref b19), .val (.ref b21), .val (.int (chV (orB (0 : Int32) (byB a)))), .val (.int (chV (orB (0 : Int32) (byB b)))), .unset, .unset, .unset] [(.int (chV (orB (0 : Int32) (byB c_))))]))
    refine Gl.go (fun _ k => XS.istore X25.here hx rfl (hb hby at_95) rfl (l' := #[.val (.int a), .val (.int b), .val (.int c_), .val (.int d), .val (.int (1 : Int32)), .val (.ref b15), .val (.ref b17), .val (.ref b19), .val (.ref b21), .val (.int (chV (orB (0 : Int32) (byB a)))), .val (.int (chV (orB (0 : Int32) (byB b)))), .val (.int (chV (orB (0 : Int32) (byB c_)))), .unset, .unset]) rfl k) ?_
    show Gl p.tables e below (QQof s (Q_law Z a b c_ d h0 n0) 4 6) (T25.setTop (mkF m 97 #[.val (.int a), .val (.int b), .val (.int c_), .val (.int d), .val (.int (1 : Int32)), .val (.ref b15), .val (.ref b17), .val (.ref b19), .val (.ref b21), .val (.int (chV (orB (0 : Int32) (byB a)))), .val (.int (chV (orB (0 : Int32) (byB b)))), .val (.int (chV (orB (0 : Int32) (byB c_)))), .unset, .unset] []))
    refine Gl.go (fun _ k => XS.aload X25.here hx rfl (hb hby at_97) rfl rfl  k) ?_
    show Gl p.tables e below (QQof s (Q_law Z a b c_ d h0 n0) 4 6) (T25.setTop (mkF m 99 #[.val (.int a), .val (.int b), .val (.int c_), .val (.int d), .val (.int (1 : Int32)), .val (.ref b15), .val (.ref b17), .val (.ref b19), .val (.ref b21), .val (.int (chV (orB (0 : Int32) (byB a)))), .val (.int (chV (orB (0 : Int32) (byB b)))), .val (.int (chV (orB (0 : Int32) (byB c_)))), .unset, .unset] [(.ref b21)]))
    obtain ⟨_, _, ⟨T26, L26, k26, n26⟩, -, X26, ⟨Lc26, hQ26, l26, y26, z26⟩, st26⟩ := Jvm.LawKit.callS X25 hx (y := (⟨"com/example/aloud/aloud/PathPattern", "byteClasses", "([B)C"⟩ : MethodName)) hown (mvT hZ (hw _ (List.mem_of_getElem? (i := 1) rfl))) (mvT hZ (hw _ (List.mem_of_getElem? (i := 2) rfl))) (mvT hZ (hw _ (List.mem_of_getElem? (i := 3) rfl))) (mvT hZ (hw _ (List.mem_of_getElem? (i := 4) rfl))) (by decide) (backOf (W := 0) (rm_bc1 l Z a0 hw [] b21 cA21 (byB a) h22 n0 SZ22 V_b21_22) hZ (hw _ (List.mem_of_getElem? (i := 4) rfl)) (hw _ (List.mem_of_getElem? (i := 3) rfl)) (by decide) (by decide)) (g := (mkF m 99 #[.val (.int a), .val (.int b), .val (.int c_), .val (.int d), .val (.int (1 : Int32)), .val (.ref b15), .val (.ref b17), .val (.ref b19), .val (.ref b21), .val (.int (chV (orB (0 : Int32) (byB a)))), .val (.int (chV (orB (0 : Int32) (byB b)))), .val (.int (chV (orB (0 : Int32) (byB c_)))), .unset, .unset] [(.ref b21)])) rfl (by rw [hml]; rfl) (argsL := [(.ref b21)]) (rest := []) (lenOf pd_0 rfl) rfl (by show 2 * 0 + _ ≤ _; exact Nat.le_of_eq rfl) (hb hby at_99) (fun _ _ => ⟨rfl, e25, (by decide : 4 + 0 ≤ _), (by decide : 4 + 0 ≤ _)⟩)
    dsimp only [Pt.U, Pt.locs, Pt.cells, Pt.slots] at X26 l26 y26 z26 st26 hQ26
    subst l26 y26 z26
    obtain ⟨rfl, Nq26, e26⟩ := hQ26
    have N26 := Fr.app N25 Nq26
    refine Gl.go (fun _ k => st26 _ k) ?_
    show Gl p.tables e below (QQof s (Q_law Z a b c_ d h0 n0) 4 6) (T26.setTop (mkF m 102 #[.val (.int a), .val (.int b), .val (.int c_), .val (.int d), .val (.int (1 : Int32)), .val (.ref b15), .val (.ref b17), .val (.ref b19), .val (.ref b21), .val (.int (chV (orB (0 : Int32) (byB a)))), .val (.int (chV (orB (0 : Int32) (byB b)))), .val (.int (chV (orB (0 : Int32) (byB c_)))), .unset, .unset] [(.int (chV (orB (0 : Int32) (byB a))))]))
    refine Gl.go (fun _ k => XS.istore X26.here hx rfl (hb hby at_102) rfl (l' := #[.val (.int a), .val (.int b), .val (.int c_), .val (.int d), .val (.int (1 : Int32)), .val (.ref b15), .val (.ref b17), .val (.ref b19), .val (.ref b21), .val (.int (chV (orB (0 : Int32) (byB a)))), .val (.int (chV (orB (0 : Int32) (byB b)))), .val (.int (chV (orB (0 : Int32) (byB c_)))), .val (.int (chV (orB (0 : Int32) (byB a)))), .unset]) rfl k) ?_
    show Gl p.tables e below (QQof s (Q_law Z a b c_ d h0 n0) 4 6) (T26.setTop (mkF m 104 #[.val (.int a), .val (.int b), .val (.int c_), .val (.int d), .val (.int (1 : Int32)), .val (.ref b15), .val (.ref b17), .val (.ref b19), .val (.ref b21), .val (.int (chV (orB (0 : Int32) (byB a)))), .val (.int (chV (orB (0 : Int32) (byB b)))), .val (.int (chV (orB (0 : Int32) (byB c_)))), .val (.int (chV (orB (0 : Int32) (byB a)))), .unset] []))
    refine Gl.go (fun _ k => XS.iconst X26.here hx rfl (hb hby at_104) k) ?_
    show Gl p.tables e below (QQof s (Q_law Z a b c_ d h0 n0) 4 6) (T26.setTop (mkF m 105 #[.val (.int a), .val (.int b), .val (.int c_), .val (.int d), .val (.int (1 : Int32)), .val (.ref b15), .val (.ref b17), .val (.ref b19), .val (.ref b21), .val (.int (chV (orB (0 : Int32) (byB a)))), .val (.int (chV (orB (0 : Int32) (byB b)))), .val (.int (chV (orB (0 : Int32) (byB c_)))), .val (.int (chV (orB (0 : Int32) (byB a)))), .unset] [(.int (0 : Int32))]))
    refine Gl.go (fun _ k => XS.istore X26.here hx rfl (hb hby at_105) rfl (l' := #[.val (.int a), .val (.int b), .val (.int c_), .val (.int d), .val (.int (1 : Int32)), .val (.ref b15), .val (.ref b17), .val (.ref b19), .val (.ref b21), .val (.int (chV (orB (0 : Int32) (byB a)))), .val (.int (chV (orB (0 : Int32) (byB b)))), .val (.int (chV (orB (0 : Int32) (byB c_)))), .val (.int (chV (orB (0 : Int32) (byB a)))), .val (.int (0 : Int32))]) rfl k) ?_
    show Gl p.tables e below (QQof s (Q_law Z a b c_ d h0 n0) 4 6) (T26.setTop (mkF m 107 #[.val (.int a), .val (.int b), .val (.int c_), .val (.int d), .val (.int (1 : Int32)), .val (.ref b15), .val (.ref b17), .val (.ref b19), .val (.ref b21), .val (.int (chV (orB (0 : Int32) (byB a)))), .val (.int (chV (orB (0 : Int32) (byB b)))), .val (.int (chV (orB (0 : Int32) (byB c_)))), .val (.int (chV (orB (0 : Int32) (byB a)))), .val (.int (0 : Int32))] []))
    refine Gl.go (fun _ k => XS.iload X26.here hx rfl (hb hby at_107) rfl  k) ?_
    show Gl p.tables e below (QQof s (Q_law Z a b c_ d h0 n0) 4 6) (T26.setTop (mkF m 109 #[.val (.int a), .val (.int b), .val (.int c_), .val (.int d), .val (.int (1 : Int32)), .val (.ref b15), .val (.ref b17), .val (.ref b19), .val (.ref b21), .val (.int (chV (orB (0 : Int32) (byB a)))), .val (.int (chV (orB (0 : Int32) (byB b)))), .val (.int (chV (orB (0 : Int32) (byB c_)))), .val (.int (chV (orB (0 : Int32) (byB a)))), .val (.int (0 : Int32))] [(.int (1 : Int32))]))
    refine Gl.go (fun _ k => XS.ifNo X26.here hx rfl (hb hby at_109) rfl ((if0 _ _).trans (tlt (by decide)).2.2.2) k) ?_
    show Gl p.tables e below (QQof s (Q_law Z a b c_ d h0 n0) 4 6) (T26.setTop (mkF m 112 #[.val (.int a), .val (.int b), .val (.int c_), .val (.int d), .val (.int (1 : Int32)), .val (.ref b15), .val (.ref b17), .val (.ref b19), .val (.ref b21), .val (.int (chV (orB (0 : Int32) (byB a)))), .val (.int (chV (orB (0 : Int32) (byB b)))), .val (.int (chV (orB (0 : Int32) (byB c_)))), .val (.int (chV (orB (0 : Int32) (byB a)))), .val (.int (0 : Int32))] []))
    refine Gl.go (fun _ k => XS.iload X26.here hx rfl (hb hby at_112) rfl  k) ?_
    show Gl p.tables e below (QQof s (Q_law Z a b c_ d h0 n0) 4 6) (T26.setTop (mkF m 114 #[.val (.int a), .val (.int b), .val (.int c_), .val (.int d), .val (.int (1 : Int32)), .val (.ref b15), .val (.ref b17), .val (.ref b19), .val (.ref b21), .val (.int (chV (orB (0 : Int32) (byB a)))), .val (.int (chV (orB (0 : Int32) (byB b)))), .val (.int (chV (orB (0 : Int32) (byB c_)))), .val (.int (chV (orB (0 : Int32) (byB a)))), .val (.int (0 : Int32))] [(.int (0 : Int32))]))
    refine Gl.go (fun _ k => XS.iload X26.here hx rfl (hb hby at_114) rfl  k) ?_
    show Gl p.tables e below (QQof s (Q_law Z a b c_ d h0 n0) 4 6) (T26.setTop (mkF m 116 #[.val (.int a), .val (.int b), .val (.int c_), .val (.int d), .val (.int (1 : Int32)), .val (.ref b15), .val (.ref b17), .val (.ref b19), .val (.ref b21), .val (.int (chV (orB (0 : Int32) (byB a)))), .val (.int (chV (orB (0 : Int32) (byB b)))), .val (.int (chV (orB (0 : Int32) (byB c_)))), .val (.int (chV (orB (0 : Int32) (byB a)))), .val (.int (0 : Int32))] [(.int (chV (orB (0 : Int32) (byB a)))), (.int (0 : Int32))]))
    refine Gl.go (fun _ k => XS.ior X26.here hx rfl (hb hby at_116) rfl k) ?_
    show Gl p.tables e below (QQof s (Q_law Z a b c_ d h0 n0) 4 6) (T26.setTop (mkF m 117 #[.val (.int a), .val (.int b), .val (.int c_), .val (.int d), .val (.int (1 : Int32)), .val (.ref b15), .val (.ref b17), .val (.ref b19), .val (.ref b21), .val (.int (chV (orB (0 : Int32) (byB a)))), .val (.int (chV (orB (0 : Int32) (byB b)))), .val (.int (chV (orB (0 : Int32) (byB c_)))), .val (.int (chV (orB (0 : Int32) (byB a)))), .val (.int (0 : Int32))] [(.int ((0 : Int32) ||| (chV (orB (0 : Int32) (byB a)))))]))
    refine Gl.go (fun _ k => XS.istore X26.here hx rfl (hb hby at_117) rfl (l' := #[.val (.int a), .val (.int b), .val (.int c_), .val (.int d), .val (.int (1 : Int32)), .val (.ref b15), .val (.ref b17), .val (.ref b19), .val (.ref b21), .val (.int (chV (orB (0 : Int32) (byB a)))), .val (.int (chV (orB (0 : Int32) (byB b)))), .val (.int (chV (orB (0 : Int32) (byB c_)))), .val (.int (chV (orB (0 : Int32) (byB a)))), .val (.int ((0 : Int32) ||| (chV (orB (0 : Int32) (byB a)))))]) rfl k) ?_
    show Gl p.tables e below (QQof s (Q_law Z a b c_ d h0 n0) 4 6) (T26.setTop (mkF m 119 #[.val (.int a), .val (.int b), .val (.int c_), .val (.int d), .val (.int (1 : Int32)), .val (.ref b15), .val (.ref b17), .val (.ref b19), .val (.ref b21), .val (.int (chV (orB (0 : Int32) (byB a)))), .val (.int (chV (orB (0 : Int32) (byB b)))), .val (.int (chV (orB (0 : Int32) (byB c_)))), .val (.int (chV (orB (0 : Int32) (byB a)))), .val (.int ((0 : Int32) ||| (chV (orB (0 : Int32) (byB a)))))] []))
    refine Gl.go (fun _ k => XS.iload X26.here hx rfl (hb hby at_119) rfl  k) ?_
    show Gl p.tables e below (QQof s (Q_law Z a b c_ d h0 n0) 4 6) (T26.setTop (mkF m 121 #[.val (.int a), .val (.int b), .val (.int c_), .val (.int d), .val (.int (1 : Int32)), .val (.ref b15), .val (.ref b17), .val (.ref b19), .val (.ref b21), .val (.int (chV (orB (0 : Int32) (byB a)))), .val (.int (chV (orB (0 : Int32) (byB b)))), .val (.int (chV (orB (0 : Int32) (byB c_)))), .val (.int (chV (orB (0 : Int32) (byB a)))), .val (.int ((0 : Int32) ||| (chV (orB (0 : Int32) (byB a)))))] [(.int (1 : Int32))]))
    refine Gl.go (fun _ k => XS.iconst X26.here hx rfl (hb hby at_121) k) ?_
    show Gl p.tables e below (QQof s (Q_law Z a b c_ d h0 n0) 4 6) (T26.setTop (mkF m 122 #[.val (.int a), .val (.int b), .val (.int c_), .val (.int d), .val (.int (1 : Int32)), .val (.ref b15), .val (.ref b17), .val (.ref b19), .val (.ref b21), .val (.int (chV (orB (0 : Int32) (byB a)))), .val (.int (chV (orB (0 : Int32) (byB b)))), .val (.int (chV (orB (0 : Int32) (byB c_)))), .val (.int (chV (orB (0 : Int32) (byB a)))), .val (.int ((0 : Int32) ||| (chV (orB (0 : Int32) (byB a)))))] [(.int (1 : Int32)), (.int (1 : Int32))]))
    refine Gl.go (fun _ k => XS.icmpYes X26.here hx rfl (pc0 := 122) (pc' := 132) rfl (hb hby at_122) rfl (flt (by decide)).2.2.2 (by decide) (by decide) k) ?_
    show Gl p.tables e below (QQof s (Q_law Z a b c_ d h0 n0) 4 6) (T26.setTop (mkF m 132 #[.val (.int a), .val (.int b), .val (.int c_), .val (.int d), .val (.int (1 : Int32)), .val (.ref b15), .val (.ref b17), .val (.ref b19), .val (.ref b21), .val (.int (chV (orB (0 : Int32) (byB a)))), .val (.int (chV (orB (0 : Int32) (byB b)))), .val (.int (chV (orB (0 : Int32) (byB c_)))), .val (.int (chV (orB (0 : Int32) (byB a)))), .val (.int ((0 : Int32) ||| (chV (orB (0 : Int32) (byB a)))))] []))
    refine Gl.go (fun _ k => XS.iload X26.here hx rfl (hb hby at_132) rfl  k) ?_
    show Gl p.tables e below (QQof s (Q_law Z a b c_ d h0 n0) 4 6) (T26.setTop (mkF m 134 #[.val (.int a), .val (.int b), .val (.int c_), .val (.int d), .val (.int (1 : Int32)), .val (.ref b15), .val (.ref b17), .val (.ref b19), .val (.ref b21), .val (.int (chV (orB (0 : Int32) (byB a)))), .val (.int (chV (orB (0 : Int32) (byB b)))), .val (.int (chV (orB (0 : Int32) (byB c_)))), .val (.int (chV (orB (0 : Int32) (byB a)))), .val (.int ((0 : Int32) ||| (chV (orB (0 : Int32) (byB a)))))] [(.int (1 : Int32))]))
    refine Gl.go (fun _ k => XS.iconst X26.here hx rfl (hb hby at_134) k) ?_
    show Gl p.tables e below (QQof s (Q_law Z a b c_ d h0 n0) 4 6) (T26.setTop (mkF m 135 #[.val (.int a), .val (.int b), .val (.int c_), .val (.int d), .val (.int (1 : Int32)), .val (.ref b15), .val (.ref b17), .val (.ref b19), .val (.ref b21), .val (.int (chV (orB (0 : Int32) (byB a)))), .val (.int (chV (orB (0 : Int32) (byB b)))), .val (.int (chV (orB (0 : Int32) (byB c_)))), .val (.int (chV (orB (0 : Int32) (byB a)))), .val (.int ((0 : Int32) ||| (chV (orB (0 : Int32) (byB a)))))] [(.int (2 : Int32)), (.int (1 : Int32))]))
    refine Gl.go (fun _ k => XS.icmpYes X26.here hx rfl (pc0 := 135) (pc' := 145) rfl (hb hby at_135) rfl (flt (by decide)).2.2.2 (by decide) (by decide) k) ?_
    show Gl p.tables e below (QQof s (Q_law Z a b c_ d h0 n0) 4 6) (T26.setTop (mkF m 145 #[.val (.int a), .val (.int b), .val (.int c_), .val (.int d), .val (.int (1 : Int32)), .val (.ref b15), .val (.ref b17), .val (.ref b19), .val (.ref b21), .val (.int (chV (orB (0 : Int32) (byB a)))), .val (.int (chV (orB (0 : Int32) (byB b)))), .val (.int (chV (orB (0 : Int32) (byB c_)))), .val (.int (chV (orB (0 : Int32) (byB a)))), .val (.int ((0 : Int32) ||| (chV (orB (0 : Int32) (byB a)))))] []))
    refine Gl.go (fun _ k => XS.iloadN X26.here hx rfl (hb hby at_145) rfl  k) ?_
    show Gl p.tables e below (QQof s (Q_law Z a b c_ d h0 n0) 4 6) (T26.setTop (mkF m 146 #[.val (.int a), .val (.int b), .val (.int c_), .val (.int d), .val (.int (1 : Int32)), .val (.ref b15), .val (.ref b17), .val (.ref b19), .val (.ref b21), .val (.int (chV (orB (0 : Int32) (byB a)))), .val (.int (chV (orB (0 : Int32) (byB b)))), .val (.int (chV (orB (0 : Int32) (byB c_)))), .val (.int (chV (orB (0 : Int32) (byB a)))), .val (.int ((0 : Int32) ||| (chV (orB (0 : Int32) (byB a)))))] [(.int a)]))
    refine Gl.go (fun _ k => XS.iload X26.here hx rfl (hb hby at_146) rfl  k) ?_
    show Gl p.tables e below (QQof s (Q_law Z a b c_ d h0 n0) 4 6) (T26.setTop (mkF m 148 #[.val (.int a), .val (.int b), .val (.int c_), .val (.int d), .val (.int (1 : Int32)), .val (.ref b15), .val (.ref b17), .val (.ref b19), .val (.ref b21), .val (.int (chV (orB (0 : Int32) (byB a)))), .val (.int (chV (orB (0 : Int32) (byB b)))), .val (.int (chV (orB (0 : Int32) (byB c_)))), .val (.int (chV (orB (0 : Int32) (byB a)))), .val (.int ((0 : Int32) ||| (chV (orB (0 : Int32) (byB a)))))] [(.int (chV (orB (0 : Int32) (byB a)))), (.int a)]))
    obtain ⟨_, _, ⟨T27, L27, k27, n27⟩, -, X27, ⟨Lc27, hQ27, l27, y27, z27⟩, st27⟩ := Jvm.LawKit.callS X26 hx (y := (⟨"com/example/aloud/aloud/PathPatternByteClassesPinLaw", "single", "(II)Z"⟩ : MethodName)) hown (mvT hZ (hw _ (List.mem_of_getElem? (i := 5) rfl))) (mvT hZ (hw _ (List.mem_of_getElem? (i := 6) rfl))) (mvT hZ (hw _ (List.mem_of_getElem? (i := 7) rfl))) (mvT hZ (hw _ (List.mem_of_getElem? (i := 8) rfl))) (by decide) (backOf (W := 0) (rm_sg l Z a0 hw [] a (chV (orB (0 : Int32) (byB a))) h22 n0 SZ22 ) hZ (hw _ (List.mem_of_getElem? (i := 8) rfl)) (hw _ (List.mem_of_getElem? (i := 7) rfl)) (by decide) (by decide)) (g := (mkF m 148 #[.val (.int a), .val (.int b), .val (.int c_), .val (.int d), .val (.int (1 : Int32)), .val (.ref b15), .val (.ref b17), .val (.ref b19), .val (.ref b21), .val (.int (chV (orB (0 : Int32) (byB a)))), .val (.int (chV (orB (0 : Int32) (byB b)))), .val (.int (chV (orB (0 : Int32) (byB c_)))), .val (.int (chV (orB (0 : Int32) (byB a)))), .val (.int ((0 : Int32) ||| (chV (orB (0 : Int32) (byB a)))))] [(.int (chV (orB (0 : Int32) (byB a)))), (.int a)])) rfl (by rw [hml]; rfl) (argsL := [(.int a), (.int (chV (orB (0 : Int32) (byB a))))]) (rest := []) (lenOf pd_1 rfl) rfl (by show 2 * 0 + _ ≤ _; exact Nat.le_of_eq rfl) (hb hby at_148) (fun _ _ => ⟨rfl, e26, (by decide : 4 + 0 ≤ _), (by decide : 4 + 0 ≤ _)⟩)
    dsimp only [Pt.U, Pt.locs, Pt.cells, Pt.slots] at X27 l27 y27 z27 st27 hQ27
    subst l27 y27 z27
    obtain ⟨rfl, Nq27, e27⟩ := hQ27
    have N27 := Fr.app N26 Nq27
    refine Gl.go (fun _ k => st27 _ k) ?_
    show Gl p.tables e below (QQof s (Q_law Z a b c_ d h0 n0) 4 6) (T27.setTop (mkF m 151 #[.val (.int a), .val (.int b), .val (.int c_), .val (.int d), .val (.int (1 : Int32)), .val (.ref b15), .val (.ref b17), .val (.ref b19), .val (.ref b21), .val (.int (chV (orB (0 : Int32) (byB a)))), .val (.int (chV (orB (0 : Int32) (byB b)))), .val (.int (chV (orB (0 : Int32) (byB c_)))), .val (.int (chV (orB (0 : Int32) (byB a)))), .val (.int ((0 : Int32) ||| (chV (orB (0 : Int32) (byB a)))))] [(.int (sgV a (chV (orB (0 : Int32) (byB a)))))]))
    rw [(own_sg a : (sgV a (chV (orB (0 : Int32) (byB a)))) = (1 : Int32))]
    show Gl p.tables e below (QQof s (Q_law Z a b c_ d h0 n0) 4 6) (T27.setTop (mkF m 151 #[.val (.int a), .val (.int b), .val (.int c_), .val (.int d), .val (.int (1 : Int32)), .val (.ref b15), .val (.ref b17), .val (.ref b19), .val (.ref b21), .val (.int (chV (orB (0 : Int32) (byB a)))), .val (.int (chV (orB (0 : Int32) (byB b)))), .val (.int (chV (orB (0 : Int32) (byB c_)))), .val (.int (chV (orB (0 : Int32) (byB a)))), .val (.int ((0 : Int32) ||| (chV (orB (0 : Int32) (byB a)))))] [(.int (1 : Int32))]))
    refine Gl.go (fun _ k => XS.ifNo X27.here hx rfl (hb hby at_151) rfl ((if0 _ _).trans (feq (by decide)).1) k) ?_
    show Gl p.tables e below (QQof s (Q_law Z a b c_ d h0 n0) 4 6) (T27.setTop (mkF m 154 #[.val (.int a), .val (.int b), .val (.int c_), .val (.int d), .val (.int (1 : Int32)), .val (.ref b15), .val (.ref b17), .val (.ref b19), .val (.ref b21), .val (.int (chV (orB (0 : Int32) (byB a)))), .val (.int (chV (orB (0 : Int32) (byB b)))), .val (.int (chV (orB (0 : Int32) (byB c_)))), .val (.int (chV (orB (0 : Int32) (byB a)))), .val (.int ((0 : Int32) ||| (chV (orB (0 : Int32) (byB a)))))] []))
    refine Gl.go (fun _ k => XS.iloadN X27.here hx rfl (hb hby at_154) rfl  k) ?_
    show Gl p.tables e below (QQof s (Q_law Z a b c_ d h0 n0) 4 6) (T27.setTop (mkF m 155 #[.val (.int a), .val (.int b), .val (.int c_), .val (.int d), .val (.int (1 : Int32)), .val (.ref b15), .val (.ref b17), .val (.ref b19), .val (.ref b21), .val (.int (chV (orB (0 : Int32) (byB a)))), .val (.int (chV (orB (0 : Int32) (byB b)))), .val (.int (chV (orB (0 : Int32) (byB c_)))), .val (.int (chV (orB (0 : Int32) (byB a)))), .val (.int ((0 : Int32) ||| (chV (orB (0 : Int32) (byB a)))))] [(.int b)]))
    refine Gl.go (fun _ k => XS.iload X27.here hx rfl (hb hby at_155) rfl  k) ?_
    show Gl p.tables e below (QQof s (Q_law Z a b c_ d h0 n0) 4 6) (T27.setTop (mkF m 157 #[.val (.int a), .val (.int b), .val (.int c_), .val (.int d), .val (.int (1 : Int32)), .val (.ref b15), .val (.ref b17), .val (.ref b19), .val (.ref b21), .val (.int (chV (orB (0 : Int32) (byB a)))), .val (.int (chV (orB (0 : Int32) (byB b)))), .val (.int (chV (orB (0 : Int32) (byB c_)))), .val (.int (chV (orB (0 : Int32) (byB a)))), .val (.int ((0 : Int32) ||| (chV (orB (0 : Int32) (byB a)))))] [(.int (chV (orB (0 : Int32) (byB b)))), (.int b)]))
    obtain ⟨_, _, ⟨T28, L28, k28, n28⟩, -, X28, ⟨Lc28, hQ28, l28, y28, z28⟩, st28⟩ := Jvm.LawKit.callS X27 hx (y := (⟨"com/example/aloud/aloud/PathPatternByteClassesPinLaw", "single", "(II)Z"⟩ : MethodName)) hown (mvT hZ (hw _ (List.mem_of_getElem? (i := 5) rfl))) (mvT hZ (hw _ (List.mem_of_getElem? (i := 6) rfl))) (mvT hZ (hw _ (List.mem_of_getElem? (i := 7) rfl))) (mvT hZ (hw _ (List.mem_of_getElem? (i := 8) rfl))) (by decide) (backOf (W := 0) (rm_sg l Z a0 hw [] b (chV (orB (0 : Int32) (byB b))) h22 n0 SZ22 ) hZ (hw _ (List.mem_of_getElem? (i := 8) rfl)) (hw _ (List.mem_of_getElem? (i := 7) rfl)) (by decide) (by decide)) (g := (mkF m 157 #[.val (.int a), .val (.int b), .val (.int c_), .val (.int d), .val (.int (1 : Int32)), .val (.ref b15), .val (.ref b17), .val (.ref b19), .val (.ref b21), .val (.int (chV (orB (0 : Int32) (byB a)))), .val (.int (chV (orB (0 : Int32) (byB b)))), .val (.int (chV (orB (0 : Int32) (byB c_)))), .val (.int (chV (orB (0 : Int32) (byB a)))), .val (.int ((0 : Int32) ||| (chV (orB (0 : Int32) (byB a)))))] [(.int (chV (orB (0 : Int32) (byB b)))), (.int b)])) rfl (by rw [hml]; rfl) (argsL := [(.int b), (.int (chV (orB (0 : Int32) (byB b))))]) (rest := []) (lenOf pd_1 rfl) rfl (by show 2 * 0 + _ ≤ _; exact Nat.le_of_eq rfl) (hb hby at_157) (fun _ _ => ⟨rfl, e27, (by decide : 4 + 0 ≤ _), (by decide : 4 + 0 ≤ _)⟩)
    dsimp only [Pt.U, Pt.locs, Pt.cells, Pt.slots] at X28 l28 y28 z28 st28 hQ28
    subst l28 y28 z28
    obtain ⟨rfl, Nq28, e28⟩ := hQ28
    have N28 := Fr.app N27 Nq28
    refine Gl.go (fun _ k => st28 _ k) ?_
    show Gl p.tables e below (QQof s (Q_law Z a b c_ d h0 n0) 4 6) (T28.setTop (mkF m 160 #[.val (.int a), .val (.int b), .val (.int c_), .val (.int d), .val (.int (1 : Int32)), .val (.ref b15), .val (.ref b17), .val (.ref b19), .val (.ref b21), .val (.int (chV (orB (0 : Int32) (byB a)))), .val (.int (chV (orB (0 : Int32) (byB b)))), .val (.int (chV (orB (0 : Int32) (byB c_)))), .val (.int (chV (orB (0 : Int32) (byB a)))), .val (.int ((0 : Int32) ||| (chV (orB (0 : Int32) (byB a)))))] [(.int (sgV b (chV (orB (0 : Int32) (byB b)))))]))
    rw [(own_sg b : (sgV b (chV (orB (0 : Int32) (byB b)))) = (1 : Int32))]
    show Gl p.tables e below (QQof s (Q_law Z a b c_ d h0 n0) 4 6) (T28.setTop (mkF m 160 #[.val (.int a), .val (.int b), .val (.int c_), .val (.int d), .val (.int (1 : Int32)), .val (.ref b15), .val (.ref b17), .val (.ref b19), .val (.ref b21), .val (.int (chV (orB (0 : Int32) (byB a)))), .val (.int (chV (orB (0 : Int32) (byB b)))), .val (.int (chV (orB (0 : Int32) (byB c_)))), .val (.int (chV (orB (0 : Int32) (byB a)))), .val (.int ((0 : Int32) ||| (chV (orB (0 : Int32) (byB a)))))] [(.int (1 : Int32))]))
    refine Gl.go (fun _ k => XS.ifNo X28.here hx rfl (hb hby at_160) rfl ((if0 _ _).trans (feq (by decide)).1) k) ?_
    show Gl p.tables e below (QQof s (Q_law Z a b c_ d h0 n0) 4 6) (T28.setTop (mkF m 163 #[.val (.int a), .val (.int b), .val (.int c_), .val (.int d), .val (.int (1 : Int32)), .val (.ref b15), .val (.ref b17), .val (.ref b19), .val (.ref b21), .val (.int (chV (orB (0 : Int32) (byB a)))), .val (.int (chV (orB (0 : Int32) (byB b)))), .val (.int (chV (orB (0 : Int32) (byB c_)))), .val (.int (chV (orB (0 : Int32) (byB a)))), .val (.int ((0 : Int32) ||| (chV (orB (0 : Int32) (byB a)))))] []))
    refine Gl.go (fun _ k => XS.iloadN X28.here hx rfl (hb hby at_163) rfl  k) ?_
    show Gl p.tables e below (QQof s (Q_law Z a b c_ d h0 n0) 4 6) (T28.setTop (mkF m 164 #[.val (.int a), .val (.int b), .val (.int c_), .val (.int d), .val (.int (1 : Int32)), .val (.ref b15), .val (.ref b17), .val (.ref b19), .val (.ref b21), .val (.int (chV (orB (0 : Int32) (byB a)))), .val (.int (chV (orB (0 : Int32) (byB b)))), .val (.int (chV (orB (0 : Int32) (byB c_)))), .val (.int (chV (orB (0 : Int32) (byB a)))), .val (.int ((0 : Int32) ||| (chV (orB (0 : Int32) (byB a)))))] [(.int c_)]))
    refine Gl.go (fun _ k => XS.iload X28.here hx rfl (hb hby at_164) rfl  k) ?_
    show Gl p.tables e below (QQof s (Q_law Z a b c_ d h0 n0) 4 6) (T28.setTop (mkF m 166 #[.val (.int a), .val (.int b), .val (.int c_), .val (.int d), .val (.int (1 : Int32)), .val (.ref b15), .val (.ref b17), .val (.ref b19), .val (.ref b21), .val (.int (chV (orB (0 : Int32) (byB a)))), .val (.int (chV (orB (0 : Int32) (byB b)))), .val (.int (chV (orB (0 : Int32) (byB c_)))), .val (.int (chV (orB (0 : Int32) (byB a)))), .val (.int ((0 : Int32) ||| (chV (orB (0 : Int32) (byB a)))))] [(.int (chV (orB (0 : Int32) (byB c_)))), (.int c_)]))
    obtain ⟨_, _, ⟨T29, L29, k29, n29⟩, -, X29, ⟨Lc29, hQ29, l29, y29, z29⟩, st29⟩ := Jvm.LawKit.callS X28 hx (y := (⟨"com/example/aloud/aloud/PathPatternByteClassesPinLaw", "single", "(II)Z"⟩ : MethodName)) hown (mvT hZ (hw _ (List.mem_of_getElem? (i := 5) rfl))) (mvT hZ (hw _ (List.mem_of_getElem? (i := 6) rfl))) (mvT hZ (hw _ (List.mem_of_getElem? (i := 7) rfl))) (mvT hZ (hw _ (List.mem_of_getElem? (i := 8) rfl))) (by decide) (backOf (W := 0) (rm_sg l Z a0 hw [] c_ (chV (orB (0 : Int32) (byB c_))) h22 n0 SZ22 ) hZ (hw _ (List.mem_of_getElem? (i := 8) rfl)) (hw _ (List.mem_of_getElem? (i := 7) rfl)) (by decide) (by decide)) (g := (mkF m 166 #[.val (.int a), .val (.int b), .val (.int c_), .val (.int d), .val (.int (1 : Int32)), .val (.ref b15), .val (.ref b17), .val (.ref b19), .val (.ref b21), .val (.int (chV (orB (0 : Int32) (byB a)))), .val (.int (chV (orB (0 : Int32) (byB b)))), .val (.int (chV (orB (0 : Int32) (byB c_)))), .val (.int (chV (orB (0 : Int32) (byB a)))), .val (.int ((0 : Int32) ||| (chV (orB (0 : Int32) (byB a)))))] [(.int (chV (orB (0 : Int32) (byB c_)))), (.int c_)])) rfl (by rw [hml]; rfl) (argsL := [(.int c_), (.int (chV (orB (0 : Int32) (byB c_))))]) (rest := []) (lenOf pd_1 rfl) rfl (by show 2 * 0 + _ ≤ _; exact Nat.le_of_eq rfl) (hb hby at_166) (fun _ _ => ⟨rfl, e28, (by decide : 4 + 0 ≤ _), (by decide : 4 + 0 ≤ _)⟩)
    dsimp only [Pt.U, Pt.locs, Pt.cells, Pt.slots] at X29 l29 y29 z29 st29 hQ29
    subst l29 y29 z29
    obtain ⟨rfl, Nq29, e29⟩ := hQ29
    have N29 := Fr.app N28 Nq29
    refine Gl.go (fun _ k => st29 _ k) ?_
    show Gl p.tables e below (QQof s (Q_law Z a b c_ d h0 n0) 4 6) (T29.setTop (mkF m 169 #[.val (.int a), .val (.int b), .val (.int c_), .val (.int d), .val (.int (1 : Int32)), .val (.ref b15), .val (.ref b17), .val (.ref b19), .val (.ref b21), .val (.int (chV (orB (0 : Int32) (byB a)))), .val (.int (chV (orB (0 : Int32) (byB b)))), .val (.int (chV (orB (0 : Int32) (byB c_)))), .val (.int (chV (orB (0 : Int32) (byB a)))), .val (.int ((0 : Int32) ||| (chV (orB (0 : Int32) (byB a)))))] [(.int (sgV c_ (chV (orB (0 : Int32) (byB c_)))))]))
    rw [(own_sg c_ : (sgV c_ (chV (orB (0 : Int32) (byB c_)))) = (1 : Int32))]
    show Gl p.tables e below (QQof s (Q_law Z a b c_ d h0 n0) 4 6) (T29.setTop (mkF m 169 #[.val (.int a), .val (.int b), .val (.int c_), .val (.int d), .val (.int (1 : Int32)), .val (.ref b15), .val (.ref b17), .val (.ref b19), .val (.ref b21), .val (.int (chV (orB (0 : Int32) (byB a)))), .val (.int (chV (orB (0 : Int32) (byB b)))), .val (.int (chV (orB (0 : Int32) (byB c_)))), .val (.int (chV (orB (0 : Int32) (byB a)))), .val (.int ((0 : Int32) ||| (chV (orB (0 : Int32) (byB a)))))] [(.int (1 : Int32))]))
    refine Gl.go (fun _ k => XS.ifNo X29.here hx rfl (hb hby at_169) rfl ((if0 _ _).trans (feq (by decide)).1) k) ?_
    show Gl p.tables e below (QQof s (Q_law Z a b c_ d h0 n0) 4 6) (T29.setTop (mkF m 172 #[.val (.int a), .val (.int b), .val (.int c_), .val (.int d), .val (.int (1 : Int32)), .val (.ref b15), .val (.ref b17), .val (.ref b19), .val (.ref b21), .val (.int (chV (orB (0 : Int32) (byB a)))), .val (.int (chV (orB (0 : Int32) (byB b)))), .val (.int (chV (orB (0 : Int32) (byB c_)))), .val (.int (chV (orB (0 : Int32) (byB a)))), .val (.int ((0 : Int32) ||| (chV (orB (0 : Int32) (byB a)))))] []))
    refine Gl.go (fun _ k => XS.iload X29.here hx rfl (hb hby at_172) rfl  k) ?_
    show Gl p.tables e below (QQof s (Q_law Z a b c_ d h0 n0) 4 6) (T29.setTop (mkF m 174 #[.val (.int a), .val (.int b), .val (.int c_), .val (.int d), .val (.int (1 : Int32)), .val (.ref b15), .val (.ref b17), .val (.ref b19), .val (.ref b21), .val (.int (chV (orB (0 : Int32) (byB a)))), .val (.int (chV (orB (0 : Int32) (byB b)))), .val (.int (chV (orB (0 : Int32) (byB c_)))), .val (.int (chV (orB (0 : Int32) (byB a)))), .val (.int ((0 : Int32) ||| (chV (orB (0 : Int32) (byB a)))))] [(.int (chV (orB (0 : Int32) (byB a))))]))
    refine Gl.go (fun _ k => XS.iload X29.here hx rfl (hb hby at_174) rfl  k) ?_
    show Gl p.tables e below (QQof s (Q_law Z a b c_ d h0 n0) 4 6) (T29.setTop (mkF m 176 #[.val (.int a), .val (.int b), .val (.int c_), .val (.int d), .val (.int (1 : Int32)), .val (.ref b15), .val (.ref b17), .val (.ref b19), .val (.ref b21), .val (.int (chV (orB (0 : Int32) (byB a)))), .val (.int (chV (orB (0 : Int32) (byB b)))), .val (.int (chV (orB (0 : Int32) (byB c_)))), .val (.int (chV (orB (0 : Int32) (byB a)))), .val (.int ((0 : Int32) ||| (chV (orB (0 : Int32) (byB a)))))] [(.int ((0 : Int32) ||| (chV (orB (0 : Int32) (byB a))))), (.int (chV (orB (0 : Int32) (byB a))))]))
    refine Gl.go (fun _ k => XS.icmpNo X29.here hx rfl (hb hby at_176) rfl (teq (by rw [Int32.zero_or])).2 k) ?_
    show Gl p.tables e below (QQof s (Q_law Z a b c_ d h0 n0) 4 6) (T29.setTop (mkF m 179 #[.val (.int a), .val (.int b), .val (.int c_), .val (.int d), .val (.int (1 : Int32)), .val (.ref b15), .val (.ref b17), .val (.ref b19), .val (.ref b21), .val (.int (chV (orB (0 : Int32) (byB a)))), .val (.int (chV (orB (0 : Int32) (byB b)))), .val (.int (chV (orB (0 : Int32) (byB c_)))), .val (.int (chV (orB (0 : Int32) (byB a)))), .val (.int ((0 : Int32) ||| (chV (orB (0 : Int32) (byB a)))))] []))
    refine Gl.go (fun _ k => XS.iconst X29.here hx rfl (hb hby at_179) k) ?_
    show Gl p.tables e below (QQof s (Q_law Z a b c_ d h0 n0) 4 6) (T29.setTop (mkF m 180 #[.val (.int a), .val (.int b), .val (.int c_), .val (.int d), .val (.int (1 : Int32)), .val (.ref b15), .val (.ref b17), .val (.ref b19), .val (.ref b21), .val (.int (chV (orB (0 : Int32) (byB a)))), .val (.int (chV (orB (0 : Int32) (byB b)))), .val (.int (chV (orB (0 : Int32) (byB c_)))), .val (.int (chV (orB (0 : Int32) (byB a)))), .val (.int ((0 : Int32) ||| (chV (orB (0 : Int32) (byB a)))))] [(.int (1 : Int32))]))
    refine Gl.go (fun _ k => XS.goto X29.here hx rfl (pc0 := 180) (pc' := 184) rfl (hb hby at_180) (by decide) (by decide) k) ?_
    show Gl p.tables e below (QQof s (Q_law Z a b c_ d h0 n0) 4 6) (T29.setTop (mkF m 184 #[.val (.int a), .val (.int b), .val (.int c_), .val (.int d), .val (.int (1 : Int32)), .val (.ref b15), .val (.ref b17), .val (.ref b19), .val (.ref b21), .val (.int (chV (orB (0 : Int32) (byB a)))), .val (.int (chV (orB (0 : Int32) (byB b)))), .val (.int (chV (orB (0 : Int32) (byB c_)))), .val (.int (chV (orB (0 : Int32) (byB a)))), .val (.int ((0 : Int32) ||| (chV (orB (0 : Int32) (byB a)))))] [(.int (1 : Int32))]))
    refine leafN X29 hx hlk (t := .boolean) Bd.returns (by simp) (hb hby at_184) ?_ (by decide) (by decide)
    exact ⟨rfl, N29⟩
  · skip
    rw [(hl : (d &&& (3 : Int32)) = (2 : Int32))]
    show Gl p.tables e below (QQof s (Q_law Z a b c_ d h0 n0) 4 6) (s₁.setTop (mkF m 3 #[.val (.int a), .val (.int b), .val (.int c_), .val (.int d), .unset, .unset, .unset, .unset, .unset, .unset, .unset, .unset, .unset, .unset] [(.int (2 : Int32))]))
    refine Gl.go (fun _ k => XS.istore X0.here hx rfl (hb hby at_3) rfl (l' := #[.val (.int a), .val (.int b), .val (.int c_), .val (.int d), .val (.int (2 : Int32)), .unset, .unset, .unset, .unset, .unset, .unset, .unset, .unset, .unset]) rfl k) ?_
    show Gl p.tables e below (QQof s (Q_law Z a b c_ d h0 n0) 4 6) (s₁.setTop (mkF m 5 #[.val (.int a), .val (.int b), .val (.int c_), .val (.int d), .val (.int (2 : Int32)), .unset, .unset, .unset, .unset, .unset, .unset, .unset, .unset, .unset] []))
    refine Gl.go (fun _ k => XS.iconst X0.here hx rfl (hb hby at_5) k) ?_
    show Gl p.tables e below (QQof s (Q_law Z a b c_ d h0 n0) 4 6) (s₁.setTop (mkF m 6 #[.val (.int a), .val (.int b), .val (.int c_), .val (.int d), .val (.int (2 : Int32)), .unset, .unset, .unset, .unset, .unset, .unset, .unset, .unset, .unset] [(.int (1 : Int32))]))
    obtain ⟨T30, h30, cA30, X30, e30, E30, A30, st30⟩ := newP X0 hx hZ (hw _ (List.mem_of_getElem? (i := 0) rfl)) e0 (g := (mkF m 6 #[.val (.int a), .val (.int b), .val (.int c_), .val (.int d), .val (.int (2 : Int32)), .unset, .unset, .unset, .unset, .unset, .unset, .unset, .unset, .unset] [(.int (1 : Int32))])) rfl (hb hby at_6) rfl (by decide) (cap := 1) (by decide) (by decide) (by decide) (by decide)
    obtain ⟨b30, g30⟩ : ∃ z, z = h0.size := ⟨_, rfl⟩
    rw [← g30] at A30 st30
    have g_b30 : n0 ≤ b30 := Nat.le_trans Z0 (Nat.le_of_eq g30.symm)
    have sz_b30 : h0.size ≤ b30 := Nat.le_trans K0.1 (Nat.le_of_eq g30.symm)
    have SZ30 : n0 ≤ h30.size := Nat.le_trans Z0 E30.1
    have K30 : Keep h0 h30 [] := K0.ext E30
    have V_b30_30 : Arv Z h30 b30 cA30 .byte (1 : Int32) [(.int (0 : Int32))] (.int (0 : Int32)) := (Arv.new A30 (by decide)).pad (pad_rep [] _ 1)
    refine Gl.go (fun _ k => st30 _ k) ?_
    show Gl p.tables e below (QQof s (Q_law Z a b c_ d h0 n0) 4 6) (T30.setTop (mkF m 8 #[.val (.int a), .val (.int b), .val (.int c_), .val (.int d), .val (.int (2 : Int32)), .unset, .unset, .unset, .unset, .unset, .unset, .unset, .unset, .unset] [(.ref b30)]))
    refine Gl.go (fun _ k => XS.dup X30.here hx rfl (hb hby at_8) rfl rfl k) ?_
    show Gl p.tables e below (QQof s (Q_law Z a b c_ d h0 n0) 4 6) (T30.setTop (mkF m 9 #[.val (.int a), .val (.int b), .val (.int c_), .val (.int d), .val (.int (2 : Int32)), .unset, .unset, .unset, .unset, .unset, .unset, .unset, .unset, .unset] [(.ref b30), (.ref b30)]))
    refine Gl.go (fun _ k => XS.iconst X30.here hx rfl (hb hby at_9) k) ?_
    show Gl p.tables e below (QQof s (Q_law Z a b c_ d h0 n0) 4 6) (T30.setTop (mkF m 10 #[.val (.int a), .val (.int b), .val (.int c_), .val (.int d), .val (.int (2 : Int32)), .unset, .unset, .unset, .unset, .unset, .unset, .unset, .unset, .unset] [(.int (0 : Int32)), (.ref b30), (.ref b30)]))
    refine Gl.go (fun _ k => XS.iloadN X30.here hx rfl (hb hby at_10) rfl  k) ?_
    show Gl p.tables e below (QQof s (Q_law Z a b c_ d h0 n0) 4 6) (T30.setTop (mkF m 11 #[.val (.int a), .val (.int b), .val (.int c_), .val (.int d), .val (.int (2 : Int32)), .unset, .unset, .unset, .unset, .unset, .unset, .unset, .unset, .unset] [(.int a), (.int (0 : Int32)), (.ref b30), (.ref b30)]))
    refine Gl.go (fun _ k => XS.i2b X30.here hx rfl (hb hby at_11) rfl k) ?_
    show Gl p.tables e below (QQof s (Q_law Z a b c_ d h0 n0) 4 6) (T30.setTop (mkF m 12 #[.val (.int a), .val (.int b), .val (.int c_), .val (.int d), .val (.int (2 : Int32)), .unset, .unset, .unset, .unset, .unset, .unset, .unset, .unset, .unset] [(.int (a.toInt8.toInt32)), (.int (0 : Int32)), (.ref b30), (.ref b30)]))
    obtain ⟨cl31, Ar31, qA31, SA31, NA31, HA31, GA31⟩ := id V_b30_30
    obtain ⟨T31, h31, X31, e31, W31, st31⟩ := stB X30 hx hZ e30 Ar31 (j := (0 : Int32)) (inb_of SA31 ⟨by decide, by decide⟩) (g := (mkF m 12 #[.val (.int a), .val (.int b), .val (.int c_), .val (.int d), .val (.int (2 : Int32)), .unset, .unset, .unset, .unset, .unset, .unset, .unset, .unset, .unset] [(.int (a.toInt8.toInt32)), (.int (0 : Int32)), (.ref b30), (.ref b30)])) rfl rfl (hb hby at_12)
    have SZ31 : n0 ≤ h31.size := by rw [Wr.size W31]; exact SZ30
    have K31 : Keep h0 h31 [] := K30.wr W31 (Or.inr sz_b30)
    have N31 := Fr.snoc X31 N0 g_b30
    have V_b30_31 : Arv Z h31 b30 cA30 .byte (1 : Int32) [(.int (nar .byte (a.toInt8.toInt32)))] (.int (0 : Int32)) := Arv.set Ar31 qA31 SA31 NA31 HA31 GA31 (fits_nar_byte _) W31 0 rfl (Nat.le_of_ble_eq_true rfl)
    refine Gl.go (fun _ k => st31 _ k) ?_
    show Gl p.tables e below (QQof s (Q_law Z a b c_ d h0 n0) 4 6) (T31.setTop (mkF m 13 #[.val (.int a), .val (.int b), .val (.int c_), .val (.int d), .val (.int (2 : Int32)), .unset, .unset, .unset, .unset, .unset, .unset, .unset, .unset, .unset] [(.ref b30)]))
    refine Gl.go (fun _ k => XS.astore X31.here hx rfl (hb hby at_13) rfl rfl (l' := #[.val (.int a), .val (.int b), .val (.int c_), .val (.int d), .val (.int (2 : Int32)), .val (.ref b30), .unset, .unset, .unset, .unset, .unset, .unset, .unset, .unset]) rfl k) ?_
    show Gl p.tables e below (QQof s (Q_law Z a b c_ d h0 n0) 4 6) (T31.setTop (mkF m 15 #[.val (.int a), .val (.int b), .val (.int c_), .val (.int d), .val (.int (2 : Int32)), .val (.ref b30), .unset, .unset, .unset, .unset, .unset, .unset, .unset, .unset] []))
    refine Gl.go (fun _ k => XS.iconst X31.here hx rfl (hb hby at_15) k) ?_
    show Gl p.tables e below (QQof s (Q_law Z a b c_ d h0 n0) 4 6) (T31.setTop (mkF m 16 #[.val (.int a), .val (.int b), .val (.int c_), .val (.int d), .val (.int (2 : Int32)), .val (.ref b30), .unset, .unset, .unset, .unset, .unset, .unset, .unset, .unset] [(.int (1 : Int32))]))
    obtain ⟨T32, h32, cA32, X32, e32, E32, A32, st32⟩ := newP X31 hx hZ (hw _ (List.mem_of_getElem? (i := 0) rfl)) e31 (g := (mkF m 16 #[.val (.int a), .val (.int b), .val (.int c_), .val (.int d), .val (.int (2 : Int32)), .val (.ref b30), .unset, .unset, .unset, .unset, .unset, .unset, .unset, .unset] [(.int (1 : Int32))])) rfl (hb hby at_16) rfl (by decide) (cap := 1) (by decide) (by decide) (by decide) (by decide)
    obtain ⟨b32, g32⟩ : ∃ z, z = h31.size := ⟨_, rfl⟩
    rw [← g32] at A32 st32
    have g_b32 : n0 ≤ b32 := Nat.le_trans SZ31 (Nat.le_of_eq g32.symm)
    have sz_b32 : h0.size ≤ b32 := Nat.le_trans K31.1 (Nat.le_of_eq g32.symm)
    have ne_b30_b32 : b30 ≠ b32 := Nat.ne_of_lt (Nat.lt_of_lt_of_le V_b30_31.lt (Nat.le_of_eq g32.symm))
    have V_b30_32 : Arv Z h32 b30 cA30 .byte (1 : Int32) [(.int (nar .byte (a.toInt8.toInt32)))] (.int (0 : Int32)) := V_b30_31.ext E32
    have SZ32 : n0 ≤ h32.size := Nat.le_trans SZ31 E32.1
    have K32 : Keep h0 h32 [] := K31.ext E32
    have V_b32_32 : Arv Z h32 b32 cA32 .byte (1 : Int32) [(.int (0 : Int32))] (.int (0 : Int32)) := (Arv.new A32 (by decide)).pad (pad_rep [] _ 1)
    refine Gl.go (fun _ k => st32 _ k) ?_
    show Gl p.tables e below (QQof s (Q_law Z a b c_ d h0 n0) 4 6) (T32.setTop (mkF m 18 #[.val (.int a), .val (.int b), .val (.int c_), .val (.int d), .val (.int (2 : Int32)), .val (.ref b30), .unset, .unset, .unset, .unset, .unset, .unset, .unset, .unset] [(.ref b32)]))
    refine Gl.go (fun _ k => XS.dup X32.here hx rfl (hb hby at_18) rfl rfl k) ?_
    show Gl p.tables e below (QQof s (Q_law Z a b c_ d h0 n0) 4 6) (T32.setTop (mkF m 19 #[.val (.int a), .val (.int b), .val (.int c_), .val (.int d), .val (.int (2 : Int32)), .val (.ref b30), .unset, .unset, .unset, .unset, .unset, .unset, .unset, .unset] [(.ref b32), (.ref b32)]))
    refine Gl.go (fun _ k => XS.iconst X32.here hx rfl (hb hby at_19) k) ?_
    show Gl p.tables e below (QQof s (Q_law Z a b c_ d h0 n0) 4 6) (T32.setTop (mkF m 20 #[.val (.int a), .val (.int b), .val (.int c_), .val (.int d), .val (.int (2 : Int32)), .val (.ref b30), .unset, .unset, .unset, .unset, .unset, .unset, .unset, .unset] [(.int (0 : Int32)), (.ref b32), (.ref b32)]))
    refine Gl.go (fun _ k => XS.iloadN X32.here hx rfl (hb hby at_20) rfl  k) ?_
    show Gl p.tables e below (QQof s (Q_law Z a b c_ d h0 n0) 4 6) (T32.setTop (mkF m 21 #[.val (.int a), .val (.int b), .val (.int c_), .val (.int d), .val (.int (2 : Int32)), .val (.ref b30), .unset, .unset, .unset, .unset, .unset, .unset, .unset, .unset] [(.int b), (.int (0 : Int32)), (.ref b32), (.ref b32)]))
    refine Gl.go (fun _ k => XS.i2b X32.here hx rfl (hb hby at_21) rfl k) ?_
    show Gl p.tables e below (QQof s (Q_law Z a b c_ d h0 n0) 4 6) (T32.setTop (mkF m 22 #[.val (.int a), .val (.int b), .val (.int c_), .val (.int d), .val (.int (2 : Int32)), .val (.ref b30), .unset, .unset, .unset, .unset, .unset, .unset, .unset, .unset] [(.int (b.toInt8.toInt32)), (.int (0 : Int32)), (.ref b32), (.ref b32)]))
    obtain ⟨cl33, Ar33, qA33, SA33, NA33, HA33, GA33⟩ := id V_b32_32
    obtain ⟨T33, h33, X33, e33, W33, st33⟩ := stB X32 hx hZ e32 Ar33 (j := (0 : Int32)) (inb_of SA33 ⟨by decide, by decide⟩) (g := (mkF m 22 #[.val (.int a), .val (.int b), .val (.int c_), .val (.int d), .val (.int (2 : Int32)), .val (.ref b30), .unset, .unset, .unset, .unset, .unset, .unset, .unset, .unset] [(.int (b.toInt8.toInt32)), (.int (0 : Int32)), (.ref b32), (.ref b32)])) rfl rfl (hb hby at_22)
    have V_b30_33 : Arv Z h33 b30 cA30 .byte (1 : Int32) [(.int (nar .byte (a.toInt8.toInt32)))] (.int (0 : Int32)) := V_b30_32.other W33 ne_b30_b32
    have SZ33 : n0 ≤ h33.size := by rw [Wr.size W33]; exact SZ32
    have K33 : Keep h0 h33 [] := K32.wr W33 (Or.inr sz_b32)
    have N33 := Fr.snoc X33 N31 g_b32
    have V_b32_33 : Arv Z h33 b32 cA32 .byte (1 : Int32) [(.int (nar .byte (b.toInt8.toInt32)))] (.int (0 : Int32)) := Arv.set Ar33 qA33 SA33 NA33 HA33 GA33 (fits_nar_byte _) W33 0 rfl (Nat.le_of_ble_eq_true rfl)
    refine Gl.go (fun _ k => st33 _ k) ?_
    show Gl p.tables e below (QQof s (Q_law Z a b c_ d h0 n0) 4 6) (T33.setTop (mkF m 23 #[.val (.int a), .val (.int b), .val (.int c_), .val (.int d), .val (.int (2 : Int32)), .val (.ref b30), .unset, .unset, .unset, .unset, .unset, .unset, .unset, .unset] [(.ref b32)]))
    refine Gl.go (fun _ k => XS.astore X33.here hx rfl (hb hby at_23) rfl rfl (l' := #[.val (.int a), .val (.int b), .val (.int c_), .val (.int d), .val (.int (2 : Int32)), .val (.ref b30), .val (.ref b32), .unset, .unset, .unset, .unset, .unset, .unset, .unset]) rfl k) ?_
    show Gl p.tables e below (QQof s (Q_law Z a b c_ d h0 n0) 4 6) (T33.setTop (mkF m 25 #[.val (.int a), .val (.int b), .val (.int c_), .val (.int d), .val (.int (2 : Int32)), .val (.ref b30), .val (.ref b32), .unset, .unset, .unset, .unset, .unset, .unset, .unset] []))
    refine Gl.go (fun _ k => XS.iconst X33.here hx rfl (hb hby at_25) k) ?_
    show Gl p.tables e below (QQof s (Q_law Z a b c_ d h0 n0) 4 6) (T33.setTop (mkF m 26 #[.val (.int a), .val (.int b), .val (.int c_), .val (.int d), .val (.int (2 : Int32)), .val (.ref b30), .val (.ref b32), .unset, .unset, .unset, .unset, .unset, .unset, .unset] [(.int (1 : Int32))]))
    obtain ⟨T34, h34, cA34, X34, e34, E34, A34, st34⟩ := newP X33 hx hZ (hw _ (List.mem_of_getElem? (i := 0) rfl)) e33 (g := (mkF m 26 #[.val (.int a), .val (.int b), .val (.int c_), .val (.int d), .val (.int (2 : Int32)), .val (.ref b30), .val (.ref b32), .unset, .unset, .unset, .unset, .unset, .unset, .unset] [(.int (1 : Int32))])) rfl (hb hby at_26) rfl (by decide) (cap := 1) (by decide) (by decide) (by decide) (by decide)
    obtain ⟨b34, g34⟩ : ∃ z, z = h33.size := ⟨_, rfl⟩
    rw [← g34] at A34 st34
    have g_b34 : n0 ≤ b34 := Nat.le_trans SZ33 (Nat.le_of_eq g34.symm)
    have sz_b34 : h0.size ≤ b34 := Nat.le_trans K33.1 (Nat.le_of_eq g34.symm)
    have ne_b30_b34 : b30 ≠ b34 := Nat.ne_of_lt (Nat.lt_of_lt_of_le V_b30_33.lt (Nat.le_of_eq g34.symm))
    have ne_b32_b34 : b32 ≠ b34 := Nat.ne_of_lt (Nat.lt_of_lt_of_le V_b32_33.lt (Nat.le_of_eq g34.symm))
    have V_b30_34 : Arv Z h34 b30 cA30 .byte (1 : Int32) [(.int (nar .byte (a.toInt8.toInt32)))] (.int (0 : Int32)) := V_b30_33.ext E34
    have V_b32_34 : Arv Z h34 b32 cA32 .byte (1 : Int32) [(.int (nar .byte (b.toInt8.toInt32)))] (.int (0 : Int32)) := V_b32_33.ext E34
    have SZ34 : n0 ≤ h34.size := Nat.le_trans SZ33 E34.1
    have K34 : Keep h0 h34 [] := K33.ext E34
    have V_b34_34 : Arv Z h34 b34 cA34 .byte (1 : Int32) [(.int (0 : Int32))] (.int (0 : Int32)) := (Arv.new A34 (by decide)).pad (pad_rep [] _ 1)
    refine Gl.go (fun _ k => st34 _ k) ?_
    show Gl p.tables e below (QQof s (Q_law Z a b c_ d h0 n0) 4 6) (T34.setTop (mkF m 28 #[.val (.int a), .val (.int b), .val (.int c_), .val (.int d), .val (.int (2 : Int32)), .val (.ref b30), .val (.ref b32), .unset, .unset, .unset, .unset, .unset, .unset, .unset] [(.ref b34)]))
    refine Gl.go (fun _ k => XS.dup X34.here hx rfl (hb hby at_28) rfl rfl k) ?_
    show Gl p.tables e below (QQof s (Q_law Z a b c_ d h0 n0) 4 6) (T34.setTop (mkF m 29 #[.val (.int a), .val (.int b), .val (.int c_), .val (.int d), .val (.int (2 : Int32)), .val (.ref b30), .val (.ref b32), .unset, .unset, .unset, .unset, .unset, .unset, .unset] [(.ref b34), (.ref b34)]))
    refine Gl.go (fun _ k => XS.iconst X34.here hx rfl (hb hby at_29) k) ?_
    show Gl p.tables e below (QQof s (Q_law Z a b c_ d h0 n0) 4 6) (T34.setTop (mkF m 30 #[.val (.int a), .val (.int b), .val (.int c_), .val (.int d), .val (.int (2 : Int32)), .val (.ref b30), .val (.ref b32), .unset, .unset, .unset, .unset, .unset, .unset, .unset] [(.int (0 : Int32)), (.ref b34), (.ref b34)]))
    refine Gl.go (fun _ k => XS.iloadN X34.here hx rfl (hb hby at_30) rfl  k) ?_
    show Gl p.tables e below (QQof s (Q_law Z a b c_ d h0 n0) 4 6) (T34.setTop (mkF m 31 #[.val (.int a), .val (.int b), .val (.int c_), .val (.int d), .val (.int (2 : Int32)), .val (.ref b30), .val (.ref b32), .unset, .unset, .unset, .unset, .unset, .unset, .unset] [(.int c_), (.int (0 : Int32)), (.ref b34), (.ref b34)]))
    refine Gl.go (fun _ k => XS.i2b X34.here hx rfl (hb hby at_31) rfl k) ?_
    show Gl p.tables e below (QQof s (Q_law Z a b c_ d h0 n0) 4 6) (T34.setTop (mkF m 32 #[.val (.int a), .val (.int b), .val (.int c_), .val (.int d), .val (.int (2 : Int32)), .val (.ref b30), .val (.ref b32), .unset, .unset, .unset, .unset, .unset, .unset, .unset] [(.int (c_.toInt8.toInt32)), (.int (0 : Int32)), (.ref b34), (.ref b34)]))
    obtain ⟨cl35, Ar35, qA35, SA35, NA35, HA35, GA35⟩ := id V_b34_34
    obtain ⟨T35, h35, X35, e35, W35, st35⟩ := stB X34 hx hZ e34 Ar35 (j := (0 : Int32)) (inb_of SA35 ⟨by decide, by decide⟩) (g := (mkF m 32 #[.val (.int a), .val (.int b), .val (.int c_), .val (.int d), .val (.int (2 : Int32)), .val (.ref b30), .val (.ref b32), .unset, .unset, .unset, .unset, .unset, .unset, .unset] [(.int (c_.toInt8.toInt32)), (.int (0 : Int32)), (.ref b34), (.ref b34)])) rfl rfl (hb hby at_32)
    have V_b30_35 : Arv Z h35 b30 cA30 .byte (1 : Int32) [(.int (nar .byte (a.toInt8.toInt32)))] (.int (0 : Int32)) := V_b30_34.other W35 ne_b30_b34
    have V_b32_35 : Arv Z h35 b32 cA32 .byte (1 : Int32) [(.int (nar .byte (b.toInt8.toInt32)))] (.int (0 : Int32)) := V_b32_34.other W35 ne_b32_b34
    have SZ35 : n0 ≤ h35.size := by rw [Wr.size W35]; exact SZ34
    have K35 : Keep h0 h35 [] := K34.wr W35 (Or.inr sz_b34)
    have N35 := Fr.snoc X35 N33 g_b34
    have V_b34_35 : Arv Z h35 b34 cA34 .byte (1 : Int32) [(.int (nar .byte (c_.toInt8.toInt32)))] (.int (0 : Int32)) := Arv.set Ar35 qA35 SA35 NA35 HA35 GA35 (fits_nar_byte _) W35 0 rfl (Nat.le_of_ble_eq_true rfl)
    refine Gl.go (fun _ k => st35 _ k) ?_
    show Gl p.tables e below (QQof s (Q_law Z a b c_ d h0 n0) 4 6) (T35.setTop (mkF m 33 #[.val (.int a), .val (.int b), .val (.int c_), .val (.int d), .val (.int (2 : Int32)), .val (.ref b30), .val (.ref b32), .unset, .unset, .unset, .unset, .unset, .unset, .unset] [(.ref b34)]))
    refine Gl.go (fun _ k => XS.astore X35.here hx rfl (hb hby at_33) rfl rfl (l' := #[.val (.int a), .val (.int b), .val (.int c_), .val (.int d), .val (.int (2 : Int32)), .val (.ref b30), .val (.ref b32), .val (.ref b34), .unset, .unset, .unset, .unset, .unset, .unset]) rfl k) ?_
    show Gl p.tables e below (QQof s (Q_law Z a b c_ d h0 n0) 4 6) (T35.setTop (mkF m 35 #[.val (.int a), .val (.int b), .val (.int c_), .val (.int d), .val (.int (2 : Int32)), .val (.ref b30), .val (.ref b32), .val (.ref b34), .unset, .unset, .unset, .unset, .unset, .unset] []))
    refine Gl.go (fun _ k => XS.iload X35.here hx rfl (hb hby at_35) rfl  k) ?_
    show Gl p.tables e below (QQof s (Q_law Z a b c_ d h0 n0) 4 6) (T35.setTop (mkF m 37 #[.val (.int a), .val (.int b), .val (.int c_), .val (.int d), .val (.int (2 : Int32)), .val (.ref b30), .val (.ref b32), .val (.ref b34), .unset, .unset, .unset, .unset, .unset, .unset] [(.int (2 : Int32))]))
    obtain ⟨T36, h36, cA36, X36, e36, E36, A36, st36⟩ := newP X35 hx hZ (hw _ (List.mem_of_getElem? (i := 0) rfl)) e35 (g := (mkF m 37 #[.val (.int a), .val (.int b), .val (.int c_), .val (.int d), .val (.int (2 : Int32)), .val (.ref b30), .val (.ref b32), .val (.ref b34), .unset, .unset, .unset, .unset, .unset, .unset] [(.int (2 : Int32))])) rfl (hb hby at_37) rfl (by decide) (cap := 2) (by decide) (by decide) (by decide) (by decide)
    obtain ⟨b36, g36⟩ : ∃ z, z = h35.size := ⟨_, rfl⟩
    rw [← g36] at A36 st36
    have g_b36 : n0 ≤ b36 := Nat.le_trans SZ35 (Nat.le_of_eq g36.symm)
    have sz_b36 : h0.size ≤ b36 := Nat.le_trans K35.1 (Nat.le_of_eq g36.symm)
    have ne_b30_b36 : b30 ≠ b36 := Nat.ne_of_lt (Nat.lt_of_lt_of_le V_b30_35.lt (Nat.le_of_eq g36.symm))
    have ne_b32_b36 : b32 ≠ b36 := Nat.ne_of_lt (Nat.lt_of_lt_of_le V_b32_35.lt (Nat.le_of_eq g36.symm))
    have ne_b34_b36 : b34 ≠ b36 := Nat.ne_of_lt (Nat.lt_of_lt_of_le V_b34_35.lt (Nat.le_of_eq g36.symm))
    have V_b30_36 : Arv Z h36 b30 cA30 .byte (1 : Int32) [(.int (nar .byte (a.toInt8.toInt32)))] (.int (0 : Int32)) := V_b30_35.ext E36
    have V_b32_36 : Arv Z h36 b32 cA32 .byte (1 : Int32) [(.int (nar .byte (b.toInt8.toInt32)))] (.int (0 : Int32)) := V_b32_35.ext E36
    have V_b34_36 : Arv Z h36 b34 cA34 .byte (1 : Int32) [(.int (nar .byte (c_.toInt8.toInt32)))] (.int (0 : Int32)) := V_b34_35.ext E36
    have SZ36 : n0 ≤ h36.size := Nat.le_trans SZ35 E36.1
    have K36 : Keep h0 h36 [] := K35.ext E36
    have V_b36_36 : Arv Z h36 b36 cA36 .byte (2 : Int32) [(.int (0 : Int32)), (.int (0 : Int32))] (.int (0 : Int32)) := (Arv.new A36 (by decide)).pad (pad_rep [] _ 2)
    refine Gl.go (fun _ k => st36 _ k) ?_
    show Gl p.tables e below (QQof s (Q_law Z a b c_ d h0 n0) 4 6) (T36.setTop (mkF m 39 #[.val (.int a), .val (.int b), .val (.int c_), .val (.int d), .val (.int (2 : Int32)), .val (.ref b30), .val (.ref b32), .val (.ref b34), .unset, .unset, .unset, .unset, .unset, .unset] [(.ref b36)]))
    refine Gl.go (fun _ k => XS.astore X36.here hx rfl (hb hby at_39) rfl rfl (l' := #[.val (.int a), .val (.int b), .val (.int c_), .val (.int d), .val (.int (2 : Int32)), .val (.ref b30), .val (.ref b32), .val (.ref b34), .val (.ref b36), .unset, .unset, .unset, .unset, .unset]) rfl k) ?_
    show Gl p.tables e below (QQof s (Q_law Z a b c_ d h0 n0) 4 6) (T36.setTop (mkF m 41 #[.val (.int a), .val (.int b), .val (.int c_), .val (.int d), .val (.int (2 : Int32)), .val (.ref b30), .val (.ref b32), .val (.ref b34), .val (.ref b36), .unset, .unset, .unset, .unset, .unset] []))
    refine Gl.go (fun _ k => XS.iload X36.here hx rfl (hb hby at_41) rfl  k) ?_
    show Gl p.tables e below (QQof s (Q_law Z a b c_ d h0 n0) 4 6) (T36.setTop (mkF m 43 #[.val (.int a), .val (.int b), .val (.int c_), .val (.int d), .val (.int (2 : Int32)), .val (.ref b30), .val (.ref b32), .val (.ref b34), .val (.ref b36), .unset, .unset, .unset, .unset, .unset] [(.int (2 : Int32))]))
    refine Gl.go (fun _ k => XS.ifNo X36.here hx rfl (hb hby at_43) rfl ((if0 _ _).trans (tlt (by decide)).2.2.2) k) ?_
    show Gl p.tables e below (QQof s (Q_law Z a b c_ d h0 n0) 4 6) (T36.setTop (mkF m 46 #[.val (.int a), .val (.int b), .val (.int c_), .val (.int d), .val (.int (2 : Int32)), .val (.ref b30), .val (.ref b32), .val (.ref b34), .val (.ref b36), .unset, .unset, .unset, .unset, .unset] []))
    refine Gl.go (fun _ k => XS.aload X36.here hx rfl (hb hby at_46) rfl rfl  k) ?_
    show Gl p.tables e below (QQof s (Q_law Z a b c_ d h0 n0) 4 6) (T36.setTop (mkF m 48 #[.val (.int a), .val (.int b), .val (.int c_), .val (.int d), .val (.int (2 : Int32)), .val (.ref b30), .val (.ref b32), .val (.ref b34), .val (.ref b36), .unset, .unset, .unset, .unset, .unset] [(.ref b36)]))
    refine Gl.go (fun _ k => XS.iconst X36.here hx rfl (hb hby at_48) k) ?_
    show Gl p.tables e below (QQof s (Q_law Z a b c_ d h0 n0) 4 6) (T36.setTop (mkF m 49 #[.val (.int a), .val (.int b), .val (.int c_), .val (.int d), .val (.int (2 : Int32)), .val (.ref b30), .val (.ref b32), .val (.ref b34), .val (.ref b36), .unset, .unset, .unset, .unset, .unset] [(.int (0 : Int32)), (.ref b36)]))
    refine Gl.go (fun _ k => XS.iloadN X36.here hx rfl (hb hby at_49) rfl  k) ?_
    show Gl p.tables e below (QQof s (Q_law Z a b c_ d h0 n0) 4 6) (T36.setTop (mkF m 50 #[.val (.int a), .val (.int b), .val (.int c_), .val (.int d), .val (.int (2 : Int32)), .val (.ref b30), .val (.ref b32), .val (.ref b34), .val (.ref b36), .unset, .unset, .unset, .unset, .unset] [(.int a), (.int (0 : Int32)), (.ref b36)]))
    refine Gl.go (fun _ k => XS.i2b X36.here hx rfl (hb hby at_50) rfl k) ?_
    show Gl p.tables e below (QQof s (Q_law Z a b c_ d h0 n0) 4 6) (T36.setTop (mkF m 51 #[.val (.int a), .val (.int b), .val (.int c_), .val (.int d), .val (.int (2 : Int32)), .val (.ref b30), .val (.ref b32), .val (.ref b34), .val (.ref b36), .unset, .unset, .unset, .unset, .unset] [(.int (a.toInt8.toInt32)), (.int (0 : Int32)), (.ref b36)]))
    obtain ⟨cl37, Ar37, qA37, SA37, NA37, HA37, GA37⟩ := id V_b36_36
    obtain ⟨T37, h37, X37, e37, W37, st37⟩ := stB X36 hx hZ e36 Ar37 (j := (0 : Int32)) (inb_of SA37 ⟨by decide, by decide⟩) (g := (mkF m 51 #[.val (.int a), .val (.int b), .val (.int c_), .val (.int d), .val (.int (2 : Int32)), .val (.ref b30), .val (.ref b32), .val (.ref b34), .val (.ref b36), .unset, .unset, .unset, .unset, .unset] [(.int (a.toInt8.toInt32)), (.int (0 : Int32)), (.ref b36)])) rfl rfl (hb hby at_51)
    have V_b30_37 : Arv Z h37 b30 cA30 .byte (1 : Int32) [(.int (nar .byte (a.toInt8.toInt32)))] (.int (0 : Int32)) := V_b30_36.other W37 ne_b30_b36
    have V_b32_37 : Arv Z h37 b32 cA32 .byte (1 : Int32) [(.int (nar .byte (b.toInt8.toInt32)))] (.int (0 : Int32)) := V_b32_36.other W37 ne_b32_b36
    have V_b34_37 : Arv Z h37 b34 cA34 .byte (1 : Int32) [(.int (nar .byte (c_.toInt8.toInt32)))] (.int (0 : Int32)) := V_b34_36.other W37 ne_b34_b36
    have SZ37 : n0 ≤ h37.size := by rw [Wr.size W37]; exact SZ36
    have K37 : Keep h0 h37 [] := K36.wr W37 (Or.inr sz_b36)
    have N37 := Fr.snoc X37 N35 g_b36
    have V_b36_37 : Arv Z h37 b36 cA36 .byte (2 : Int32) [(.int (nar .byte (a.toInt8.toInt32))), (.int (0 : Int32))] (.int (0 : Int32)) := Arv.set Ar37 qA37 SA37 NA37 HA37 GA37 (fits_nar_byte _) W37 0 rfl (Nat.le_of_ble_eq_true rfl)
    refine Gl.go (fun _ k => st37 _ k) ?_
    show Gl p.tables e below (QQof s (Q_law Z a b c_ d h0 n0) 4 6) (T37.setTop (mkF m 52 #[.val (.int a), .val (.int b), .val (.int c_), .val (.int d), .val (.int (2 : Int32)), .val (.ref b30), .val (.ref b32), .val (.ref b34), .val (.ref b36), .unset, .unset, .unset, .unset, .unset] []))
    refine Gl.go (fun _ k => XS.iload X37.here hx rfl (hb hby at_52) rfl  k) ?_
    show Gl p.tables e below (QQof s (Q_law Z a b c_ d h0 n0) 4 6) (T37.setTop (mkF m 54 #[.val (.int a), .val (.int b), .val (.int c_), .val (.int d), .val (.int (2 : Int32)), .val (.ref b30), .val (.ref b32), .val (.ref b34), .val (.ref b36), .unset, .unset, .unset, .unset, .unset] [(.int (2 : Int32))]))
    refine Gl.go (fun _ k => XS.iconst X37.here hx rfl (hb hby at_54) k) ?_
    show Gl p.tables e below (QQof s (Q_law Z a b c_ d h0 n0) 4 6) (T37.setTop (mkF m 55 #[.val (.int a), .val (.int b), .val (.int c_), .val (.int d), .val (.int (2 : Int32)), .val (.ref b30), .val (.ref b32), .val (.ref b34), .val (.ref b36), .unset, .unset, .unset, .unset, .unset] [(.int (1 : Int32)), (.int (2 : Int32))]))
    refine Gl.go (fun _ k => XS.icmpNo X37.here hx rfl (hb hby at_55) rfl (tlt (by decide)).2.2.2 k) ?_
    show Gl p.tables e below (QQof s (Q_law Z a b c_ d h0 n0) 4 6) (T37.setTop (mkF m 58 #[.val (.int a), .val (.int b), .val (.int c_), .val (.int d), .val (.int (2 : Int32)), .val (.ref b30), .val (.ref b32), .val (.ref b34), .val (.ref b36), .unset, .unset, .unset, .unset, .unset] []))
    refine Gl.go (fun _ k => XS.aload X37.here hx rfl (hb hby at_58) rfl rfl  k) ?_
    show Gl p.tables e below (QQof s (Q_law Z a b c_ d h0 n0) 4 6) (T37.setTop (mkF m 60 #[.val (.int a), .val (.int b), .val (.int c_), .val (.int d), .val (.int (2 : Int32)), .val (.ref b30), .val (.ref b32), .val (.ref b34), .val (.ref b36), .unset, .unset, .unset, .unset, .unset] [(.ref b36)]))
    refine Gl.go (fun _ k => XS.iconst X37.here hx rfl (hb hby at_60) k) ?_
    show Gl p.tables e below (QQof s (Q_law Z a b c_ d h0 n0) 4 6) (T37.setTop (mkF m 61 #[.val (.int a), .val (.int b), .val (.int c_), .val (.int d), .val (.int (2 : Int32)), .val (.ref b30), .val (.ref b32), .val (.ref b34), .val (.ref b36), .unset, .unset, .unset, .unset, .unset] [(.int (1 : Int32)), (.ref b36)]))
    refine Gl.go (fun _ k => XS.iloadN X37.here hx rfl (hb hby at_61) rfl  k) ?_
    show Gl p.tables e below (QQof s (Q_law Z a b c_ d h0 n0) 4 6) (T37.setTop (mkF m 62 #[.val (.int a), .val (.int b), .val (.int c_), .val (.int d), .val (.int (2 : Int32)), .val (.ref b30), .val (.ref b32), .val (.ref b34), .val (.ref b36), .unset, .unset, .unset, .unset, .unset] [(.int b), (.int (1 : Int32)), (.ref b36)]))
    refine Gl.go (fun _ k => XS.i2b X37.here hx rfl (hb hby at_62) rfl k) ?_
    show Gl p.tables e below (QQof s (Q_law Z a b c_ d h0 n0) 4 6) (T37.setTop (mkF m 63 #[.val (.int a), .val (.int b), .val (.int c_), .val (.int d), .val (.int (2 : Int32)), .val (.ref b30), .val (.ref b32), .val (.ref b34), .val (.ref b36), .unset, .unset, .unset, .unset, .unset] [(.int (b.toInt8.toInt32)), (.int (1 : Int32)), (.ref b36)]))
    obtain ⟨cl38, Ar38, qA38, SA38, NA38, HA38, GA38⟩ := id V_b36_37
    obtain ⟨T38, h38, X38, e38, W38, st38⟩ := stB X37 hx hZ e37 Ar38 (j := (1 : Int32)) (inb_of SA38 ⟨by decide, by decide⟩) (g := (mkF m 63 #[.val (.int a), .val (.int b), .val (.int c_), .val (.int d), .val (.int (2 : Int32)), .val (.ref b30), .val (.ref b32), .val (.ref b34), .val (.ref b36), .unset, .unset, .unset, .unset, .unset] [(.int (b.toInt8.toInt32)), (.int (1 : Int32)), (.ref b36)])) rfl rfl (hb hby at_63)
    have V_b30_38 : Arv Z h38 b30 cA30 .byte (1 : Int32) [(.int (nar .byte (a.toInt8.toInt32)))] (.int (0 : Int32)) := V_b30_37.other W38 ne_b30_b36
    have V_b32_38 : Arv Z h38 b32 cA32 .byte (1 : Int32) [(.int (nar .byte (b.toInt8.toInt32)))] (.int (0 : Int32)) := V_b32_37.other W38 ne_b32_b36
    have V_b34_38 : Arv Z h38 b34 cA34 .byte (1 : Int32) [(.int (nar .byte (c_.toInt8.toInt32)))] (.int (0 : Int32)) := V_b34_37.other W38 ne_b34_b36
    have SZ38 : n0 ≤ h38.size := by rw [Wr.size W38]; exact SZ37
    have K38 : Keep h0 h38 [] := K37.wr W38 (Or.inr sz_b36)
    have N38 := Fr.snoc X38 N37 g_b36
    have V_b36_38 : Arv Z h38 b36 cA36 .byte (2 : Int32) [(.int (nar .byte (a.toInt8.toInt32))), (.int (nar .byte (b.toInt8.toInt32)))] (.int (0 : Int32)) := Arv.set Ar38 qA38 SA38 NA38 HA38 GA38 (fits_nar_byte _) W38 1 rfl (Nat.le_of_ble_eq_true rfl)
    refine Gl.go (fun _ k => st38 _ k) ?_
    show Gl p.tables e below (QQof s (Q_law Z a b c_ d h0 n0) 4 6) (T38.setTop (mkF m 64 #[.val (.int a), .val (.int b), .val (.int c_), .val (.int d), .val (.int (2 : Int32)), .val (.ref b30), .val (.ref b32), .val (.ref b34), .val (.ref b36), .unset, .unset, .unset, .unset, .unset] []))
    refine Gl.go (fun _ k => XS.iload X38.here hx rfl (hb hby at_64) rfl  k) ?_
    show Gl p.tables e below (QQof s (Q_law Z a b c_ d h0 n0) 4 6) (T38.setTop (mkF m 66 #[.val (.int a), .val (.int b), .val (.int c_), .val (.int d), .val (.int (2 : Int32)), .val (.ref b30), .val (.ref b32), .val (.ref b34), .val (.ref b36), .unset, .unset, .unset, .unset, .unset] [(.int (2 : Int32))]))
    refine Gl.go (fun _ k => XS.iconst X38.here hx rfl (hb hby at_66) k) ?_
    show Gl p.tables e below (QQof s (Q_law Z a b c_ d h0 n0) 4 6) (T38.setTop (mkF m 67 #[.val (.int a), .val (.int b), .val (.int c_), .val (.int d), .val (.int (2 : Int32)), .val (.ref b30), .val (.ref b32), .val (.ref b34), .val (.ref b36), .unset, .unset, .unset, .unset, .unset] [(.int (2 : Int32)), (.int (2 : Int32))]))
    refine Gl.go (fun _ k => XS.icmpYes X38.here hx rfl (pc0 := 67) (pc' := 76) rfl (hb hby at_67) rfl (flt (by decide)).2.2.2 (by decide) (by decide) k) ?_
    show Gl p.tables e below (QQof s (Q_law Z a b c_ d h0 n0) 4 6) (T38.setTop (mkF m 76 #[.val (.int a), .val (.int b), .val (.int c_), .val (.int d), .val (.int (2 : Int32)), .val (.ref b30), .val (.ref b32), .val (.ref b34), .val (.ref b36), .unset, .unset, .unset, .unset, .unset] []))
    refine Gl.go (fun _ k => XS.aload X38.here hx rfl (hb hby at_76) rfl rfl  k) ?_
    show Gl p.tables e below (QQof s (Q_law Z a b c_ d h0 n0) 4 6) (T38.setTop (mkF m 78 #[.val (.int a), .val (.int b), .val (.int c_), .val (.int d), .val (.int (2 : Int32)), .val (.ref b30), .val (.ref b32), .val (.ref b34), .val (.ref b36), .unset, .unset, .unset, .unset, .unset] [(.ref b30)]))
    obtain ⟨_, _, ⟨T39, L39, k39, n39⟩, -, X39, ⟨Lc39, hQ39, l39, y39, z39⟩, st39⟩ := Jvm.LawKit.callS X38 hx (y := (⟨"com/example/aloud/aloud/PathPattern", "byteClasses", "([B)C"⟩ : MethodName)) hown (mvT hZ (hw _ (List.mem_of_getElem? (i := 1) rfl))) (mvT hZ (hw _ (List.mem_of_getElem? (i := 2) rfl))) (mvT hZ (hw _ (List.mem_of_getElem? (i := 3) rfl))) (mvT hZ (hw _ (List.mem_of_getElem? (i := 4) rfl))) (by decide) (backOf (W := 0) (rm_bc1 l Z a0 hw [] b30 cA30 (byB a) h38 n0 SZ38 V_b30_38) hZ (hw _ (List.mem_of_getElem? (i := 4) rfl)) (hw _ (List.mem_of_getElem? (i := 3) rfl)) (by decide) (by decide)) (g := (mkF m 78 #[.val (.int a), .val (.int b), .val (.int c_), .val (.int d), .val (.int (2 : Int32)), .val (.ref b30), .val (.ref b32), .val (.ref b34), .val (.ref b36), .unset, .unset, .unset, .unset, .unset] [(.ref b30)])) rfl (by rw [hml]; rfl) (argsL := [(.ref b30)]) (rest := []) (lenOf pd_0 rfl) rfl (by show 2 * 0 + _ ≤ _; exact Nat.le_of_eq rfl) (hb hby at_78) (fun _ _ => ⟨rfl, e38, (by decide : 4 + 0 ≤ _), (by decide : 5 + 0 ≤ _)⟩)
    dsimp only [Pt.U, Pt.locs, Pt.cells, Pt.slots] at X39 l39 y39 z39 st39 hQ39
    subst l39 y39 z39
    obtain ⟨rfl, Nq39, e39⟩ := hQ39
    have N39 := Fr.app N38 Nq39
    refine Gl.go (fun _ k => st39 _ k) ?_
    show Gl p.tables e below (QQof s (Q_law Z a b c_ d h0 n0) 4 6) (T39.setTop (mkF m 81 #[.val (.int a), .val (.int b), .val (.int c_), .val (.int d), .val (.int (2 : Int32)), .val (.ref b30), .val (.ref b32), .val (.ref b34), .val (.ref b36), .unset, .unset, .unset, .unset, .unset] [(.int (chV (orB (0 : Int32) (byB a))))]))
    refine Gl.go (fun _ k => XS.istore X39.here hx rfl (hb hby at_81) rfl (l' := #[.val (.int a), .val (.int b), .val (.int c_), .val (.int d), .val (.int (2 : Int32)), .val (.ref b30), .val (.ref b32), .val (.ref b34), .val (.ref b36), .val (.int (chV (orB (0 : Int32) (byB a)))), .unset, .unset, .unset, .unset]) rfl k) ?_
    show Gl p.tables e below (QQof s (Q_law Z a b c_ d h0 n0) 4 6) (T39.setTop (mkF m 83 #[.val (.int a), .val (.int b), .val (.int c_), .val (.int d), .val (.int (2 : Int32)), .val (.ref b30), .val (.ref b32), .val (.ref b34), .val (.ref b36), .val (.int (chV (orB (0 : Int32) (byB a)))), .unset, .unset, .unset, .unset] []))
    refine Gl.go (fun _ k => XS.aload X39.here hx rfl (hb hby at_83) rfl rfl  k) ?_
    show Gl p.tables e below (QQof s (Q_law Z a b c_ d h0 n0) 4 6) (T39.setTop (mkF m 85 #[.val (.int a), .val (.int b), .val (.int c_), .val (.int d), .val (.int (2 : Int32)), .val (.ref b30), .val (.ref b32), .val (.ref b34), .val (.ref b36), .val (.int (chV (orB (0 : Int32) (byB a)))), .unset, .unset, .unset, .unset] [(.ref b32)]))
    obtain ⟨_, _, ⟨T40, L40, k40, n40⟩, -, X40, ⟨Lc40, hQ40, l40, y40, z40⟩, st40⟩ := Jvm.LawKit.callS X39 hx (y := (⟨"com/example/aloud/aloud/PathPattern", "byteClasses", "([B)C"⟩ : MethodName)) hown (mvT hZ (hw _ (List.mem_of_getElem? (i := 1) rfl))) (mvT hZ (hw _ (List.mem_of_getElem? (i := 2) rfl))) (mvT hZ (hw _ (List.mem_of_getElem? (i := 3) rfl))) (mvT hZ (hw _ (List.mem_of_getElem? (i := 4) rfl))) (by decide) (backOf (W := 0) (rm_bc1 l Z a0 hw [] b32 cA32 (byB b) h38 n0 SZ38 V_b32_38) hZ (hw _ (List.mem_of_getElem? (i := 4) rfl)) (hw _ (List.mem_of_getElem? (i := 3) rfl)) (by decide) (by decide)) (g := (mkF m 85 #[.val (.int a), .val (.int b), .val (.int c_), .val (.int d), .val (.int (2 : Int32)), .val (.ref b30), .val (.ref b32), .val (.ref b34), .val (.ref b36), .val (.int (chV (orB (0 : Int32) (byB a)))), .unset, .unset, .unset, .unset] [(.ref b32)])) rfl (by rw [hml]; rfl) (argsL := [(.ref b32)]) (rest := []) (lenOf pd_0 rfl) rfl (by show 2 * 0 + _ ≤ _; exact Nat.le_of_eq rfl) (hb hby at_85) (fun _ _ => ⟨rfl, e39, (by decide : 4 + 0 ≤ _), (by decide : 5 + 0 ≤ _)⟩)
    dsimp only [Pt.U, Pt.locs, Pt.cells, Pt.slots] at X40 l40 y40 z40 st40 hQ40
    subst l40 y40 z40
    obtain ⟨rfl, Nq40, e40⟩ := hQ40
    have N40 := Fr.app N39 Nq40
    refine Gl.go (fun _ k => st40 _ k) ?_
    show Gl p.tables e below (QQof s (Q_law Z a b c_ d h0 n0) 4 6) (T40.setTop (mkF m 88 #[.val (.int a), .val (.int b), .val (.int c_), .val (.int d), .val (.int (2 : Int32)), .val (.ref b30), .val (.ref b32), .val (.ref b34), .val (.ref b36), .val (.int (chV (orB (0 : Int32) (byB a)))), .unset, .unset, .unset, .unset] [(.int (chV (orB (0 : Int32) (byB b))))]))
    refine Gl.go (fun _ k => XS.istore X40.here hx rfl (hb hby at_88) rfl (l' := #[.val (.int a), .val (.int b), .val (.int c_), .val (.int d), .val (.int (2 : Int32)), .val (.ref b30), .val (.ref b32), .val (.ref b34), .val (.ref b36), .val (.int (chV (orB (0 : Int32) (byB a)))), .val (.int (chV (orB (0 : Int32) (byB b)))), .unset, .unset, .unset]) rfl k) ?_
    show Gl p.tables e below (QQof s (Q_law Z a b c_ d h0 n0) 4 6) (T40.setTop (mkF m 90 #[.val (.int a), .val (.int b), .val (.int c_), .val (.int d), .val (.int (2 : Int32)), .val (.ref b30), .val (.ref b32), .val (.ref b34), .val (.ref b36), .val (.int (chV (orB (0 : Int32) (byB a)))), .val (.int (chV (orB (0 : Int32) (byB b)))), .unset, .unset, .unset] []))
    refine Gl.go (fun _ k => XS.aload X40.here hx rfl (hb hby at_90) rfl rfl  k) ?_
    show Gl p.tables e below (QQof s (Q_law Z a b c_ d h0 n0) 4 6) (T40.setTop (mkF m 92 #[.val (.int a), .val (.int b), .val (.int c_), .val (.int d), .val (.int (2 : Int32)), .val (.ref b30), .val (.ref b32), .val (.ref b34), .val (.ref b36), .val (.int (chV (orB (0 : Int32) (byB a)))), .val (.int (chV (orB (0 : Int32) (byB b)))), .unset, .unset, .unset] [(.ref b34)]))
    obtain ⟨_, _, ⟨T41, L41, k41, n41⟩, -, X41, ⟨Lc41, hQ41, l41, y41, z41⟩, st41⟩ := Jvm.LawKit.callS X40 hx (y := (⟨"com/example/aloud/aloud/PathPattern", "byteClasses", "([B)C"⟩ : MethodName)) hown (mvT hZ (hw _ (List.mem_of_getElem? (i := 1) rfl))) (mvT hZ (hw _ (List.mem_of_getElem? (i := 2) rfl))) (mvT hZ (hw _ (List.mem_of_getElem? (i := 3) rfl))) (mvT hZ (hw _ (List.mem_of_getElem? (i := 4) rfl))) (by decide) (backOf (W := 0) (rm_bc1 l Z a0 hw [] b34 cA34 (byB c_) h38 n0 SZ38 V_b34_38) hZ (hw _ (List.mem_of_getElem? (i := 4) rfl)) (hw _ (List.mem_of_getElem? (i := 3) rfl)) (by decide) (by decide)) (g := (mkF m 92 #[.val (.int a), .val (.int b), .val (.int c_), .val (.int d), .val (.int (2 : Int32)), .val (.ref b30), .val (.ref b32), .val (.ref b34), .val (.ref b36), .val (.int (chV (orB (0 : Int32) (byB a)))), .val (.int (chV (orB (0 : Int32) (byB b)))), .unset, .unset, .unset] [(.ref b34)])) rfl (by rw [hml]; rfl) (argsL := [(.ref b34)]) (rest := []) (lenOf pd_0 rfl) rfl (by show 2 * 0 + _ ≤ _; exact Nat.le_of_eq rfl) (hb hby at_92) (fun _ _ => ⟨rfl, e40, (by decide : 4 + 0 ≤ _), (by decide : 5 + 0 ≤ _)⟩)
    dsimp only [Pt.U, Pt.locs, Pt.cells, Pt.slots] at X41 l41 y41 z41 st41 hQ41
    subst l41 y41 z41
    obtain ⟨rfl, Nq41, e41⟩ := hQ41
    have N41 := Fr.app N40 Nq41
    refine Gl.go (fun _ k => st41 _ k) ?_
    show Gl p.tables e below (QQof s (Q_law Z a b c_ d h0 n0) 4 6) (T41.setTop (mkF m 95 #[.val (.int a), .val (.int b), .val (.int c_), .val (.int d), .val (.int (2 : Int32)), .val (.ref b30), .val (.ref b32), .val (.ref b34), .val (.ref b36), .val (.int (chV (orB (0 : Int32) (byB a)))), .val (.int (chV (orB (0 : Int32) (byB b)))), .unset, .unset, .unset] [(.int (chV (orB (0 : Int32) (byB c_))))]))
    refine Gl.go (fun _ k => XS.istore X41.here hx rfl (hb hby at_95) rfl (l' := #[.val (.int a), .val (.int b), .val (.int c_), .val (.int d), .val (.int (2 : Int32)), .val (.ref b30), .val (.ref b32), .val (.ref b34), .val (.ref b36), .val (.int (chV (orB (0 : Int32) (byB a)))), .val (.int (chV (orB (0 : Int32) (byB b)))), .val (.int (chV (orB (0 : Int32) (byB c_)))), .unset, .unset]) rfl k) ?_
    show Gl p.tables e below (QQof s (Q_law Z a b c_ d h0 n0) 4 6) (T41.setTop (mkF m 97 #[.val (.int a), .val (.int b), .val (.int c_), .val (.int d), .val (.int (2 : Int32)), .val (.ref b30), .val (.ref b32), .val (.ref b34), .val (.ref b36), .val (.int (chV (orB (0 : Int32) (byB a)))), .val (.int (chV (orB (0 : Int32) (byB b)))), .val (.int (chV (orB (0 : Int32) (byB c_)))), .unset, .unset] []))
    refine Gl.go (fun _ k => XS.aload X41.here hx rfl (hb hby at_97) rfl rfl  k) ?_
    show Gl p.tables e below (QQof s (Q_law Z a b c_ d h0 n0) 4 6) (T41.setTop (mkF m 99 #[.val (.int a), .val (.int b), .val (.int c_), .val (.int d), .val (.int (2 : Int32)), .val (.ref b30), .val (.ref b32), .val (.ref b34), .val (.ref b36), .val (.int (chV (orB (0 : Int32) (byB a)))), .val (.int (chV (orB (0 : Int32) (byB b)))), .val (.int (chV (orB (0 : Int32) (byB c_)))), .unset, .unset] [(.ref b36)]))
    obtain ⟨_, _, ⟨T42, L42, k42, n42⟩, -, X42, ⟨Lc42, hQ42, l42, y42, z42⟩, st42⟩ := Jvm.LawKit.callS X41 hx (y := (⟨"com/example/aloud/aloud/PathPattern", "byteClasses", "([B)C"⟩ : MethodName)) hown (mvT hZ (hw _ (List.mem_of_getElem? (i := 1) rfl))) (mvT hZ (hw _ (List.mem_of_getElem? (i := 2) rfl))) (mvT hZ (hw _ (List.mem_of_getElem? (i := 3) rfl))) (mvT hZ (hw _ (List.mem_of_getElem? (i := 4) rfl))) (by decide) (backOf (W := 0) (rm_bc2 l Z a0 hw [] b36 cA36 (byB a) (byB b) h38 n0 SZ38 V_b36_38) hZ (hw _ (List.mem_of_getElem? (i := 4) rfl)) (hw _ (List.mem_of_getElem? (i := 3) rfl)) (by decide) (by decide)) (g := (mkF m 99 #[.val (.int a), .val (.int b), .val (.int c_), .val (.int d), .val (.int (2 : Int32)), .val (.ref b30), .val (.ref b32), .val (.ref b34), .val (.ref b36), .val (.int (chV (orB (0 : Int32) (byB a)))), .val (.int (chV (orB (0 : Int32) (byB b)))), .val (.int (chV (orB (0 : Int32) (byB c_)))), .unset, .unset] [(.ref b36)])) rfl (by rw [hml]; rfl) (argsL := [(.ref b36)]) (rest := []) (lenOf pd_0 rfl) rfl (by show 2 * 0 + _ ≤ _; exact Nat.le_of_eq rfl) (hb hby at_99) (fun _ _ => ⟨rfl, e41, (by decide : 4 + 0 ≤ _), (by decide : 5 + 0 ≤ _)⟩)
    dsimp only [Pt.U, Pt.locs, Pt.cells, Pt.slots] at X42 l42 y42 z42 st42 hQ42
    subst l42 y42 z42
    obtain ⟨rfl, Nq42, e42⟩ := hQ42
    have N42 := Fr.app N41 Nq42
    refine Gl.go (fun _ k => st42 _ k) ?_
    show Gl p.tables e below (QQof s (Q_law Z a b c_ d h0 n0) 4 6) (T42.setTop (mkF m 102 #[.val (.int a), .val (.int b), .val (.int c_), .val (.int d), .val (.int (2 : Int32)), .val (.ref b30), .val (.ref b32), .val (.ref b34), .val (.ref b36), .val (.int (chV (orB (0 : Int32) (byB a)))), .val (.int (chV (orB (0 : Int32) (byB b)))), .val (.int (chV (orB (0 : Int32) (byB c_)))), .unset, .unset] [(.int (chV (orB (orB (0 : Int32) (byB a)) (byB b))))]))
    refine Gl.go (fun _ k => XS.istore X42.here hx rfl (hb hby at_102) rfl (l' := #[.val (.int a), .val (.int b), .val (.int c_), .val (.int d), .val (.int (2 : Int32)), .val (.ref b30), .val (.ref b32), .val (.ref b34), .val (.ref b36), .val (.int (chV (orB (0 : Int32) (byB a)))), .val (.int (chV (orB (0 : Int32) (byB b)))), .val (.int (chV (orB (0 : Int32) (byB c_)))), .val (.int (chV (orB (orB (0 : Int32) (byB a)) (byB b)))), .unset]) rfl k) ?_
    show Gl p.tables e below (QQof s (Q_law Z a b c_ d h0 n0) 4 6) (T42.setTop (mkF m 104 #[.val (.int a), .val (.int b), .val (.int c_), .val (.int d), .val (.int (2 : Int32)), .val (.ref b30), .val (.ref b32), .val (.ref b34), .val (.ref b36), .val (.int (chV (orB (0 : Int32) (byB a)))), .val (.int (chV (orB (0 : Int32) (byB b)))), .val (.int (chV (orB (0 : Int32) (byB c_)))), .val (.int (chV (orB (orB (0 : Int32) (byB a)) (byB b)))), .unset] []))
    refine Gl.go (fun _ k => XS.iconst X42.here hx rfl (hb hby at_104) k) ?_
    show Gl p.tables e below (QQof s (Q_law Z a b c_ d h0 n0) 4 6) (T42.setTop (mkF m 105 #[.val (.int a), .val (.int b), .val (.int c_), .val (.int d), .val (.int (2 : Int32)), .val (.ref b30), .val (.ref b32), .val (.ref b34), .val (.ref b36), .val (.int (chV (orB (0 : Int32) (byB a)))), .val (.int (chV (orB (0 : Int32) (byB b)))), .val (.int (chV (orB (0 : Int32) (byB c_)))), .val (.int (chV (orB (orB (0 : Int32) (byB a)) (byB b)))), .unset] [(.int (0 : Int32))]))
    refine Gl.go (fun _ k => XS.istore X42.here hx rfl (hb hby at_105) rfl (l' := #[.val (.int a), .val (.int b), .val (.int c_), .val (.int d), .val (.int (2 : Int32)), .val (.ref b30), .val (.ref b32), .val (.ref b34), .val (.ref b36), .val (.int (chV (orB (0 : Int32) (byB a)))), .val (.int (chV (orB (0 : Int32) (byB b)))), .val (.int (chV (orB (0 : Int32) (byB c_)))), .val (.int (chV (orB (orB (0 : Int32) (byB a)) (byB b)))), .val (.int (0 : Int32))]) rfl k) ?_
    show Gl p.tables e below (QQof s (Q_law Z a b c_ d h0 n0) 4 6) (T42.setTop (mkF m 107 #[.val (.int a), .val (.int b), .val (.int c_), .val (.int d), .val (.int (2 : Int32)), .val (.ref b30), .val (.ref b32), .val (.ref b34), .val (.ref b36), .val (.int (chV (orB (0 : Int32) (byB a)))), .val (.int (chV (orB (0 : Int32) (byB b)))), .val (.int (chV (orB (0 : Int32) (byB c_)))), .val (.int (chV (orB (orB (0 : Int32) (byB a)) (byB b)))), .val (.int (0 : Int32))] []))
    refine Gl.go (fun _ k => XS.iload X42.here hx rfl (hb hby at_107) rfl  k) ?_
    show Gl p.tables e below (QQof s (Q_law Z a b c_ d h0 n0) 4 6) (T42.setTop (mkF m 109 #[.val (.int a), .val (.int b), .val (.int c_), .val (.int d), .val (.int (2 : Int32)), .val (.ref b30), .val (.ref b32), .val (.ref b34), .val (.ref b36), .val (.int (chV (orB (0 : Int32) (byB a)))), .val (.int (chV (orB (0 : Int32) (byB b)))), .val (.int (chV (orB (0 : Int32) (byB c_)))), .val (.int (chV (orB (orB (0 : Int32) (byB a)) (byB b)))), .val (.int (0 : Int32))] [(.int (2 : Int32))]))
    refine Gl.go (fun _ k => XS.ifNo X42.here hx rfl (hb hby at_109) rfl ((if0 _ _).trans (tlt (by decide)).2.2.2) k) ?_
    show Gl p.tables e below (QQof s (Q_law Z a b c_ d h0 n0) 4 6) (T42.setTop (mkF m 112 #[.val (.int a), .val (.int b), .val (.int c_), .val (.int d), .val (.int (2 : Int32)), .val (.ref b30), .val (.ref b32), .val (.ref b34), .val (.ref b36), .val (.int (chV (orB (0 : Int32) (byB a)))), .val (.int (chV (orB (0 : Int32) (byB b)))), .val (.int (chV (orB (0 : Int32) (byB c_)))), .val (.int (chV (orB (orB (0 : Int32) (byB a)) (byB b)))), .val (.int (0 : Int32))] []))
    refine Gl.go (fun _ k => XS.iload X42.here hx rfl (hb hby at_112) rfl  k) ?_
    show Gl p.tables e below (QQof s (Q_law Z a b c_ d h0 n0) 4 6) (T42.setTop (mkF m 114 #[.val (.int a), .val (.int b), .val (.int c_), .val (.int d), .val (.int (2 : Int32)), .val (.ref b30), .val (.ref b32), .val (.ref b34), .val (.ref b36), .val (.int (chV (orB (0 : Int32) (byB a)))), .val (.int (chV (orB (0 : Int32) (byB b)))), .val (.int (chV (orB (0 : Int32) (byB c_)))), .val (.int (chV (orB (orB (0 : Int32) (byB a)) (byB b)))), .val (.int (0 : Int32))] [(.int (0 : Int32))]))
    refine Gl.go (fun _ k => XS.iload X42.here hx rfl (hb hby at_114) rfl  k) ?_
    show Gl p.tables e below (QQof s (Q_law Z a b c_ d h0 n0) 4 6) (T42.setTop (mkF m 116 #[.val (.int a), .val (.int b), .val (.int c_), .val (.int d), .val (.int (2 : Int32)), .val (.ref b30), .val (.ref b32), .val (.ref b34), .val (.ref b36), .val (.int (chV (orB (0 : Int32) (byB a)))), .val (.int (chV (orB (0 : Int32) (byB b)))), .val (.int (chV (orB (0 : Int32) (byB c_)))), .val (.int (chV (orB (orB (0 : Int32) (byB a)) (byB b)))), .val (.int (0 : Int32))] [(.int (chV (orB (0 : Int32) (byB a)))), (.int (0 : Int32))]))
    refine Gl.go (fun _ k => XS.ior X42.here hx rfl (hb hby at_116) rfl k) ?_
    show Gl p.tables e below (QQof s (Q_law Z a b c_ d h0 n0) 4 6) (T42.setTop (mkF m 117 #[.val (.int a), .val (.int b), .val (.int c_), .val (.int d), .val (.int (2 : Int32)), .val (.ref b30), .val (.ref b32), .val (.ref b34), .val (.ref b36), .val (.int (chV (orB (0 : Int32) (byB a)))), .val (.int (chV (orB (0 : Int32) (byB b)))), .val (.int (chV (orB (0 : Int32) (byB c_)))), .val (.int (chV (orB (orB (0 : Int32) (byB a)) (byB b)))), .val (.int (0 : Int32))] [(.int ((0 : Int32) ||| (chV (orB (0 : Int32) (byB a)))))]))
    refine Gl.go (fun _ k => XS.istore X42.here hx rfl (hb hby at_117) rfl (l' := #[.val (.int a), .val (.int b), .val (.int c_), .val (.int d), .val (.int (2 : Int32)), .val (.ref b30), .val (.ref b32), .val (.ref b34), .val (.ref b36), .val (.int (chV (orB (0 : Int32) (byB a)))), .val (.int (chV (orB (0 : Int32) (byB b)))), .val (.int (chV (orB (0 : Int32) (byB c_)))), .val (.int (chV (orB (orB (0 : Int32) (byB a)) (byB b)))), .val (.int ((0 : Int32) ||| (chV (orB (0 : Int32) (byB a)))))]) rfl k) ?_
    show Gl p.tables e below (QQof s (Q_law Z a b c_ d h0 n0) 4 6) (T42.setTop (mkF m 119 #[.val (.int a), .val (.int b), .val (.int c_), .val (.int d), .val (.int (2 : Int32)), .val (.ref b30), .val (.ref b32), .val (.ref b34), .val (.ref b36), .val (.int (chV (orB (0 : Int32) (byB a)))), .val (.int (chV (orB (0 : Int32) (byB b)))), .val (.int (chV (orB (0 : Int32) (byB c_)))), .val (.int (chV (orB (orB (0 : Int32) (byB a)) (byB b)))), .val (.int ((0 : Int32) ||| (chV (orB (0 : Int32) (byB a)))))] []))
    refine Gl.go (fun _ k => XS.iload X42.here hx rfl (hb hby at_119) rfl  k) ?_
    show Gl p.tables e below (QQof s (Q_law Z a b c_ d h0 n0) 4 6) (T42.setTop (mkF m 121 #[.val (.int a), .val (.int b), .val (.int c_), .val (.int d), .val (.int (2 : Int32)), .val (.ref b30), .val (.ref b32), .val (.ref b34), .val (.ref b36), .val (.int (chV (orB (0 : Int32) (byB a)))), .val (.int (chV (orB (0 : Int32) (byB b)))), .val (.int (chV (orB (0 : Int32) (byB c_)))), .val (.int (chV (orB (orB (0 : Int32) (byB a)) (byB b)))), .val (.int ((0 : Int32) ||| (chV (orB (0 : Int32) (byB a)))))] [(.int (2 : Int32))]))
    refine Gl.go (fun _ k => XS.iconst X42.here hx rfl (hb hby at_121) k) ?_
    show Gl p.tables e below (QQof s (Q_law Z a b c_ d h0 n0) 4 6) (T42.setTop (mkF m 122 #[.val (.int a), .val (.int b), .val (.int c_), .val (.int d), .val (.int (2 : Int32)), .val (.ref b30), .val (.ref b32), .val (.ref b34), .val (.ref b36), .val (.int (chV (orB (0 : Int32) (byB a)))), .val (.int (chV (orB (0 : Int32) (byB b)))), .val (.int (chV (orB (0 : Int32) (byB c_)))), .val (.int (chV (orB (orB (0 : Int32) (byB a)) (byB b)))), .val (.int ((0 : Int32) ||| (chV (orB (0 : Int32) (byB a)))))] [(.int (1 : Int32)), (.int (2 : Int32))]))
    refine Gl.go (fun _ k => XS.icmpNo X42.here hx rfl (hb hby at_122) rfl (tlt (by decide)).2.2.2 k) ?_
    show Gl p.tables e below (QQof s (Q_law Z a b c_ d h0 n0) 4 6) (T42.setTop (mkF m 125 #[.val (.int a), .val (.int b), .val (.int c_), .val (.int d), .val (.int (2 : Int32)), .val (.ref b30), .val (.ref b32), .val (.ref b34), .val (.ref b36), .val (.int (chV (orB (0 : Int32) (byB a)))), .val (.int (chV (orB (0 : Int32) (byB b)))), .val (.int (chV (orB (0 : Int32) (byB c_)))), .val (.int (chV (orB (orB (0 : Int32) (byB a)) (byB b)))), .val (.int ((0 : Int32) ||| (chV (orB (0 : Int32) (byB a)))))] []))
    refine Gl.go (fun _ k => XS.iload X42.here hx rfl (hb hby at_125) rfl  k) ?_
    show Gl p.tables e below (QQof s (Q_law Z a b c_ d h0 n0) 4 6) (T42.setTop (mkF m 127 #[.val (.int a), .val (.int b), .val (.int c_), .val (.int d), .val (.int (2 : Int32)), .val (.ref b30), .val (.ref b32), .val (.ref b34), .val (.ref b36), .val (.int (chV (orB (0 : Int32) (byB a)))), .val (.int (chV (orB (0 : Int32) (byB b)))), .val (.int (chV (orB (0 : Int32) (byB c_)))), .val (.int (chV (orB (orB (0 : Int32) (byB a)) (byB b)))), .val (.int ((0 : Int32) ||| (chV (orB (0 : Int32) (byB a)))))] [(.int ((0 : Int32) ||| (chV (orB (0 : Int32) (byB a)))))]))
    refine Gl.go (fun _ k => XS.iload X42.here hx rfl (hb hby at_127) rfl  k) ?_
    show Gl p.tables e below (QQof s (Q_law Z a b c_ d h0 n0) 4 6) (T42.setTop (mkF m 129 #[.val (.int a), .val (.int b), .val (.int c_), .val (.int d), .val (.int (2 : Int32)), .val (.ref b30), .val (.ref b32), .val (.ref b34), .val (.ref b36), .val (.int (chV (orB (0 : Int32) (byB a)))), .val (.int (chV (orB (0 : Int32) (byB b)))), .val (.int (chV (orB (0 : Int32) (byB c_)))), .val (.int (chV (orB (orB (0 : Int32) (byB a)) (byB b)))), .val (.int ((0 : Int32) ||| (chV (orB (0 : Int32) (byB a)))))] [(.int (chV (orB (0 : Int32) (byB b)))), (.int ((0 : Int32) ||| (chV (orB (0 : Int32) (byB a)))))]))
    refine Gl.go (fun _ k => XS.ior X42.here hx rfl (hb hby at_129) rfl k) ?_
    show Gl p.tables e below (QQof s (Q_law Z a b c_ d h0 n0) 4 6) (T42.setTop (mkF m 130 #[.val (.int a), .val (.int b), .val (.int c_), .val (.int d), .val (.int (2 : Int32)), .val (.ref b30), .val (.ref b32), .val (.ref b34), .val (.ref b36), .val (.int (chV (orB (0 : Int32) (byB a)))), .val (.int (chV (orB (0 : Int32) (byB b)))), .val (.int (chV (orB (0 : Int32) (byB c_)))), .val (.int (chV (orB (orB (0 : Int32) (byB a)) (byB b)))), .val (.int ((0 : Int32) ||| (chV (orB (0 : Int32) (byB a)))))] [(.int (((0 : Int32) ||| (chV (orB (0 : Int32) (byB a)))) ||| (chV (orB (0 : Int32) (byB b)))))]))
    refine Gl.go (fun _ k => XS.istore X42.here hx rfl (hb hby at_130) rfl (l' := #[.val (.int a), .val (.int b), .val (.int c_), .val (.int d), .val (.int (2 : Int32)), .val (.ref b30), .val (.ref b32), .val (.ref b34), .val (.ref b36), .val (.int (chV (orB (0 : Int32) (byB a)))), .val (.int (chV (orB (0 : Int32) (byB b)))), .val (.int (chV (orB (0 : Int32) (byB c_)))), .val (.int (chV (orB (orB (0 : Int32) (byB a)) (byB b)))), .val (.int (((0 : Int32) ||| (chV (orB (0 : Int32) (byB a)))) ||| (chV (orB (0 : Int32) (byB b)))))]) rfl k) ?_
    show Gl p.tables e below (QQof s (Q_law Z a b c_ d h0 n0) 4 6) (T42.setTop (mkF m 132 #[.val (.int a), .val (.int b), .val (.int c_), .val (.int d), .val (.int (2 : Int32)), .val (.ref b30), .val (.ref b32), .val (.ref b34), .val (.ref b36), .val (.int (chV (orB (0 : Int32) (byB a)))), .val (.int (chV (orB (0 : Int32) (byB b)))), .val (.int (chV (orB (0 : Int32) (byB c_)))), .val (.int (chV (orB (orB (0 : Int32) (byB a)) (byB b)))), .val (.int (((0 : Int32) ||| (chV (orB (0 : Int32) (byB a)))) ||| (chV (orB (0 : Int32) (byB b)))))] []))
    refine Gl.go (fun _ k => XS.iload X42.here hx rfl (hb hby at_132) rfl  k) ?_
    show Gl p.tables e below (QQof s (Q_law Z a b c_ d h0 n0) 4 6) (T42.setTop (mkF m 134 #[.val (.int a), .val (.int b), .val (.int c_), .val (.int d), .val (.int (2 : Int32)), .val (.ref b30), .val (.ref b32), .val (.ref b34), .val (.ref b36), .val (.int (chV (orB (0 : Int32) (byB a)))), .val (.int (chV (orB (0 : Int32) (byB b)))), .val (.int (chV (orB (0 : Int32) (byB c_)))), .val (.int (chV (orB (orB (0 : Int32) (byB a)) (byB b)))), .val (.int (((0 : Int32) ||| (chV (orB (0 : Int32) (byB a)))) ||| (chV (orB (0 : Int32) (byB b)))))] [(.int (2 : Int32))]))
    refine Gl.go (fun _ k => XS.iconst X42.here hx rfl (hb hby at_134) k) ?_
    show Gl p.tables e below (QQof s (Q_law Z a b c_ d h0 n0) 4 6) (T42.setTop (mkF m 135 #[.val (.int a), .val (.int b), .val (.int c_), .val (.int d), .val (.int (2 : Int32)), .val (.ref b30), .val (.ref b32), .val (.ref b34), .val (.ref b36), .val (.int (chV (orB (0 : Int32) (byB a)))), .val (.int (chV (orB (0 : Int32) (byB b)))), .val (.int (chV (orB (0 : Int32) (byB c_)))), .val (.int (chV (orB (orB (0 : Int32) (byB a)) (byB b)))), .val (.int (((0 : Int32) ||| (chV (orB (0 : Int32) (byB a)))) ||| (chV (orB (0 : Int32) (byB b)))))] [(.int (2 : Int32)), (.int (2 : Int32))]))
    refine Gl.go (fun _ k => XS.icmpYes X42.here hx rfl (pc0 := 135) (pc' := 145) rfl (hb hby at_135) rfl (flt (by decide)).2.2.2 (by decide) (by decide) k) ?_
    show Gl p.tables e below (QQof s (Q_law Z a b c_ d h0 n0) 4 6) (T42.setTop (mkF m 145 #[.val (.int a), .val (.int b), .val (.int c_), .val (.int d), .val (.int (2 : Int32)), .val (.ref b30), .val (.ref b32), .val (.ref b34), .val (.ref b36), .val (.int (chV (orB (0 : Int32) (byB a)))), .val (.int (chV (orB (0 : Int32) (byB b)))), .val (.int (chV (orB (0 : Int32) (byB c_)))), .val (.int (chV (orB (orB (0 : Int32) (byB a)) (byB b)))), .val (.int (((0 : Int32) ||| (chV (orB (0 : Int32) (byB a)))) ||| (chV (orB (0 : Int32) (byB b)))))] []))
    refine Gl.go (fun _ k => XS.iloadN X42.here hx rfl (hb hby at_145) rfl  k) ?_
    show Gl p.tables e below (QQof s (Q_law Z a b c_ d h0 n0) 4 6) (T42.setTop (mkF m 146 #[.val (.int a), .val (.int b), .val (.int c_), .val (.int d), .val (.int (2 : Int32)), .val (.ref b30), .val (.ref b32), .val (.ref b34), .val (.ref b36), .val (.int (chV (orB (0 : Int32) (byB a)))), .val (.int (chV (orB (0 : Int32) (byB b)))), .val (.int (chV (orB (0 : Int32) (byB c_)))), .val (.int (chV (orB (orB (0 : Int32) (byB a)) (byB b)))), .val (.int (((0 : Int32) ||| (chV (orB (0 : Int32) (byB a)))) ||| (chV (orB (0 : Int32) (byB b)))))] [(.int a)]))
    refine Gl.go (fun _ k => XS.iload X42.here hx rfl (hb hby at_146) rfl  k) ?_
    show Gl p.tables e below (QQof s (Q_law Z a b c_ d h0 n0) 4 6) (T42.setTop (mkF m 148 #[.val (.int a), .val (.int b), .val (.int c_), .val (.int d), .val (.int (2 : Int32)), .val (.ref b30), .val (.ref b32), .val (.ref b34), .val (.ref b36), .val (.int (chV (orB (0 : Int32) (byB a)))), .val (.int (chV (orB (0 : Int32) (byB b)))), .val (.int (chV (orB (0 : Int32) (byB c_)))), .val (.int (chV (orB (orB (0 : Int32) (byB a)) (byB b)))), .val (.int (((0 : Int32) ||| (chV (orB (0 : Int32) (byB a)))) ||| (chV (orB (0 : Int32) (byB b)))))] [(.int (chV (orB (0 : Int32) (byB a)))), (.int a)]))
    obtain ⟨_, _, ⟨T43, L43, k43, n43⟩, -, X43, ⟨Lc43, hQ43, l43, y43, z43⟩, st43⟩ := Jvm.LawKit.callS X42 hx (y := (⟨"com/example/aloud/aloud/PathPatternByteClassesPinLaw", "single", "(II)Z"⟩ : MethodName)) hown (mvT hZ (hw _ (List.mem_of_getElem? (i := 5) rfl))) (mvT hZ (hw _ (List.mem_of_getElem? (i := 6) rfl))) (mvT hZ (hw _ (List.mem_of_getElem? (i := 7) rfl))) (mvT hZ (hw _ (List.mem_of_getElem? (i := 8) rfl))) (by decide) (backOf (W := 0) (rm_sg l Z a0 hw [] a (chV (orB (0 : Int32) (byB a))) h38 n0 SZ38 ) hZ (hw _ (List.mem_of_getElem? (i := 8) rfl)) (hw _ (List.mem_of_getElem? (i := 7) rfl)) (by decide) (by decide)) (g := (mkF m 148 #[.val (.int a), .val (.int b), .val (.int c_), .val (.int d), .val (.int (2 : Int32)), .val (.ref b30), .val (.ref b32), .val (.ref b34), .val (.ref b36), .val (.int (chV (orB (0 : Int32) (byB a)))), .val (.int (chV (orB (0 : Int32) (byB b)))), .val (.int (chV (orB (0 : Int32) (byB c_)))), .val (.int (chV (orB (orB (0 : Int32) (byB a)) (byB b)))), .val (.int (((0 : Int32) ||| (chV (orB (0 : Int32) (byB a)))) ||| (chV (orB (0 : Int32) (byB b)))))] [(.int (chV (orB (0 : Int32) (byB a)))), (.int a)])) rfl (by rw [hml]; rfl) (argsL := [(.int a), (.int (chV (orB (0 : Int32) (byB a))))]) (rest := []) (lenOf pd_1 rfl) rfl (by show 2 * 0 + _ ≤ _; exact Nat.le_of_eq rfl) (hb hby at_148) (fun _ _ => ⟨rfl, e42, (by decide : 4 + 0 ≤ _), (by decide : 5 + 0 ≤ _)⟩)
    dsimp only [Pt.U, Pt.locs, Pt.cells, Pt.slots] at X43 l43 y43 z43 st43 hQ43
    subst l43 y43 z43
    obtain ⟨rfl, Nq43, e43⟩ := hQ43
    have N43 := Fr.app N42 Nq43
    refine Gl.go (fun _ k => st43 _ k) ?_
    show Gl p.tables e below (QQof s (Q_law Z a b c_ d h0 n0) 4 6) (T43.setTop (mkF m 151 #[.val (.int a), .val (.int b), .val (.int c_), .val (.int d), .val (.int (2 : Int32)), .val (.ref b30), .val (.ref b32), .val (.ref b34), .val (.ref b36), .val (.int (chV (orB (0 : Int32) (byB a)))), .val (.int (chV (orB (0 : Int32) (byB b)))), .val (.int (chV (orB (0 : Int32) (byB c_)))), .val (.int (chV (orB (orB (0 : Int32) (byB a)) (byB b)))), .val (.int (((0 : Int32) ||| (chV (orB (0 : Int32) (byB a)))) ||| (chV (orB (0 : Int32) (byB b)))))] [(.int (sgV a (chV (orB (0 : Int32) (byB a)))))]))
    rw [(own_sg a : (sgV a (chV (orB (0 : Int32) (byB a)))) = (1 : Int32))]
    show Gl p.tables e below (QQof s (Q_law Z a b c_ d h0 n0) 4 6) (T43.setTop (mkF m 151 #[.val (.int a), .val (.int b), .val (.int c_), .val (.int d), .val (.int (2 : Int32)), .val (.ref b30), .val (.ref b32), .val (.ref b34), .val (.ref b36), .val (.int (chV (orB (0 : Int32) (byB a)))), .val (.int (chV (orB (0 : Int32) (byB b)))), .val (.int (chV (orB (0 : Int32) (byB c_)))), .val (.int (chV (orB (orB (0 : Int32) (byB a)) (byB b)))), .val (.int (((0 : Int32) ||| (chV (orB (0 : Int32) (byB a)))) ||| (chV (orB (0 : Int32) (byB b)))))] [(.int (1 : Int32))]))
    refine Gl.go (fun _ k => XS.ifNo X43.here hx rfl (hb hby at_151) rfl ((if0 _ _).trans (feq (by decide)).1) k) ?_
    show Gl p.tables e below (QQof s (Q_law Z a b c_ d h0 n0) 4 6) (T43.setTop (mkF m 154 #[.val (.int a), .val (.int b), .val (.int c_), .val (.int d), .val (.int (2 : Int32)), .val (.ref b30), .val (.ref b32), .val (.ref b34), .val (.ref b36), .val (.int (chV (orB (0 : Int32) (byB a)))), .val (.int (chV (orB (0 : Int32) (byB b)))), .val (.int (chV (orB (0 : Int32) (byB c_)))), .val (.int (chV (orB (orB (0 : Int32) (byB a)) (byB b)))), .val (.int (((0 : Int32) ||| (chV (orB (0 : Int32) (byB a)))) ||| (chV (orB (0 : Int32) (byB b)))))] []))
    refine Gl.go (fun _ k => XS.iloadN X43.here hx rfl (hb hby at_154) rfl  k) ?_
    show Gl p.tables e below (QQof s (Q_law Z a b c_ d h0 n0) 4 6) (T43.setTop (mkF m 155 #[.val (.int a), .val (.int b), .val (.int c_), .val (.int d), .val (.int (2 : Int32)), .val (.ref b30), .val (.ref b32), .val (.ref b34), .val (.ref b36), .val (.int (chV (orB (0 : Int32) (byB a)))), .val (.int (chV (orB (0 : Int32) (byB b)))), .val (.int (chV (orB (0 : Int32) (byB c_)))), .val (.int (chV (orB (orB (0 : Int32) (byB a)) (byB b)))), .val (.int (((0 : Int32) ||| (chV (orB (0 : Int32) (byB a)))) ||| (chV (orB (0 : Int32) (byB b)))))] [(.int b)]))
    refine Gl.go (fun _ k => XS.iload X43.here hx rfl (hb hby at_155) rfl  k) ?_
    show Gl p.tables e below (QQof s (Q_law Z a b c_ d h0 n0) 4 6) (T43.setTop (mkF m 157 #[.val (.int a), .val (.int b), .val (.int c_), .val (.int d), .val (.int (2 : Int32)), .val (.ref b30), .val (.ref b32), .val (.ref b34), .val (.ref b36), .val (.int (chV (orB (0 : Int32) (byB a)))), .val (.int (chV (orB (0 : Int32) (byB b)))), .val (.int (chV (orB (0 : Int32) (byB c_)))), .val (.int (chV (orB (orB (0 : Int32) (byB a)) (byB b)))), .val (.int (((0 : Int32) ||| (chV (orB (0 : Int32) (byB a)))) ||| (chV (orB (0 : Int32) (byB b)))))] [(.int (chV (orB (0 : Int32) (byB b)))), (.int b)]))
    obtain ⟨_, _, ⟨T44, L44, k44, n44⟩, -, X44, ⟨Lc44, hQ44, l44, y44, z44⟩, st44⟩ := Jvm.LawKit.callS X43 hx (y := (⟨"com/example/aloud/aloud/PathPatternByteClassesPinLaw", "single", "(II)Z"⟩ : MethodName)) hown (mvT hZ (hw _ (List.mem_of_getElem? (i := 5) rfl))) (mvT hZ (hw _ (List.mem_of_getElem? (i := 6) rfl))) (mvT hZ (hw _ (List.mem_of_getElem? (i := 7) rfl))) (mvT hZ (hw _ (List.mem_of_getElem? (i := 8) rfl))) (by decide) (backOf (W := 0) (rm_sg l Z a0 hw [] b (chV (orB (0 : Int32) (byB b))) h38 n0 SZ38 ) hZ (hw _ (List.mem_of_getElem? (i := 8) rfl)) (hw _ (List.mem_of_getElem? (i := 7) rfl)) (by decide) (by decide)) (g := (mkF m 157 #[.val (.int a), .val (.int b), .val (.int c_), .val (.int d), .val (.int (2 : Int32)), .val (.ref b30), .val (.ref b32), .val (.ref b34), .val (.ref b36), .val (.int (chV (orB (0 : Int32) (byB a)))), .val (.int (chV (orB (0 : Int32) (byB b)))), .val (.int (chV (orB (0 : Int32) (byB c_)))), .val (.int (chV (orB (orB (0 : Int32) (byB a)) (byB b)))), .val (.int (((0 : Int32) ||| (chV (orB (0 : Int32) (byB a)))) ||| (chV (orB (0 : Int32) (byB b)))))] [(.int (chV (orB (0 : Int32) (byB b)))), (.int b)])) rfl (by rw [hml]; rfl) (argsL := [(.int b), (.int (chV (orB (0 : Int32) (byB b))))]) (rest := []) (lenOf pd_1 rfl) rfl (by show 2 * 0 + _ ≤ _; exact Nat.le_of_eq rfl) (hb hby at_157) (fun _ _ => ⟨rfl, e43, (by decide : 4 + 0 ≤ _), (by decide : 5 + 0 ≤ _)⟩)
    dsimp only [Pt.U, Pt.locs, Pt.cells, Pt.slots] at X44 l44 y44 z44 st44 hQ44
    subst l44 y44 z44
    obtain ⟨rfl, Nq44, e44⟩ := hQ44
    have N44 := Fr.app N43 Nq44
    refine Gl.go (fun _ k => st44 _ k) ?_
    show Gl p.tables e below (QQof s (Q_law Z a b c_ d h0 n0) 4 6) (T44.setTop (mkF m 160 #[.val (.int a), .val (.int b), .val (.int c_), .val (.int d), .val (.int (2 : Int32)), .val (.ref b30), .val (.ref b32), .val (.ref b34), .val (.ref b36), .val (.int (chV (orB (0 : Int32) (byB a)))), .val (.int (chV (orB (0 : Int32) (byB b)))), .val (.int (chV (orB (0 : Int32) (byB c_)))), .val (.int (chV (orB (orB (0 : Int32) (byB a)) (byB b)))), .val (.int (((0 : Int32) ||| (chV (orB (0 : Int32) (byB a)))) ||| (chV (orB (0 : Int32) (byB b)))))] [(.int (sgV b (chV (orB (0 : Int32) (byB b)))))]))
    rw [(own_sg b : (sgV b (chV (orB (0 : Int32) (byB b)))) = (1 : Int32))]
    show Gl p.tables e below (QQof s (Q_law Z a b c_ d h0 n0) 4 6) (T44.setTop (mkF m 160 #[.val (.int a), .val (.int b), .val (.int c_), .val (.int d), .val (.int (2 : Int32)), .val (.ref b30), .val (.ref b32), .val (.ref b34), .val (.ref b36), .val (.int (chV (orB (0 : Int32) (byB a)))), .val (.int (chV (orB (0 : Int32) (byB b)))), .val (.int (chV (orB (0 : Int32) (byB c_)))), .val (.int (chV (orB (orB (0 : Int32) (byB a)) (byB b)))), .val (.int (((0 : Int32) ||| (chV (orB (0 : Int32) (byB a)))) ||| (chV (orB (0 : Int32) (byB b)))))] [(.int (1 : Int32))]))
    refine Gl.go (fun _ k => XS.ifNo X44.here hx rfl (hb hby at_160) rfl ((if0 _ _).trans (feq (by decide)).1) k) ?_
    show Gl p.tables e below (QQof s (Q_law Z a b c_ d h0 n0) 4 6) (T44.setTop (mkF m 163 #[.val (.int a), .val (.int b), .val (.int c_), .val (.int d), .val (.int (2 : Int32)), .val (.ref b30), .val (.ref b32), .val (.ref b34), .val (.ref b36), .val (.int (chV (orB (0 : Int32) (byB a)))), .val (.int (chV (orB (0 : Int32) (byB b)))), .val (.int (chV (orB (0 : Int32) (byB c_)))), .val (.int (chV (orB (orB (0 : Int32) (byB a)) (byB b)))), .val (.int (((0 : Int32) ||| (chV (orB (0 : Int32) (byB a)))) ||| (chV (orB (0 : Int32) (byB b)))))] []))
    refine Gl.go (fun _ k => XS.iloadN X44.here hx rfl (hb hby at_163) rfl  k) ?_
    show Gl p.tables e below (QQof s (Q_law Z a b c_ d h0 n0) 4 6) (T44.setTop (mkF m 164 #[.val (.int a), .val (.int b), .val (.int c_), .val (.int d), .val (.int (2 : Int32)), .val (.ref b30), .val (.ref b32), .val (.ref b34), .val (.ref b36), .val (.int (chV (orB (0 : Int32) (byB a)))), .val (.int (chV (orB (0 : Int32) (byB b)))), .val (.int (chV (orB (0 : Int32) (byB c_)))), .val (.int (chV (orB (orB (0 : Int32) (byB a)) (byB b)))), .val (.int (((0 : Int32) ||| (chV (orB (0 : Int32) (byB a)))) ||| (chV (orB (0 : Int32) (byB b)))))] [(.int c_)]))
    refine Gl.go (fun _ k => XS.iload X44.here hx rfl (hb hby at_164) rfl  k) ?_
    show Gl p.tables e below (QQof s (Q_law Z a b c_ d h0 n0) 4 6) (T44.setTop (mkF m 166 #[.val (.int a), .val (.int b), .val (.int c_), .val (.int d), .val (.int (2 : Int32)), .val (.ref b30), .val (.ref b32), .val (.ref b34), .val (.ref b36), .val (.int (chV (orB (0 : Int32) (byB a)))), .val (.int (chV (orB (0 : Int32) (byB b)))), .val (.int (chV (orB (0 : Int32) (byB c_)))), .val (.int (chV (orB (orB (0 : Int32) (byB a)) (byB b)))), .val (.int (((0 : Int32) ||| (chV (orB (0 : Int32) (byB a)))) ||| (chV (orB (0 : Int32) (byB b)))))] [(.int (chV (orB (0 : Int32) (byB c_)))), (.int c_)]))
    obtain ⟨_, _, ⟨T45, L45, k45, n45⟩, -, X45, ⟨Lc45, hQ45, l45, y45, z45⟩, st45⟩ := Jvm.LawKit.callS X44 hx (y := (⟨"com/example/aloud/aloud/PathPatternByteClassesPinLaw", "single", "(II)Z"⟩ : MethodName)) hown (mvT hZ (hw _ (List.mem_of_getElem? (i := 5) rfl))) (mvT hZ (hw _ (List.mem_of_getElem? (i := 6) rfl))) (mvT hZ (hw _ (List.mem_of_getElem? (i := 7) rfl))) (mvT hZ (hw _ (List.mem_of_getElem? (i := 8) rfl))) (by decide) (backOf (W := 0) (rm_sg l Z a0 hw [] c_ (chV (orB (0 : Int32) (byB c_))) h38 n0 SZ38 ) hZ (hw _ (List.mem_of_getElem? (i := 8) rfl)) (hw _ (List.mem_of_getElem? (i := 7) rfl)) (by decide) (by decide)) (g := (mkF m 166 #[.val (.int a), .val (.int b), .val (.int c_), .val (.int d), .val (.int (2 : Int32)), .val (.ref b30), .val (.ref b32), .val (.ref b34), .val (.ref b36), .val (.int (chV (orB (0 : Int32) (byB a)))), .val (.int (chV (orB (0 : Int32) (byB b)))), .val (.int (chV (orB (0 : Int32) (byB c_)))), .val (.int (chV (orB (orB (0 : Int32) (byB a)) (byB b)))), .val (.int (((0 : Int32) ||| (chV (orB (0 : Int32) (byB a)))) ||| (chV (orB (0 : Int32) (byB b)))))] [(.int (chV (orB (0 : Int32) (byB c_)))), (.int c_)])) rfl (by rw [hml]; rfl) (argsL := [(.int c_), (.int (chV (orB (0 : Int32) (byB c_))))]) (rest := []) (lenOf pd_1 rfl) rfl (by show 2 * 0 + _ ≤ _; exact Nat.le_of_eq rfl) (hb hby at_166) (fun _ _ => ⟨rfl, e44, (by decide : 4 + 0 ≤ _), (by decide : 5 + 0 ≤ _)⟩)
    dsimp only [Pt.U, Pt.locs, Pt.cells, Pt.slots] at X45 l45 y45 z45 st45 hQ45
    subst l45 y45 z45
    obtain ⟨rfl, Nq45, e45⟩ := hQ45
    have N45 := Fr.app N44 Nq45
    refine Gl.go (fun _ k => st45 _ k) ?_
    show Gl p.tables e below (QQof s (Q_law Z a b c_ d h0 n0) 4 6) (T45.setTop (mkF m 169 #[.val (.int a), .val (.int b), .val (.int c_), .val (.int d), .val (.int (2 : Int32)), .val (.ref b30), .val (.ref b32), .val (.ref b34), .val (.ref b36), .val (.int (chV (orB (0 : Int32) (byB a)))), .val (.int (chV (orB (0 : Int32) (byB b)))), .val (.int (chV (orB (0 : Int32) (byB c_)))), .val (.int (chV (orB (orB (0 : Int32) (byB a)) (byB b)))), .val (.int (((0 : Int32) ||| (chV (orB (0 : Int32) (byB a)))) ||| (chV (orB (0 : Int32) (byB b)))))] [(.int (sgV c_ (chV (orB (0 : Int32) (byB c_)))))]))
    rw [(own_sg c_ : (sgV c_ (chV (orB (0 : Int32) (byB c_)))) = (1 : Int32))]
    show Gl p.tables e below (QQof s (Q_law Z a b c_ d h0 n0) 4 6) (T45.setTop (mkF m 169 #[.val (.int a), .val (.int b), .val (.int c_), .val (.int d), .val (.int (2 : Int32)), .val (.ref b30), .val (.ref b32), .val (.ref b34), .val (.ref b36), .val (.int (chV (orB (0 : Int32) (byB a)))), .val (.int (chV (orB (0 : Int32) (byB b)))), .val (.int (chV (orB (0 : Int32) (byB c_)))), .val (.int (chV (orB (orB (0 : Int32) (byB a)) (byB b)))), .val (.int (((0 : Int32) ||| (chV (orB (0 : Int32) (byB a)))) ||| (chV (orB (0 : Int32) (byB b)))))] [(.int (1 : Int32))]))
    refine Gl.go (fun _ k => XS.ifNo X45.here hx rfl (hb hby at_169) rfl ((if0 _ _).trans (feq (by decide)).1) k) ?_
    show Gl p.tables e below (QQof s (Q_law Z a b c_ d h0 n0) 4 6) (T45.setTop (mkF m 172 #[.val (.int a), .val (.int b), .val (.int c_), .val (.int d), .val (.int (2 : Int32)), .val (.ref b30), .val (.ref b32), .val (.ref b34), .val (.ref b36), .val (.int (chV (orB (0 : Int32) (byB a)))), .val (.int (chV (orB (0 : Int32) (byB b)))), .val (.int (chV (orB (0 : Int32) (byB c_)))), .val (.int (chV (orB (orB (0 : Int32) (byB a)) (byB b)))), .val (.int (((0 : Int32) ||| (chV (orB (0 : Int32) (byB a)))) ||| (chV (orB (0 : Int32) (byB b)))))] []))
    refine Gl.go (fun _ k => XS.iload X45.here hx rfl (hb hby at_172) rfl  k) ?_
    show Gl p.tables e below (QQof s (Q_law Z a b c_ d h0 n0) 4 6) (T45.setTop (mkF m 174 #[.val (.int a), .val (.int b), .val (.int c_), .val (.int d), .val (.int (2 : Int32)), .val (.ref b30), .val (.ref b32), .val (.ref b34), .val (.ref b36), .val (.int (chV (orB (0 : Int32) (byB a)))), .val (.int (chV (orB (0 : Int32) (byB b)))), .val (.int (chV (orB (0 : Int32) (byB c_)))), .val (.int (chV (orB (orB (0 : Int32) (byB a)) (byB b)))), .val (.int (((0 : Int32) ||| (chV (orB (0 : Int32) (byB a)))) ||| (chV (orB (0 : Int32) (byB b)))))] [(.int (chV (orB (orB (0 : Int32) (byB a)) (byB b))))]))
    refine Gl.go (fun _ k => XS.iload X45.here hx rfl (hb hby at_174) rfl  k) ?_
    show Gl p.tables e below (QQof s (Q_law Z a b c_ d h0 n0) 4 6) (T45.setTop (mkF m 176 #[.val (.int a), .val (.int b), .val (.int c_), .val (.int d), .val (.int (2 : Int32)), .val (.ref b30), .val (.ref b32), .val (.ref b34), .val (.ref b36), .val (.int (chV (orB (0 : Int32) (byB a)))), .val (.int (chV (orB (0 : Int32) (byB b)))), .val (.int (chV (orB (0 : Int32) (byB c_)))), .val (.int (chV (orB (orB (0 : Int32) (byB a)) (byB b)))), .val (.int (((0 : Int32) ||| (chV (orB (0 : Int32) (byB a)))) ||| (chV (orB (0 : Int32) (byB b)))))] [(.int (((0 : Int32) ||| (chV (orB (0 : Int32) (byB a)))) ||| (chV (orB (0 : Int32) (byB b))))), (.int (chV (orB (orB (0 : Int32) (byB a)) (byB b))))]))
    refine Gl.go (fun _ k => XS.icmpNo X45.here hx rfl (hb hby at_176) rfl (teq (by rw [own_or (orB 0 (byB a)) (byB b), own_ch_or, Int32.zero_or])).2 k) ?_
    show Gl p.tables e below (QQof s (Q_law Z a b c_ d h0 n0) 4 6) (T45.setTop (mkF m 179 #[.val (.int a), .val (.int b), .val (.int c_), .val (.int d), .val (.int (2 : Int32)), .val (.ref b30), .val (.ref b32), .val (.ref b34), .val (.ref b36), .val (.int (chV (orB (0 : Int32) (byB a)))), .val (.int (chV (orB (0 : Int32) (byB b)))), .val (.int (chV (orB (0 : Int32) (byB c_)))), .val (.int (chV (orB (orB (0 : Int32) (byB a)) (byB b)))), .val (.int (((0 : Int32) ||| (chV (orB (0 : Int32) (byB a)))) ||| (chV (orB (0 : Int32) (byB b)))))] []))
    refine Gl.go (fun _ k => XS.iconst X45.here hx rfl (hb hby at_179) k) ?_
    show Gl p.tables e below (QQof s (Q_law Z a b c_ d h0 n0) 4 6) (T45.setTop (mkF m 180 #[.val (.int a), .val (.int b), .val (.int c_), .val (.int d), .val (.int (2 : Int32)), .val (.ref b30), .val (.ref b32), .val (.ref b34), .val (.ref b36), .val (.int (chV (orB (0 : Int32) (byB a)))), .val (.int (chV (orB (0 : Int32) (byB b)))), .val (.int (chV (orB (0 : Int32) (byB c_)))), .val (.int (chV (orB (orB (0 : Int32) (byB a)) (byB b)))), .val (.int (((0 : Int32) ||| (chV (orB (0 : Int32) (byB a)))) ||| (chV (orB (0 : Int32) (byB b)))))] [(.int (1 : Int32))]))
    refine Gl.go (fun _ k => XS.goto X45.here hx rfl (pc0 := 180) (pc' := 184) rfl (hb hby at_180) (by decide) (by decide) k) ?_
    show Gl p.tables e below (QQof s (Q_law Z a b c_ d h0 n0) 4 6) (T45.setTop (mkF m 184 #[.val (.int a), .val (.int b), .val (.int c_), .val (.int d), .val (.int (2 : Int32)), .val (.ref b30), .val (.ref b32), .val (.ref b34), .val (.ref b36), .val (.int (chV (orB (0 : Int32) (byB a)))), .val (.int (chV (orB (0 : Int32) (byB b)))), .val (.int (chV (orB (0 : Int32) (byB c_)))), .val (.int (chV (orB (orB (0 : Int32) (byB a)) (byB b)))), .val (.int (((0 : Int32) ||| (chV (orB (0 : Int32) (byB a)))) ||| (chV (orB (0 : Int32) (byB b)))))] [(.int (1 : Int32))]))
    refine leafN X45 hx hlk (t := .boolean) Bd.returns (by simp) (hb hby at_184) ?_ (by decide) (by decide)
    exact ⟨rfl, N45⟩
  · skip
    rw [(hl : (d &&& (3 : Int32)) = (3 : Int32))]
    show Gl p.tables e below (QQof s (Q_law Z a b c_ d h0 n0) 4 6) (s₁.setTop (mkF m 3 #[.val (.int a), .val (.int b), .val (.int c_), .val (.int d), .unset, .unset, .unset, .unset, .unset, .unset, .unset, .unset, .unset, .unset] [(.int (3 : Int32))]))
    refine Gl.go (fun _ k => XS.istore X0.here hx rfl (hb hby at_3) rfl (l' := #[.val (.int a), .val (.int b), .val (.int c_), .val (.int d), .val (.int (3 : Int32)), .unset, .unset, .unset, .unset, .unset, .unset, .unset, .unset, .unset]) rfl k) ?_
    show Gl p.tables e below (QQof s (Q_law Z a b c_ d h0 n0) 4 6) (s₁.setTop (mkF m 5 #[.val (.int a), .val (.int b), .val (.int c_), .val (.int d), .val (.int (3 : Int32)), .unset, .unset, .unset, .unset, .unset, .unset, .unset, .unset, .unset] []))
    refine Gl.go (fun _ k => XS.iconst X0.here hx rfl (hb hby at_5) k) ?_
    show Gl p.tables e below (QQof s (Q_law Z a b c_ d h0 n0) 4 6) (s₁.setTop (mkF m 6 #[.val (.int a), .val (.int b), .val (.int c_), .val (.int d), .val (.int (3 : Int32)), .unset, .unset, .unset, .unset, .unset, .unset, .unset, .unset, .unset] [(.int (1 : Int32))]))
    obtain ⟨T46, h46, cA46, X46, e46, E46, A46, st46⟩ := newP X0 hx hZ (hw _ (List.mem_of_getElem? (i := 0) rfl)) e0 (g := (mkF m 6 #[.val (.int a), .val (.int b), .val (.int c_), .val (.int d), .val (.int (3 : Int32)), .unset, .unset, .unset, .unset, .unset, .unset, .unset, .unset, .unset] [(.int (1 : Int32))])) rfl (hb hby at_6) rfl (by decide) (cap := 1) (by decide) (by decide) (by decide) (by decide)
    obtain ⟨b46, g46⟩ : ∃ z, z = h0.size := ⟨_, rfl⟩
    rw [← g46] at A46 st46
    have g_b46 : n0 ≤ b46 := Nat.le_trans Z0 (Nat.le_of_eq g46.symm)
    have sz_b46 : h0.size ≤ b46 := Nat.le_trans K0.1 (Nat.le_of_eq g46.symm)
    have SZ46 : n0 ≤ h46.size := Nat.le_trans Z0 E46.1
    have K46 : Keep h0 h46 [] := K0.ext E46
    have V_b46_46 : Arv Z h46 b46 cA46 .byte (1 : Int32) [(.int (0 : Int32))] (.int (0 : Int32)) := (Arv.new A46 (by decide)).pad (pad_rep [] _ 1)
    refine Gl.go (fun _ k => st46 _ k) ?_
    show Gl p.tables e below (QQof s (Q_law Z a b c_ d h0 n0) 4 6) (T46.setTop (mkF m 8 #[.val (.int a), .val (.int b), .val (.int c_), .val (.int d), .val (.int (3 : Int32)), .unset, .unset, .unset, .unset, .unset, .unset, .unset, .unset, .unset] [(.ref b46)]))
    refine Gl.go (fun _ k => XS.dup X46.here hx rfl (hb hby at_8) rfl rfl k) ?_
    show Gl p.tables e below (QQof s (Q_law Z a b c_ d h0 n0) 4 6) (T46.setTop (mkF m 9 #[.val (.int a), .val (.int b), .val (.int c_), .val (.int d), .val (.int (3 : Int32)), .unset, .unset, .unset, .unset, .unset, .unset, .unset, .unset, .unset] [(.ref b46), (.ref b46)]))
    refine Gl.go (fun _ k => XS.iconst X46.here hx rfl (hb hby at_9) k) ?_
    show Gl p.tables e below (QQof s (Q_law Z a b c_ d h0 n0) 4 6) (T46.setTop (mkF m 10 #[.val (.int a), .val (.int b), .val (.int c_), .val (.int d), .val (.int (3 : Int32)), .unset, .unset, .unset, .unset, .unset, .unset, .unset, .unset, .unset] [(.int (0 : Int32)), (.ref b46), (.ref b46)]))
    refine Gl.go (fun _ k => XS.iloadN X46.here hx rfl (hb hby at_10) rfl  k) ?_
    show Gl p.tables e below (QQof s (Q_law Z a b c_ d h0 n0) 4 6) (T46.setTop (mkF m 11 #[.val (.int a), .val (.int b), .val (.int c_), .val (.int d), .val (.int (3 : Int32)), .unset, .unset, .unset, .unset, .unset, .unset, .unset, .unset, .unset] [(.int a), (.int (0 : Int32)), (.ref b46), (.ref b46)]))
    refine Gl.go (fun _ k => XS.i2b X46.here hx rfl (hb hby at_11) rfl k) ?_
    show Gl p.tables e below (QQof s (Q_law Z a b c_ d h0 n0) 4 6) (T46.setTop (mkF m 12 #[.val (.int a), .val (.int b), .val (.int c_), .val (.int d), .val (.int (3 : Int32)), .unset, .unset, .unset, .unset, .unset, .unset, .unset, .unset, .unset] [(.int (a.toInt8.toInt32)), (.int (0 : Int32)), (.ref b46), (.ref b46)]))
    obtain ⟨cl47, Ar47, qA47, SA47, NA47, HA47, GA47⟩ := id V_b46_46
    obtain ⟨T47, h47, X47, e47, W47, st47⟩ := stB X46 hx hZ e46 Ar47 (j := (0 : Int32)) (inb_of SA47 ⟨by decide, by decide⟩) (g := (mkF m 12 #[.val (.int a), .val (.int b), .val (.int c_), .val (.int d), .val (.int (3 : Int32)), .unset, .unset, .unset, .unset, .unset, .unset, .unset, .unset, .unset] [(.int (a.toInt8.toInt32)), (.int (0 : Int32)), (.ref b46), (.ref b46)])) rfl rfl (hb hby at_12)
    have SZ47 : n0 ≤ h47.size := by rw [Wr.size W47]; exact SZ46
    have K47 : Keep h0 h47 [] := K46.wr W47 (Or.inr sz_b46)
    have N47 := Fr.snoc X47 N0 g_b46
    have V_b46_47 : Arv Z h47 b46 cA46 .byte (1 : Int32) [(.int (nar .byte (a.toInt8.toInt32)))] (.int (0 : Int32)) := Arv.set Ar47 qA47 SA47 NA47 HA47 GA47 (fits_nar_byte _) W47 0 rfl (Nat.le_of_ble_eq_true rfl)
    refine Gl.go (fun _ k => st47 _ k) ?_
    show Gl p.tables e below (QQof s (Q_law Z a b c_ d h0 n0) 4 6) (T47.setTop (mkF m 13 #[.val (.int a), .val (.int b), .val (.int c_), .val (.int d), .val (.int (3 : Int32)), .unset, .unset, .unset, .unset, .unset, .unset, .unset, .unset, .unset] [(.ref b46)]))
    refine Gl.go (fun _ k => XS.astore X47.here hx rfl (hb hby at_13) rfl rfl (l' := #[.val (.int a), .val (.int b), .val (.int c_), .val (.int d), .val (.int (3 : Int32)), .val (.ref b46), .unset, .unset, .unset, .unset, .unset, .unset, .unset, .unset]) rfl k) ?_
    show Gl p.tables e below (QQof s (Q_law Z a b c_ d h0 n0) 4 6) (T47.setTop (mkF m 15 #[.val (.int a), .val (.int b), .val (.int c_), .val (.int d), .val (.int (3 : Int32)), .val (.ref b46), .unset, .unset, .unset, .unset, .unset, .unset, .unset, .unset] []))
    refine Gl.go (fun _ k => XS.iconst X47.here hx rfl (hb hby at_15) k) ?_
    show Gl p.tables e below (QQof s (Q_law Z a b c_ d h0 n0) 4 6) (T47.setTop (mkF m 16 #[.val (.int a), .val (.int b), .val (.int c_), .val (.int d), .val (.int (3 : Int32)), .val (.ref b46), .unset, .unset, .unset, .unset, .unset, .unset, .unset, .unset] [(.int (1 : Int32))]))
    obtain ⟨T48, h48, cA48, X48, e48, E48, A48, st48⟩ := newP X47 hx hZ (hw _ (List.mem_of_getElem? (i := 0) rfl)) e47 (g := (mkF m 16 #[.val (.int a), .val (.int b), .val (.int c_), .val (.int d), .val (.int (3 : Int32)), .val (.ref b46), .unset, .unset, .unset, .unset, .unset, .unset, .unset, .unset] [(.int (1 : Int32))])) rfl (hb hby at_16) rfl (by decide) (cap := 1) (by decide) (by decide) (by decide) (by decide)
    obtain ⟨b48, g48⟩ : ∃ z, z = h47.size := ⟨_, rfl⟩
    rw [← g48] at A48 st48
    have g_b48 : n0 ≤ b48 := Nat.le_trans SZ47 (Nat.le_of_eq g48.symm)
    have sz_b48 : h0.size ≤ b48 := Nat.le_trans K47.1 (Nat.le_of_eq g48.symm)
    have ne_b46_b48 : b46 ≠ b48 := Nat.ne_of_lt (Nat.lt_of_lt_of_le V_b46_47.lt (Nat.le_of_eq g48.symm))
    have V_b46_48 : Arv Z h48 b46 cA46 .byte (1 : Int32) [(.int (nar .byte (a.toInt8.toInt32)))] (.int (0 : Int32)) := V_b46_47.ext E48
    have SZ48 : n0 ≤ h48.size := Nat.le_trans SZ47 E48.1
    have K48 : Keep h0 h48 [] := K47.ext E48
    have V_b48_48 : Arv Z h48 b48 cA48 .byte (1 : Int32) [(.int (0 : Int32))] (.int (0 : Int32)) := (Arv.new A48 (by decide)).pad (pad_rep [] _ 1)
    refine Gl.go (fun _ k => st48 _ k) ?_
    show Gl p.tables e below (QQof s (Q_law Z a b c_ d h0 n0) 4 6) (T48.setTop (mkF m 18 #[.val (.int a), .val (.int b), .val (.int c_), .val (.int d), .val (.int (3 : Int32)), .val (.ref b46), .unset, .unset, .unset, .unset, .unset, .unset, .unset, .unset] [(.ref b48)]))
    refine Gl.go (fun _ k => XS.dup X48.here hx rfl (hb hby at_18) rfl rfl k) ?_
    show Gl p.tables e below (QQof s (Q_law Z a b c_ d h0 n0) 4 6) (T48.setTop (mkF m 19 #[.val (.int a), .val (.int b), .val (.int c_), .val (.int d), .val (.int (3 : Int32)), .val (.ref b46), .unset, .unset, .unset, .unset, .unset, .unset, .unset, .unset] [(.ref b48), (.ref b48)]))
    refine Gl.go (fun _ k => XS.iconst X48.here hx rfl (hb hby at_19) k) ?_
    show Gl p.tables e below (QQof s (Q_law Z a b c_ d h0 n0) 4 6) (T48.setTop (mkF m 20 #[.val (.int a), .val (.int b), .val (.int c_), .val (.int d), .val (.int (3 : Int32)), .val (.ref b46), .unset, .unset, .unset, .unset, .unset, .unset, .unset, .unset] [(.int (0 : Int32)), (.ref b48), (.ref b48)]))
    refine Gl.go (fun _ k => XS.iloadN X48.here hx rfl (hb hby at_20) rfl  k) ?_
    show Gl p.tables e below (QQof s (Q_law Z a b c_ d h0 n0) 4 6) (T48.setTop (mkF m 21 #[.val (.int a), .val (.int b), .val (.int c_), .val (.int d), .val (.int (3 : Int32)), .val (.ref b46), .unset, .unset, .unset, .unset, .unset, .unset, .unset, .unset] [(.int b), (.int (0 : Int32)), (.ref b48), (.ref b48)]))
    refine Gl.go (fun _ k => XS.i2b X48.here hx rfl (hb hby at_21) rfl k) ?_
    show Gl p.tables e below (QQof s (Q_law Z a b c_ d h0 n0) 4 6) (T48.setTop (mkF m 22 #[.val (.int a), .val (.int b), .val (.int c_), .val (.int d), .val (.int (3 : Int32)), .val (.ref b46), .unset, .unset, .unset, .unset, .unset, .unset, .unset, .unset] [(.int (b.toInt8.toInt32)), (.int (0 : Int32)), (.ref b48), (.ref b48)]))
    obtain ⟨cl49, Ar49, qA49, SA49, NA49, HA49, GA49⟩ := id V_b48_48
    obtain ⟨T49, h49, X49, e49, W49, st49⟩ := stB X48 hx hZ e48 Ar49 (j := (0 : Int32)) (inb_of SA49 ⟨by decide, by decide⟩) (g := (mkF m 22 #[.val (.int a), .val (.int b), .val (.int c_), .val (.int d), .val (.int (3 : Int32)), .val (.ref b46), .unset, .unset, .unset, .unset, .unset, .unset, .unset, .unset] [(.int (b.toInt8.toInt32)), (.int (0 : Int32)), (.ref b48), (.ref b48)])) rfl rfl (hb hby at_22)
    have V_b46_49 : Arv Z h49 b46 cA46 .byte (1 : Int32) [(.int (nar .byte (a.toInt8.toInt32)))] (.int (0 : Int32)) := V_b46_48.other W49 ne_b46_b48
    have SZ49 : n0 ≤ h49.size := by rw [Wr.size W49]; exact SZ48
    have K49 : Keep h0 h49 [] := K48.wr W49 (Or.inr sz_b48)
    have N49 := Fr.snoc X49 N47 g_b48
    have V_b48_49 : Arv Z h49 b48 cA48 .byte (1 : Int32) [(.int (nar .byte (b.toInt8.toInt32)))] (.int (0 : Int32)) := Arv.set Ar49 qA49 SA49 NA49 HA49 GA49 (fits_nar_byte _) W49 0 rfl (Nat.le_of_ble_eq_true rfl)
    refine Gl.go (fun _ k => st49 _ k) ?_
    show Gl p.tables e below (QQof s (Q_law Z a b c_ d h0 n0) 4 6) (T49.setTop (mkF m 23 #[.val (.int a), .val (.int b), .val (.int c_), .val (.int d), .val (.int (3 : Int32)), .val (.ref b46), .unset, .unset, .unset, .unset, .unset, .unset, .unset, .unset] [(.ref b48)]))
    refine Gl.go (fun _ k => XS.astore X49.here hx rfl (hb hby at_23) rfl rfl (l' := #[.val (.int a), .val (.int b), .val (.int c_), .val (.int d), .val (.int (3 : Int32)), .val (.ref b46), .val (.ref b48), .unset, .unset, .unset, .unset, .unset, .unset, .unset]) rfl k) ?_
    show Gl p.tables e below (QQof s (Q_law Z a b c_ d h0 n0) 4 6) (T49.setTop (mkF m 25 #[.val (.int a), .val (.int b), .val (.int c_), .val (.int d), .val (.int (3 : Int32)), .val (.ref b46), .val (.ref b48), .unset, .unset, .unset, .unset, .unset, .unset, .unset] []))
    refine Gl.go (fun _ k => XS.iconst X49.here hx rfl (hb hby at_25) k) ?_
    show Gl p.tables e below (QQof s (Q_law Z a b c_ d h0 n0) 4 6) (T49.setTop (mkF m 26 #[.val (.int a), .val (.int b), .val (.int c_), .val (.int d), .val (.int (3 : Int32)), .val (.ref b46), .val (.ref b48), .unset, .unset, .unset, .unset, .unset, .unset, .unset] [(.int (1 : Int32))]))
    obtain ⟨T50, h50, cA50, X50, e50, E50, A50, st50⟩ := newP X49 hx hZ (hw _ (List.mem_of_getElem? (i := 0) rfl)) e49 (g := (mkF m 26 #[.val (.int a), .val (.int b), .val (.int c_), .val (.int d), .val (.int (3 : Int32)), .val (.ref b46), .val (.ref b48), .unset, .unset, .unset, .unset, .unset, .unset, .unset] [(.int (1 : Int32))])) rfl (hb hby at_26) rfl (by decide) (cap := 1) (by decide) (by decide) (by decide) (by decide)
    obtain ⟨b50, g50⟩ : ∃ z, z = h49.size := ⟨_, rfl⟩
    rw [← g50] at A50 st50
    have g_b50 : n0 ≤ b50 := Nat.le_trans SZ49 (Nat.le_of_eq g50.symm)
    have sz_b50 : h0.size ≤ b50 := Nat.le_trans K49.1 (Nat.le_of_eq g50.symm)
    have ne_b46_b50 : b46 ≠ b50 := Nat.ne_of_lt (Nat.lt_of_lt_of_le V_b46_49.lt (Nat.le_of_eq g50.symm))
    have ne_b48_b50 : b48 ≠ b50 := Nat.ne_of_lt (Nat.lt_of_lt_of_le V_b48_49.lt (Nat.le_of_eq g50.symm))
    have V_b46_50 : Arv Z h50 b46 cA46 .byte (1 : Int32) [(.int (nar .byte (a.toInt8.toInt32)))] (.int (0 : Int32)) := V_b46_49.ext E50
    have V_b48_50 : Arv Z h50 b48 cA48 .byte (1 : Int32) [(.int (nar .byte (b.toInt8.toInt32)))] (.int (0 : Int32)) := V_b48_49.ext E50
    have SZ50 : n0 ≤ h50.size := Nat.le_trans SZ49 E50.1
    have K50 : Keep h0 h50 [] := K49.ext E50
    have V_b50_50 : Arv Z h50 b50 cA50 .byte (1 : Int32) [(.int (0 : Int32))] (.int (0 : Int32)) := (Arv.new A50 (by decide)).pad (pad_rep [] _ 1)
    refine Gl.go (fun _ k => st50 _ k) ?_
    show Gl p.tables e below (QQof s (Q_law Z a b c_ d h0 n0) 4 6) (T50.setTop (mkF m 28 #[.val (.int a), .val (.int b), .val (.int c_), .val (.int d), .val (.int (3 : Int32)), .val (.ref b46), .val (.ref b48), .unset, .unset, .unset, .unset, .unset, .unset, .unset] [(.ref b50)]))
    refine Gl.go (fun _ k => XS.dup X50.here hx rfl (hb hby at_28) rfl rfl k) ?_
    show Gl p.tables e below (QQof s (Q_law Z a b c_ d h0 n0) 4 6) (T50.setTop (mkF m 29 #[.val (.int a), .val (.int b), .val (.int c_), .val (.int d), .val (.int (3 : Int32)), .val (.ref b46), .val (.ref b48), .unset, .unset, .unset, .unset, .unset, .unset, .unset] [(.ref b50), (.ref b50)]))
    refine Gl.go (fun _ k => XS.iconst X50.here hx rfl (hb hby at_29) k) ?_
    show Gl p.tables e below (QQof s (Q_law Z a b c_ d h0 n0) 4 6) (T50.setTop (mkF m 30 #[.val (.int a), .val (.int b), .val (.int c_), .val (.int d), .val (.int (3 : Int32)), .val (.ref b46), .val (.ref b48), .unset, .unset, .unset, .unset, .unset, .unset, .unset] [(.int (0 : Int32)), (.ref b50), (.ref b50)]))
    refine Gl.go (fun _ k => XS.iloadN X50.here hx rfl (hb hby at_30) rfl  k) ?_
    show Gl p.tables e below (QQof s (Q_law Z a b c_ d h0 n0) 4 6) (T50.setTop (mkF m 31 #[.val (.int a), .val (.int b), .val (.int c_), .val (.int d), .val (.int (3 : Int32)), .val (.ref b46), .val (.ref b48), .unset, .unset, .unset, .unset, .unset, .unset, .unset] [(.int c_), (.int (0 : Int32)), (.ref b50), (.ref b50)]))
    refine Gl.go (fun _ k => XS.i2b X50.here hx rfl (hb hby at_31) rfl k) ?_
    show Gl p.tables e below (QQof s (Q_law Z a b c_ d h0 n0) 4 6) (T50.setTop (mkF m 32 #[.val (.int a), .val (.int b), .val (.int c_), .val (.int d), .val (.int (3 : Int32)), .val (.ref b46), .val (.ref b48), .unset, .unset, .unset, .unset, .unset, .unset, .unset] [(.int (c_.toInt8.toInt32)), (.int (0 : Int32)), (.ref b50), (.ref b50)]))
    obtain ⟨cl51, Ar51, qA51, SA51, NA51, HA51, GA51⟩ := id V_b50_50
    obtain ⟨T51, h51, X51, e51, W51, st51⟩ := stB X50 hx hZ e50 Ar51 (j := (0 : Int32)) (inb_of SA51 ⟨by decide, by decide⟩) (g := (mkF m 32 #[.val (.int a), .val (.int b), .val (.int c_), .val (.int d), .val (.int (3 : Int32)), .val (.ref b46), .val (.ref b48), .unset, .unset, .unset, .unset, .unset, .unset, .unset] [(.int (c_.toInt8.toInt32)), (.int (0 : Int32)), (.ref b50), (.ref b50)])) rfl rfl (hb hby at_32)
    have V_b46_51 : Arv Z h51 b46 cA46 .byte (1 : Int32) [(.int (nar .byte (a.toInt8.toInt32)))] (.int (0 : Int32)) := V_b46_50.other W51 ne_b46_b50
    have V_b48_51 : Arv Z h51 b48 cA48 .byte (1 : Int32) [(.int (nar .byte (b.toInt8.toInt32)))] (.int (0 : Int32)) := V_b48_50.other W51 ne_b48_b50
    have SZ51 : n0 ≤ h51.size := by rw [Wr.size W51]; exact SZ50
    have K51 : Keep h0 h51 [] := K50.wr W51 (Or.inr sz_b50)
    have N51 := Fr.snoc X51 N49 g_b50
    have V_b50_51 : Arv Z h51 b50 cA50 .byte (1 : Int32) [(.int (nar .byte (c_.toInt8.toInt32)))] (.int (0 : Int32)) := Arv.set Ar51 qA51 SA51 NA51 HA51 GA51 (fits_nar_byte _) W51 0 rfl (Nat.le_of_ble_eq_true rfl)
    refine Gl.go (fun _ k => st51 _ k) ?_
    show Gl p.tables e below (QQof s (Q_law Z a b c_ d h0 n0) 4 6) (T51.setTop (mkF m 33 #[.val (.int a), .val (.int b), .val (.int c_), .val (.int d), .val (.int (3 : Int32)), .val (.ref b46), .val (.ref b48), .unset, .unset, .unset, .unset, .unset, .unset, .unset] [(.ref b50)]))
    refine Gl.go (fun _ k => XS.astore X51.here hx rfl (hb hby at_33) rfl rfl (l' := #[.val (.int a), .val (.int b), .val (.int c_), .val (.int d), .val (.int (3 : Int32)), .val (.ref b46), .val (.ref b48), .val (.ref b50), .unset, .unset, .unset, .unset, .unset, .unset]) rfl k) ?_
    show Gl p.tables e below (QQof s (Q_law Z a b c_ d h0 n0) 4 6) (T51.setTop (mkF m 35 #[.val (.int a), .val (.int b), .val (.int c_), .val (.int d), .val (.int (3 : Int32)), .val (.ref b46), .val (.ref b48), .val (.ref b50), .unset, .unset, .unset, .unset, .unset, .unset] []))
    refine Gl.go (fun _ k => XS.iload X51.here hx rfl (hb hby at_35) rfl  k) ?_
    show Gl p.tables e below (QQof s (Q_law Z a b c_ d h0 n0) 4 6) (T51.setTop (mkF m 37 #[.val (.int a), .val (.int b), .val (.int c_), .val (.int d), .val (.int (3 : Int32)), .val (.ref b46), .val (.ref b48), .val (.ref b50), .unset, .unset, .unset, .unset, .unset, .unset] [(.int (3 : Int32))]))
    obtain ⟨T52, h52, cA52, X52, e52, E52, A52, st52⟩ := newP X51 hx hZ (hw _ (List.mem_of_getElem? (i := 0) rfl)) e51 (g := (mkF m 37 #[.val (.int a), .val (.int b), .val (.int c_), .val (.int d), .val (.int (3 : Int32)), .val (.ref b46), .val (.ref b48), .val (.ref b50), .unset, .unset, .unset, .unset, .unset, .unset] [(.int (3 : Int32))])) rfl (hb hby at_37) rfl (by decide) (cap := 3) (by decide) (by decide) (by decide) (by decide)
    obtain ⟨b52, g52⟩ : ∃ z, z = h51.size := ⟨_, rfl⟩
    rw [← g52] at A52 st52
    have g_b52 : n0 ≤ b52 := Nat.le_trans SZ51 (Nat.le_of_eq g52.symm)
    have sz_b52 : h0.size ≤ b52 := Nat.le_trans K51.1 (Nat.le_of_eq g52.symm)
    have ne_b46_b52 : b46 ≠ b52 := Nat.ne_of_lt (Nat.lt_of_lt_of_le V_b46_51.lt (Nat.le_of_eq g52.symm))
    have ne_b48_b52 : b48 ≠ b52 := Nat.ne_of_lt (Nat.lt_of_lt_of_le V_b48_51.lt (Nat.le_of_eq g52.symm))
    have ne_b50_b52 : b50 ≠ b52 := Nat.ne_of_lt (Nat.lt_of_lt_of_le V_b50_51.lt (Nat.le_of_eq g52.symm))
    have V_b46_52 : Arv Z h52 b46 cA46 .byte (1 : Int32) [(.int (nar .byte (a.toInt8.toInt32)))] (.int (0 : Int32)) := V_b46_51.ext E52
    have V_b48_52 : Arv Z h52 b48 cA48 .byte (1 : Int32) [(.int (nar .byte (b.toInt8.toInt32)))] (.int (0 : Int32)) := V_b48_51.ext E52
    have V_b50_52 : Arv Z h52 b50 cA50 .byte (1 : Int32) [(.int (nar .byte (c_.toInt8.toInt32)))] (.int (0 : Int32)) := V_b50_51.ext E52
    have SZ52 : n0 ≤ h52.size := Nat.le_trans SZ51 E52.1
    have K52 : Keep h0 h52 [] := K51.ext E52
    have V_b52_52 : Arv Z h52 b52 cA52 .byte (3 : Int32) [(.int (0 : Int32)), (.int (0 : Int32)), (.int (0 : Int32))] (.int (0 : Int32)) := (Arv.new A52 (by decide)).pad (pad_rep [] _ 3)
    refine Gl.go (fun _ k => st52 _ k) ?_
    show Gl p.tables e below (QQof s (Q_law Z a b c_ d h0 n0) 4 6) (T52.setTop (mkF m 39 #[.val (.int a), .val (.int b), .val (.int c_), .val (.int d), .val (.int (3 : Int32)), .val (.ref b46), .val (.ref b48), .val (.ref b50), .unset, .unset, .unset, .unset, .unset, .unset] [(.ref b52)]))
    refine Gl.go (fun _ k => XS.astore X52.here hx rfl (hb hby at_39) rfl rfl (l' := #[.val (.int a), .val (.int b), .val (.int c_), .val (.int d), .val (.int (3 : Int32)), .val (.ref b46), .val (.ref b48), .val (.ref b50), .val (.ref b52), .unset, .unset, .unset, .unset, .unset]) rfl k) ?_
    show Gl p.tables e below (QQof s (Q_law Z a b c_ d h0 n0) 4 6) (T52.setTop (mkF m 41 #[.val (.int a), .val (.int b), .val (.int c_), .val (.int d), .val (.int (3 : Int32)), .val (.ref b46), .val (.ref b48), .val (.ref b50), .val (.ref b52), .unset, .unset, .unset, .unset, .unset] []))
    refine Gl.go (fun _ k => XS.iload X52.here hx rfl (hb hby at_41) rfl  k) ?_
    show Gl p.tables e below (QQof s (Q_law Z a b c_ d h0 n0) 4 6) (T52.setTop (mkF m 43 #[.val (.int a), .val (.int b), .val (.int c_), .val (.int d), .val (.int (3 : Int32)), .val (.ref b46), .val (.ref b48), .val (.ref b50), .val (.ref b52), .unset, .unset, .unset, .unset, .unset] [(.int (3 : Int32))]))
    refine Gl.go (fun _ k => XS.ifNo X52.here hx rfl (hb hby at_43) rfl ((if0 _ _).trans (tlt (by decide)).2.2.2) k) ?_
    show Gl p.tables e below (QQof s (Q_law Z a b c_ d h0 n0) 4 6) (T52.setTop (mkF m 46 #[.val (.int a), .val (.int b), .val (.int c_), .val (.int d), .val (.int (3 : Int32)), .val (.ref b46), .val (.ref b48), .val (.ref b50), .val (.ref b52), .unset, .unset, .unset, .unset, .unset] []))
    refine Gl.go (fun _ k => XS.aload X52.here hx rfl (hb hby at_46) rfl rfl  k) ?_
    show Gl p.tables e below (QQof s (Q_law Z a b c_ d h0 n0) 4 6) (T52.setTop (mkF m 48 #[.val (.int a), .val (.int b), .val (.int c_), .val (.int d), .val (.int (3 : Int32)), .val (.ref b46), .val (.ref b48), .val (.ref b50), .val (.ref b52), .unset, .unset, .unset, .unset, .unset] [(.ref b52)]))
    refine Gl.go (fun _ k => XS.iconst X52.here hx rfl (hb hby at_48) k) ?_
    show Gl p.tables e below (QQof s (Q_law Z a b c_ d h0 n0) 4 6) (T52.setTop (mkF m 49 #[.val (.int a), .val (.int b), .val (.int c_), .val (.int d), .val (.int (3 : Int32)), .val (.ref b46), .val (.ref b48), .val (.ref b50), .val (.ref b52), .unset, .unset, .unset, .unset, .unset] [(.int (0 : Int32)), (.ref b52)]))
    refine Gl.go (fun _ k => XS.iloadN X52.here hx rfl (hb hby at_49) rfl  k) ?_
    show Gl p.tables e below (QQof s (Q_law Z a b c_ d h0 n0) 4 6) (T52.setTop (mkF m 50 #[.val (.int a), .val (.int b), .val (.int c_), .val (.int d), .val (.int (3 : Int32)), .val (.ref b46), .val (.ref b48), .val (.ref b50), .val (.ref b52), .unset, .unset, .unset, .unset, .unset] [(.int a), (.int (0 : Int32)), (.ref b52)]))
    refine Gl.go (fun _ k => XS.i2b X52.here hx rfl (hb hby at_50) rfl k) ?_
    show Gl p.tables e below (QQof s (Q_law Z a b c_ d h0 n0) 4 6) (T52.setTop (mkF m 51 #[.val (.int a), .val (.int b), .val (.int c_), .val (.int d), .val (.int (3 : Int32)), .val (.ref b46), .val (.ref b48), .val (.ref b50), .val (.ref b52), .unset, .unset, .unset, .unset, .unset] [(.int (a.toInt8.toInt32)), (.int (0 : Int32)), (.ref b52)]))
    obtain ⟨cl53, Ar53, qA53, SA53, NA53, HA53, GA53⟩ := id V_b52_52
    obtain ⟨T53, h53, X53, e53, W53, st53⟩ := stB X52 hx hZ e52 Ar53 (j := (0 : Int32)) (inb_of SA53 ⟨by decide, by decide⟩) (g := (mkF m 51 #[.val (.int a), .val (.int b), .val (.int c_), .val (.int d), .val (.int (3 : Int32)), .val (.ref b46), .val (.ref b48), .val (.ref b50), .val (.ref b52), .unset, .unset, .unset, .unset, .unset] [(.int (a.toInt8.toInt32)), (.int (0 : Int32)), (.ref b52)])) rfl rfl (hb hby at_51)
    have V_b46_53 : Arv Z h53 b46 cA46 .byte (1 : Int32) [(.int (nar .byte (a.toInt8.toInt32)))] (.int (0 : Int32)) := V_b46_52.other W53 ne_b46_b52
    have V_b48_53 : Arv Z h53 b48 cA48 .byte (1 : Int32) [(.int (nar .byte (b.toInt8.toInt32)))] (.int (0 : Int32)) := V_b48_52.other W53 ne_b48_b52
    have V_b50_53 : Arv Z h53 b50 cA50 .byte (1 : Int32) [(.int (nar .byte (c_.toInt8.toInt32)))] (.int (0 : Int32)) := V_b50_52.other W53 ne_b50_b52
    have SZ53 : n0 ≤ h53.size := by rw [Wr.size W53]; exact SZ52
    have K53 : Keep h0 h53 [] := K52.wr W53 (Or.inr sz_b52)
    have N53 := Fr.snoc X53 N51 g_b52
    have V_b52_53 : Arv Z h53 b52 cA52 .byte (3 : Int32) [(.int (nar .byte (a.toInt8.toInt32))), (.int (0 : Int32)), (.int (0 : Int32))] (.int (0 : Int32)) := Arv.set Ar53 qA53 SA53 NA53 HA53 GA53 (fits_nar_byte _) W53 0 rfl (Nat.le_of_ble_eq_true rfl)
    refine Gl.go (fun _ k => st53 _ k) ?_
    show Gl p.tables e below (QQof s (Q_law Z a b c_ d h0 n0) 4 6) (T53.setTop (mkF m 52 #[.val (.int a), .val (.int b), .val (.int c_), .val (.int d), .val (.int (3 : Int32)), .val (.ref b46), .val (.ref b48), .val (.ref b50), .val (.ref b52), .unset, .unset, .unset, .unset, .unset] []))
    refine Gl.go (fun _ k => XS.iload X53.here hx rfl (hb hby at_52) rfl  k) ?_
    show Gl p.tables e below (QQof s (Q_law Z a b c_ d h0 n0) 4 6) (T53.setTop (mkF m 54 #[.val (.int a), .val (.int b), .val (.int c_), .val (.int d), .val (.int (3 : Int32)), .val (.ref b46), .val (.ref b48), .val (.ref b50), .val (.ref b52), .unset, .unset, .unset, .unset, .unset] [(.int (3 : Int32))]))
    refine Gl.go (fun _ k => XS.iconst X53.here hx rfl (hb hby at_54) k) ?_
    show Gl p.tables e below (QQof s (Q_law Z a b c_ d h0 n0) 4 6) (T53.setTop (mkF m 55 #[.val (.int a), .val (.int b), .val (.int c_), .val (.int d), .val (.int (3 : Int32)), .val (.ref b46), .val (.ref b48), .val (.ref b50), .val (.ref b52), .unset, .unset, .unset, .unset, .unset] [(.int (1 : Int32)), (.int (3 : Int32))]))
    refine Gl.go (fun _ k => XS.icmpNo X53.here hx rfl (hb hby at_55) rfl (tlt (by decide)).2.2.2 k) ?_
    show Gl p.tables e below (QQof s (Q_law Z a b c_ d h0 n0) 4 6) (T53.setTop (mkF m 58 #[.val (.int a), .val (.int b), .val (.int c_), .val (.int d), .val (.int (3 : Int32)), .val (.ref b46), .val (.ref b48), .val (.ref b50), .val (.ref b52), .unset, .unset, .unset, .unset, .unset] []))
    refine Gl.go (fun _ k => XS.aload X53.here hx rfl (hb hby at_58) rfl rfl  k) ?_
    show Gl p.tables e below (QQof s (Q_law Z a b c_ d h0 n0) 4 6) (T53.setTop (mkF m 60 #[.val (.int a), .val (.int b), .val (.int c_), .val (.int d), .val (.int (3 : Int32)), .val (.ref b46), .val (.ref b48), .val (.ref b50), .val (.ref b52), .unset, .unset, .unset, .unset, .unset] [(.ref b52)]))
    refine Gl.go (fun _ k => XS.iconst X53.here hx rfl (hb hby at_60) k) ?_
    show Gl p.tables e below (QQof s (Q_law Z a b c_ d h0 n0) 4 6) (T53.setTop (mkF m 61 #[.val (.int a), .val (.int b), .val (.int c_), .val (.int d), .val (.int (3 : Int32)), .val (.ref b46), .val (.ref b48), .val (.ref b50), .val (.ref b52), .unset, .unset, .unset, .unset, .unset] [(.int (1 : Int32)), (.ref b52)]))
    refine Gl.go (fun _ k => XS.iloadN X53.here hx rfl (hb hby at_61) rfl  k) ?_
    show Gl p.tables e below (QQof s (Q_law Z a b c_ d h0 n0) 4 6) (T53.setTop (mkF m 62 #[.val (.int a), .val (.int b), .val (.int c_), .val (.int d), .val (.int (3 : Int32)), .val (.ref b46), .val (.ref b48), .val (.ref b50), .val (.ref b52), .unset, .unset, .unset, .unset, .unset] [(.int b), (.int (1 : Int32)), (.ref b52)]))
    refine Gl.go (fun _ k => XS.i2b X53.here hx rfl (hb hby at_62) rfl k) ?_
    show Gl p.tables e below (QQof s (Q_law Z a b c_ d h0 n0) 4 6) (T53.setTop (mkF m 63 #[.val (.int a), .val (.int b), .val (.int c_), .val (.int d), .val (.int (3 : Int32)), .val (.ref b46), .val (.ref b48), .val (.ref b50), .val (.ref b52), .unset, .unset, .unset, .unset, .unset] [(.int (b.toInt8.toInt32)), (.int (1 : Int32)), (.ref b52)]))
    obtain ⟨cl54, Ar54, qA54, SA54, NA54, HA54, GA54⟩ := id V_b52_53
    obtain ⟨T54, h54, X54, e54, W54, st54⟩ := stB X53 hx hZ e53 Ar54 (j := (1 : Int32)) (inb_of SA54 ⟨by decide, by decide⟩) (g := (mkF m 63 #[.val (.int a), .val (.int b), .val (.int c_), .val (.int d), .val (.int (3 : Int32)), .val (.ref b46), .val (.ref b48), .val (.ref b50), .val (.ref b52), .unset, .unset, .unset, .unset, .unset] [(.int (b.toInt8.toInt32)), (.int (1 : Int32)), (.ref b52)])) rfl rfl (hb hby at_63)
    have V_b46_54 : Arv Z h54 b46 cA46 .byte (1 : Int32) [(.int (nar .byte (a.toInt8.toInt32)))] (.int (0 : Int32)) := V_b46_53.other W54 ne_b46_b52
    have V_b48_54 : Arv Z h54 b48 cA48 .byte (1 : Int32) [(.int (nar .byte (b.toInt8.toInt32)))] (.int (0 : Int32)) := V_b48_53.other W54 ne_b48_b52
    have V_b50_54 : Arv Z h54 b50 cA50 .byte (1 : Int32) [(.int (nar .byte (c_.toInt8.toInt32)))] (.int (0 : Int32)) := V_b50_53.other W54 ne_b50_b52
    have SZ54 : n0 ≤ h54.size := by rw [Wr.size W54]; exact SZ53
    have K54 : Keep h0 h54 [] := K53.wr W54 (Or.inr sz_b52)
    have N54 := Fr.snoc X54 N53 g_b52
    have V_b52_54 : Arv Z h54 b52 cA52 .byte (3 : Int32) [(.int (nar .byte (a.toInt8.toInt32))), (.int (nar .byte (b.toInt8.toInt32))), (.int (0 : Int32))] (.int (0 : Int32)) := Arv.set Ar54 qA54 SA54 NA54 HA54 GA54 (fits_nar_byte _) W54 1 rfl (Nat.le_of_ble_eq_true rfl)
    refine Gl.go (fun _ k => st54 _ k) ?_
    show Gl p.tables e below (QQof s (Q_law Z a b c_ d h0 n0) 4 6) (T54.setTop (mkF m 64 #[.val (.int a), .val (.int b), .val (.int c_), .val (.int d), .val (.int (3 : Int32)), .val (.ref b46), .val (.ref b48), .val (.ref b50), .val (.ref b52), .unset, .unset, .unset, .unset, .unset] []))
    refine Gl.go (fun _ k => XS.iload X54.here hx rfl (hb hby at_64) rfl  k) ?_
    show Gl p.tables e below (QQof s (Q_law Z a b c_ d h0 n0) 4 6) (T54.setTop (mkF m 66 #[.val (.int a), .val (.int b), .val (.int c_), .val (.int d), .val (.int (3 : Int32)), .val (.ref b46), .val (.ref b48), .val (.ref b50), .val (.ref b52), .unset, .unset, .unset, .unset, .unset] [(.int (3 : Int32))]))
    refine Gl.go (fun _ k => XS.iconst X54.here hx rfl (hb hby at_66) k) ?_
    show Gl p.tables e below (QQof s (Q_law Z a b c_ d h0 n0) 4 6) (T54.setTop (mkF m 67 #[.val (.int a), .val (.int b), .val (.int c_), .val (.int d), .val (.int (3 : Int32)), .val (.ref b46), .val (.ref b48), .val (.ref b50), .val (.ref b52), .unset, .unset, .unset, .unset, .unset] [(.int (2 : Int32)), (.int (3 : Int32))]))
    refine Gl.go (fun _ k => XS.icmpNo X54.here hx rfl (hb hby at_67) rfl (tlt (by decide)).2.2.2 k) ?_
    show Gl p.tables e below (QQof s (Q_law Z a b c_ d h0 n0) 4 6) (T54.setTop (mkF m 70 #[.val (.int a), .val (.int b), .val (.int c_), .val (.int d), .val (.int (3 : Int32)), .val (.ref b46), .val (.ref b48), .val (.ref b50), .val (.ref b52), .unset, .unset, .unset, .unset, .unset] []))
    refine Gl.go (fun _ k => XS.aload X54.here hx rfl (hb hby at_70) rfl rfl  k) ?_
    show Gl p.tables e below (QQof s (Q_law Z a b c_ d h0 n0) 4 6) (T54.setTop (mkF m 72 #[.val (.int a), .val (.int b), .val (.int c_), .val (.int d), .val (.int (3 : Int32)), .val (.ref b46), .val (.ref b48), .val (.ref b50), .val (.ref b52), .unset, .unset, .unset, .unset, .unset] [(.ref b52)]))
    refine Gl.go (fun _ k => XS.iconst X54.here hx rfl (hb hby at_72) k) ?_
    show Gl p.tables e below (QQof s (Q_law Z a b c_ d h0 n0) 4 6) (T54.setTop (mkF m 73 #[.val (.int a), .val (.int b), .val (.int c_), .val (.int d), .val (.int (3 : Int32)), .val (.ref b46), .val (.ref b48), .val (.ref b50), .val (.ref b52), .unset, .unset, .unset, .unset, .unset] [(.int (2 : Int32)), (.ref b52)]))
    refine Gl.go (fun _ k => XS.iloadN X54.here hx rfl (hb hby at_73) rfl  k) ?_
    show Gl p.tables e below (QQof s (Q_law Z a b c_ d h0 n0) 4 6) (T54.setTop (mkF m 74 #[.val (.int a), .val (.int b), .val (.int c_), .val (.int d), .val (.int (3 : Int32)), .val (.ref b46), .val (.ref b48), .val (.ref b50), .val (.ref b52), .unset, .unset, .unset, .unset, .unset] [(.int c_), (.int (2 : Int32)), (.ref b52)]))
    refine Gl.go (fun _ k => XS.i2b X54.here hx rfl (hb hby at_74) rfl k) ?_
    show Gl p.tables e below (QQof s (Q_law Z a b c_ d h0 n0) 4 6) (T54.setTop (mkF m 75 #[.val (.int a), .val (.int b), .val (.int c_), .val (.int d), .val (.int (3 : Int32)), .val (.ref b46), .val (.ref b48), .val (.ref b50), .val (.ref b52), .unset, .unset, .unset, .unset, .unset] [(.int (c_.toInt8.toInt32)), (.int (2 : Int32)), (.ref b52)]))
    obtain ⟨cl55, Ar55, qA55, SA55, NA55, HA55, GA55⟩ := id V_b52_54
    obtain ⟨T55, h55, X55, e55, W55, st55⟩ := stB X54 hx hZ e54 Ar55 (j := (2 : Int32)) (inb_of SA55 ⟨by decide, by decide⟩) (g := (mkF m 75 #[.val (.int a), .val (.int b), .val (.int c_), .val (.int d), .val (.int (3 : Int32)), .val (.ref b46), .val (.ref b48), .val (.ref b50), .val (.ref b52), .unset, .unset, .unset, .unset, .unset] [(.int (c_.toInt8.toInt32)), (.int (2 : Int32)), (.ref b52)])) rfl rfl (hb hby at_75)
    have V_b46_55 : Arv Z h55 b46 cA46 .byte (1 : Int32) [(.int (nar .byte (a.toInt8.toInt32)))] (.int (0 : Int32)) := V_b46_54.other W55 ne_b46_b52
    have V_b48_55 : Arv Z h55 b48 cA48 .byte (1 : Int32) [(.int (nar .byte (b.toInt8.toInt32)))] (.int (0 : Int32)) := V_b48_54.other W55 ne_b48_b52
    have V_b50_55 : Arv Z h55 b50 cA50 .byte (1 : Int32) [(.int (nar .byte (c_.toInt8.toInt32)))] (.int (0 : Int32)) := V_b50_54.other W55 ne_b50_b52
    have SZ55 : n0 ≤ h55.size := by rw [Wr.size W55]; exact SZ54
    have K55 : Keep h0 h55 [] := K54.wr W55 (Or.inr sz_b52)
    have N55 := Fr.snoc X55 N54 g_b52
    have V_b52_55 : Arv Z h55 b52 cA52 .byte (3 : Int32) [(.int (nar .byte (a.toInt8.toInt32))), (.int (nar .byte (b.toInt8.toInt32))), (.int (nar .byte (c_.toInt8.toInt32)))] (.int (0 : Int32)) := Arv.set Ar55 qA55 SA55 NA55 HA55 GA55 (fits_nar_byte _) W55 2 rfl (Nat.le_of_ble_eq_true rfl)
    refine Gl.go (fun _ k => st55 _ k) ?_
    show Gl p.tables e below (QQof s (Q_law Z a b c_ d h0 n0) 4 6) (T55.setTop (mkF m 76 #[.val (.int a), .val (.int b), .val (.int c_), .val (.int d), .val (.int (3 : Int32)), .val (.ref b46), .val (.ref b48), .val (.ref b50), .val (.ref b52), .unset, .unset, .unset, .unset, .unset] []))
    refine Gl.go (fun _ k => XS.aload X55.here hx rfl (hb hby at_76) rfl rfl  k) ?_
    show Gl p.tables e below (QQof s (Q_law Z a b c_ d h0 n0) 4 6) (T55.setTop (mkF m 78 #[.val (.int a), .val (.int b), .val (.int c_), .val (.int d), .val (.int (3 : Int32)), .val (.ref b46), .val (.ref b48), .val (.ref b50), .val (.ref b52), .unset, .unset, .unset, .unset, .unset] [(.ref b46)]))
    obtain ⟨_, _, ⟨T56, L56, k56, n56⟩, -, X56, ⟨Lc56, hQ56, l56, y56, z56⟩, st56⟩ := Jvm.LawKit.callS X55 hx (y := (⟨"com/example/aloud/aloud/PathPattern", "byteClasses", "([B)C"⟩ : MethodName)) hown (mvT hZ (hw _ (List.mem_of_getElem? (i := 1) rfl))) (mvT hZ (hw _ (List.mem_of_getElem? (i := 2) rfl))) (mvT hZ (hw _ (List.mem_of_getElem? (i := 3) rfl))) (mvT hZ (hw _ (List.mem_of_getElem? (i := 4) rfl))) (by decide) (backOf (W := 0) (rm_bc1 l Z a0 hw [] b46 cA46 (byB a) h55 n0 SZ55 V_b46_55) hZ (hw _ (List.mem_of_getElem? (i := 4) rfl)) (hw _ (List.mem_of_getElem? (i := 3) rfl)) (by decide) (by decide)) (g := (mkF m 78 #[.val (.int a), .val (.int b), .val (.int c_), .val (.int d), .val (.int (3 : Int32)), .val (.ref b46), .val (.ref b48), .val (.ref b50), .val (.ref b52), .unset, .unset, .unset, .unset, .unset] [(.ref b46)])) rfl (by rw [hml]; rfl) (argsL := [(.ref b46)]) (rest := []) (lenOf pd_0 rfl) rfl (by show 2 * 0 + _ ≤ _; exact Nat.le_of_eq rfl) (hb hby at_78) (fun _ _ => ⟨rfl, e55, (by decide : 4 + 0 ≤ _), (by decide : 6 + 0 ≤ _)⟩)
    dsimp only [Pt.U, Pt.locs, Pt.cells, Pt.slots] at X56 l56 y56 z56 st56 hQ56
    subst l56 y56 z56
    obtain ⟨rfl, Nq56, e56⟩ := hQ56
    have N56 := Fr.app N55 Nq56
    refine Gl.go (fun _ k => st56 _ k) ?_
    show Gl p.tables e below (QQof s (Q_law Z a b c_ d h0 n0) 4 6) (T56.setTop (mkF m 81 #[.val (.int a), .val (.int b), .val (.int c_), .val (.int d), .val (.int (3 : Int32)), .val (.ref b46), .val (.ref b48), .val (.ref b50), .val (.ref b52), .unset, .unset, .unset, .unset, .unset] [(.int (chV (orB (0 : Int32) (byB a))))]))
    refine Gl.go (fun _ k => XS.istore X56.here hx rfl (hb hby at_81) rfl (l' := #[.val (.int a), .val (.int b), .val (.int c_), .val (.int d), .val (.int (3 : Int32)), .val (.ref b46), .val (.ref b48), .val (.ref b50), .val (.ref b52), .val (.int (chV (orB (0 : Int32) (byB a)))), .unset, .unset, .unset, .unset]) rfl k) ?_
    show Gl p.tables e below (QQof s (Q_law Z a b c_ d h0 n0) 4 6) (T56.setTop (mkF m 83 #[.val (.int a), .val (.int b), .val (.int c_), .val (.int d), .val (.int (3 : Int32)), .val (.ref b46), .val (.ref b48), .val (.ref b50), .val (.ref b52), .val (.int (chV (orB (0 : Int32) (byB a)))), .unset, .unset, .unset, .unset] []))
    refine Gl.go (fun _ k => XS.aload X56.here hx rfl (hb hby at_83) rfl rfl  k) ?_
    show Gl p.tables e below (QQof s (Q_law Z a b c_ d h0 n0) 4 6) (T56.setTop (mkF m 85 #[.val (.int a), .val (.int b), .val (.int c_), .val (.int d), .val (.int (3 : Int32)), .val (.ref b46), .val (.ref b48), .val (.ref b50), .val (.ref b52), .val (.int (chV (orB (0 : Int32) (byB a)))), .unset, .unset, .unset, .unset] [(.ref b48)]))
    obtain ⟨_, _, ⟨T57, L57, k57, n57⟩, -, X57, ⟨Lc57, hQ57, l57, y57, z57⟩, st57⟩ := Jvm.LawKit.callS X56 hx (y := (⟨"com/example/aloud/aloud/PathPattern", "byteClasses", "([B)C"⟩ : MethodName)) hown (mvT hZ (hw _ (List.mem_of_getElem? (i := 1) rfl))) (mvT hZ (hw _ (List.mem_of_getElem? (i := 2) rfl))) (mvT hZ (hw _ (List.mem_of_getElem? (i := 3) rfl))) (mvT hZ (hw _ (List.mem_of_getElem? (i := 4) rfl))) (by decide) (backOf (W := 0) (rm_bc1 l Z a0 hw [] b48 cA48 (byB b) h55 n0 SZ55 V_b48_55) hZ (hw _ (List.mem_of_getElem? (i := 4) rfl)) (hw _ (List.mem_of_getElem? (i := 3) rfl)) (by decide) (by decide)) (g := (mkF m 85 #[.val (.int a), .val (.int b), .val (.int c_), .val (.int d), .val (.int (3 : Int32)), .val (.ref b46), .val (.ref b48), .val (.ref b50), .val (.ref b52), .val (.int (chV (orB (0 : Int32) (byB a)))), .unset, .unset, .unset, .unset] [(.ref b48)])) rfl (by rw [hml]; rfl) (argsL := [(.ref b48)]) (rest := []) (lenOf pd_0 rfl) rfl (by show 2 * 0 + _ ≤ _; exact Nat.le_of_eq rfl) (hb hby at_85) (fun _ _ => ⟨rfl, e56, (by decide : 4 + 0 ≤ _), (by decide : 6 + 0 ≤ _)⟩)
    dsimp only [Pt.U, Pt.locs, Pt.cells, Pt.slots] at X57 l57 y57 z57 st57 hQ57
    subst l57 y57 z57
    obtain ⟨rfl, Nq57, e57⟩ := hQ57
    have N57 := Fr.app N56 Nq57
    refine Gl.go (fun _ k => st57 _ k) ?_
    show Gl p.tables e below (QQof s (Q_law Z a b c_ d h0 n0) 4 6) (T57.setTop (mkF m 88 #[.val (.int a), .val (.int b), .val (.int c_), .val (.int d), .val (.int (3 : Int32)), .val (.ref b46), .val (.ref b48), .val (.ref b50), .val (.ref b52), .val (.int (chV (orB (0 : Int32) (byB a)))), .unset, .unset, .unset, .unset] [(.int (chV (orB (0 : Int32) (byB b))))]))
    refine Gl.go (fun _ k => XS.istore X57.here hx rfl (hb hby at_88) rfl (l' := #[.val (.int a), .val (.int b), .val (.int c_), .val (.int d), .val (.int (3 : Int32)), .val (.ref b46), .val (.ref b48), .val (.ref b50), .val (.ref b52), .val (.int (chV (orB (0 : Int32) (byB a)))), .val (.int (chV (orB (0 : Int32) (byB b)))), .unset, .unset, .unset]) rfl k) ?_
    show Gl p.tables e below (QQof s (Q_law Z a b c_ d h0 n0) 4 6) (T57.setTop (mkF m 90 #[.val (.int a), .val (.int b), .val (.int c_), .val (.int d), .val (.int (3 : Int32)), .val (.ref b46), .val (.ref b48), .val (.ref b50), .val (.ref b52), .val (.int (chV (orB (0 : Int32) (byB a)))), .val (.int (chV (orB (0 : Int32) (byB b)))), .unset, .unset, .unset] []))
    refine Gl.go (fun _ k => XS.aload X57.here hx rfl (hb hby at_90) rfl rfl  k) ?_
    show Gl p.tables e below (QQof s (Q_law Z a b c_ d h0 n0) 4 6) (T57.setTop (mkF m 92 #[.val (.int a), .val (.int b), .val (.int c_), .val (.int d), .val (.int (3 : Int32)), .val (.ref b46), .val (.ref b48), .val (.ref b50), .val (.ref b52), .val (.int (chV (orB (0 : Int32) (byB a)))), .val (.int (chV (orB (0 : Int32) (byB b)))), .unset, .unset, .unset] [(.ref b50)]))
    obtain ⟨_, _, ⟨T58, L58, k58, n58⟩, -, X58, ⟨Lc58, hQ58, l58, y58, z58⟩, st58⟩ := Jvm.LawKit.callS X57 hx (y := (⟨"com/example/aloud/aloud/PathPattern", "byteClasses", "([B)C"⟩ : MethodName)) hown (mvT hZ (hw _ (List.mem_of_getElem? (i := 1) rfl))) (mvT hZ (hw _ (List.mem_of_getElem? (i := 2) rfl))) (mvT hZ (hw _ (List.mem_of_getElem? (i := 3) rfl))) (mvT hZ (hw _ (List.mem_of_getElem? (i := 4) rfl))) (by decide) (backOf (W := 0) (rm_bc1 l Z a0 hw [] b50 cA50 (byB c_) h55 n0 SZ55 V_b50_55) hZ (hw _ (List.mem_of_getElem? (i := 4) rfl)) (hw _ (List.mem_of_getElem? (i := 3) rfl)) (by decide) (by decide)) (g := (mkF m 92 #[.val (.int a), .val (.int b), .val (.int c_), .val (.int d), .val (.int (3 : Int32)), .val (.ref b46), .val (.ref b48), .val (.ref b50), .val (.ref b52), .val (.int (chV (orB (0 : Int32) (byB a)))), .val (.int (chV (orB (0 : Int32) (byB b)))), .unset, .unset, .unset] [(.ref b50)])) rfl (by rw [hml]; rfl) (argsL := [(.ref b50)]) (rest := []) (lenOf pd_0 rfl) rfl (by show 2 * 0 + _ ≤ _; exact Nat.le_of_eq rfl) (hb hby at_92) (fun _ _ => ⟨rfl, e57, (by decide : 4 + 0 ≤ _), (by decide : 6 + 0 ≤ _)⟩)
    dsimp only [Pt.U, Pt.locs, Pt.cells, Pt.slots] at X58 l58 y58 z58 st58 hQ58
    subst l58 y58 z58
    obtain ⟨rfl, Nq58, e58⟩ := hQ58
    have N58 := Fr.app N57 Nq58
    refine Gl.go (fun _ k => st58 _ k) ?_
    show Gl p.tables e below (QQof s (Q_law Z a b c_ d h0 n0) 4 6) (T58.setTop (mkF m 95 #[.val (.int a), .val (.int b), .val (.int c_), .val (.int d), .val (.int (3 : Int32)), .val (.ref b46), .val (.ref b48), .val (.ref b50), .val (.ref b52), .val (.int (chV (orB (0 : Int32) (byB a)))), .val (.int (chV (orB (0 : Int32) (byB b)))), .unset, .unset, .unset] [(.int (chV (orB (0 : Int32) (byB c_))))]))
    refine Gl.go (fun _ k => XS.istore X58.here hx rfl (hb hby at_95) rfl (l' := #[.val (.int a), .val (.int b), .val (.int c_), .val (.int d), .val (.int (3 : Int32)), .val (.ref b46), .val (.ref b48), .val (.ref b50), .val (.ref b52), .val (.int (chV (orB (0 : Int32) (byB a)))), .val (.int (chV (orB (0 : Int32) (byB b)))), .val (.int (chV (orB (0 : Int32) (byB c_)))), .unset, .unset]) rfl k) ?_
    show Gl p.tables e below (QQof s (Q_law Z a b c_ d h0 n0) 4 6) (T58.setTop (mkF m 97 #[.val (.int a), .val (.int b), .val (.int c_), .val (.int d), .val (.int (3 : Int32)), .val (.ref b46), .val (.ref b48), .val (.ref b50), .val (.ref b52), .val (.int (chV (orB (0 : Int32) (byB a)))), .val (.int (chV (orB (0 : Int32) (byB b)))), .val (.int (chV (orB (0 : Int32) (byB c_)))), .unset, .unset] []))
    refine Gl.go (fun _ k => XS.aload X58.here hx rfl (hb hby at_97) rfl rfl  k) ?_
    show Gl p.tables e below (QQof s (Q_law Z a b c_ d h0 n0) 4 6) (T58.setTop (mkF m 99 #[.val (.int a), .val (.int b), .val (.int c_), .val (.int d), .val (.int (3 : Int32)), .val (.ref b46), .val (.ref b48), .val (.ref b50), .val (.ref b52), .val (.int (chV (orB (0 : Int32) (byB a)))), .val (.int (chV (orB (0 : Int32) (byB b)))), .val (.int (chV (orB (0 : Int32) (byB c_)))), .unset, .unset] [(.ref b52)]))
    obtain ⟨_, _, ⟨T59, L59, k59, n59⟩, -, X59, ⟨Lc59, hQ59, l59, y59, z59⟩, st59⟩ := Jvm.LawKit.callS X58 hx (y := (⟨"com/example/aloud/aloud/PathPattern", "byteClasses", "([B)C"⟩ : MethodName)) hown (mvT hZ (hw _ (List.mem_of_getElem? (i := 1) rfl))) (mvT hZ (hw _ (List.mem_of_getElem? (i := 2) rfl))) (mvT hZ (hw _ (List.mem_of_getElem? (i := 3) rfl))) (mvT hZ (hw _ (List.mem_of_getElem? (i := 4) rfl))) (by decide) (backOf (W := 0) (rm_bc3 l Z a0 hw [] b52 cA52 (byB a) (byB b) (byB c_) h55 n0 SZ55 V_b52_55) hZ (hw _ (List.mem_of_getElem? (i := 4) rfl)) (hw _ (List.mem_of_getElem? (i := 3) rfl)) (by decide) (by decide)) (g := (mkF m 99 #[.val (.int a), .val (.int b), .val (.int c_), .val (.int d), .val (.int (3 : Int32)), .val (.ref b46), .val (.ref b48), .val (.ref b50), .val (.ref b52), .val (.int (chV (orB (0 : Int32) (byB a)))), .val (.int (chV (orB (0 : Int32) (byB b)))), .val (.int (chV (orB (0 : Int32) (byB c_)))), .unset, .unset] [(.ref b52)])) rfl (by rw [hml]; rfl) (argsL := [(.ref b52)]) (rest := []) (lenOf pd_0 rfl) rfl (by show 2 * 0 + _ ≤ _; exact Nat.le_of_eq rfl) (hb hby at_99) (fun _ _ => ⟨rfl, e58, (by decide : 4 + 0 ≤ _), (by decide : 6 + 0 ≤ _)⟩)
    dsimp only [Pt.U, Pt.locs, Pt.cells, Pt.slots] at X59 l59 y59 z59 st59 hQ59
    subst l59 y59 z59
    obtain ⟨rfl, Nq59, e59⟩ := hQ59
    have N59 := Fr.app N58 Nq59
    refine Gl.go (fun _ k => st59 _ k) ?_
    show Gl p.tables e below (QQof s (Q_law Z a b c_ d h0 n0) 4 6) (T59.setTop (mkF m 102 #[.val (.int a), .val (.int b), .val (.int c_), .val (.int d), .val (.int (3 : Int32)), .val (.ref b46), .val (.ref b48), .val (.ref b50), .val (.ref b52), .val (.int (chV (orB (0 : Int32) (byB a)))), .val (.int (chV (orB (0 : Int32) (byB b)))), .val (.int (chV (orB (0 : Int32) (byB c_)))), .unset, .unset] [(.int (chV (orB (orB (orB (0 : Int32) (byB a)) (byB b)) (byB c_))))]))
    refine Gl.go (fun _ k => XS.istore X59.here hx rfl (hb hby at_102) rfl (l' := #[.val (.int a), .val (.int b), .val (.int c_), .val (.int d), .val (.int (3 : Int32)), .val (.ref b46), .val (.ref b48), .val (.ref b50), .val (.ref b52), .val (.int (chV (orB (0 : Int32) (byB a)))), .val (.int (chV (orB (0 : Int32) (byB b)))), .val (.int (chV (orB (0 : Int32) (byB c_)))), .val (.int (chV (orB (orB (orB (0 : Int32) (byB a)) (byB b)) (byB c_)))), .unset]) rfl k) ?_
    show Gl p.tables e below (QQof s (Q_law Z a b c_ d h0 n0) 4 6) (T59.setTop (mkF m 104 #[.val (.int a), .val (.int b), .val (.int c_), .val (.int d), .val (.int (3 : Int32)), .val (.ref b46), .val (.ref b48), .val (.ref b50), .val (.ref b52), .val (.int (chV (orB (0 : Int32) (byB a)))), .val (.int (chV (orB (0 : Int32) (byB b)))), .val (.int (chV (orB (0 : Int32) (byB c_)))), .val (.int (chV (orB (orB (orB (0 : Int32) (byB a)) (byB b)) (byB c_)))), .unset] []))
    refine Gl.go (fun _ k => XS.iconst X59.here hx rfl (hb hby at_104) k) ?_
    show Gl p.tables e below (QQof s (Q_law Z a b c_ d h0 n0) 4 6) (T59.setTop (mkF m 105 #[.val (.int a), .val (.int b), .val (.int c_), .val (.int d), .val (.int (3 : Int32)), .val (.ref b46), .val (.ref b48), .val (.ref b50), .val (.ref b52), .val (.int (chV (orB (0 : Int32) (byB a)))), .val (.int (chV (orB (0 : Int32) (byB b)))), .val (.int (chV (orB (0 : Int32) (byB c_)))), .val (.int (chV (orB (orB (orB (0 : Int32) (byB a)) (byB b)) (byB c_)))), .unset] [(.int (0 : Int32))]))
    refine Gl.go (fun _ k => XS.istore X59.here hx rfl (hb hby at_105) rfl (l' := #[.val (.int a), .val (.int b), .val (.int c_), .val (.int d), .val (.int (3 : Int32)), .val (.ref b46), .val (.ref b48), .val (.ref b50), .val (.ref b52), .val (.int (chV (orB (0 : Int32) (byB a)))), .val (.int (chV (orB (0 : Int32) (byB b)))), .val (.int (chV (orB (0 : Int32) (byB c_)))), .val (.int (chV (orB (orB (orB (0 : Int32) (byB a)) (byB b)) (byB c_)))), .val (.int (0 : Int32))]) rfl k) ?_
    show Gl p.tables e below (QQof s (Q_law Z a b c_ d h0 n0) 4 6) (T59.setTop (mkF m 107 #[.val (.int a), .val (.int b), .val (.int c_), .val (.int d), .val (.int (3 : Int32)), .val (.ref b46), .val (.ref b48), .val (.ref b50), .val (.ref b52), .val (.int (chV (orB (0 : Int32) (byB a)))), .val (.int (chV (orB (0 : Int32) (byB b)))), .val (.int (chV (orB (0 : Int32) (byB c_)))), .val (.int (chV (orB (orB (orB (0 : Int32) (byB a)) (byB b)) (byB c_)))), .val (.int (0 : Int32))] []))
    refine Gl.go (fun _ k => XS.iload X59.here hx rfl (hb hby at_107) rfl  k) ?_
    show Gl p.tables e below (QQof s (Q_law Z a b c_ d h0 n0) 4 6) (T59.setTop (mkF m 109 #[.val (.int a), .val (.int b), .val (.int c_), .val (.int d), .val (.int (3 : Int32)), .val (.ref b46), .val (.ref b48), .val (.ref b50), .val (.ref b52), .val (.int (chV (orB (0 : Int32) (byB a)))), .val (.int (chV (orB (0 : Int32) (byB b)))), .val (.int (chV (orB (0 : Int32) (byB c_)))), .val (.int (chV (orB (orB (orB (0 : Int32) (byB a)) (byB b)) (byB c_)))), .val (.int (0 : Int32))] [(.int (3 : Int32))]))
    refine Gl.go (fun _ k => XS.ifNo X59.here hx rfl (hb hby at_109) rfl ((if0 _ _).trans (tlt (by decide)).2.2.2) k) ?_
    show Gl p.tables e below (QQof s (Q_law Z a b c_ d h0 n0) 4 6) (T59.setTop (mkF m 112 #[.val (.int a), .val (.int b), .val (.int c_), .val (.int d), .val (.int (3 : Int32)), .val (.ref b46), .val (.ref b48), .val (.ref b50), .val (.ref b52), .val (.int (chV (orB (0 : Int32) (byB a)))), .val (.int (chV (orB (0 : Int32) (byB b)))), .val (.int (chV (orB (0 : Int32) (byB c_)))), .val (.int (chV (orB (orB (orB (0 : Int32) (byB a)) (byB b)) (byB c_)))), .val (.int (0 : Int32))] []))
    refine Gl.go (fun _ k => XS.iload X59.here hx rfl (hb hby at_112) rfl  k) ?_
    show Gl p.tables e below (QQof s (Q_law Z a b c_ d h0 n0) 4 6) (T59.setTop (mkF m 114 #[.val (.int a), .val (.int b), .val (.int c_), .val (.int d), .val (.int (3 : Int32)), .val (.ref b46), .val (.ref b48), .val (.ref b50), .val (.ref b52), .val (.int (chV (orB (0 : Int32) (byB a)))), .val (.int (chV (orB (0 : Int32) (byB b)))), .val (.int (chV (orB (0 : Int32) (byB c_)))), .val (.int (chV (orB (orB (orB (0 : Int32) (byB a)) (byB b)) (byB c_)))), .val (.int (0 : Int32))] [(.int (0 : Int32))]))
    refine Gl.go (fun _ k => XS.iload X59.here hx rfl (hb hby at_114) rfl  k) ?_
    show Gl p.tables e below (QQof s (Q_law Z a b c_ d h0 n0) 4 6) (T59.setTop (mkF m 116 #[.val (.int a), .val (.int b), .val (.int c_), .val (.int d), .val (.int (3 : Int32)), .val (.ref b46), .val (.ref b48), .val (.ref b50), .val (.ref b52), .val (.int (chV (orB (0 : Int32) (byB a)))), .val (.int (chV (orB (0 : Int32) (byB b)))), .val (.int (chV (orB (0 : Int32) (byB c_)))), .val (.int (chV (orB (orB (orB (0 : Int32) (byB a)) (byB b)) (byB c_)))), .val (.int (0 : Int32))] [(.int (chV (orB (0 : Int32) (byB a)))), (.int (0 : Int32))]))
    refine Gl.go (fun _ k => XS.ior X59.here hx rfl (hb hby at_116) rfl k) ?_
    show Gl p.tables e below (QQof s (Q_law Z a b c_ d h0 n0) 4 6) (T59.setTop (mkF m 117 #[.val (.int a), .val (.int b), .val (.int c_), .val (.int d), .val (.int (3 : Int32)), .val (.ref b46), .val (.ref b48), .val (.ref b50), .val (.ref b52), .val (.int (chV (orB (0 : Int32) (byB a)))), .val (.int (chV (orB (0 : Int32) (byB b)))), .val (.int (chV (orB (0 : Int32) (byB c_)))), .val (.int (chV (orB (orB (orB (0 : Int32) (byB a)) (byB b)) (byB c_)))), .val (.int (0 : Int32))] [(.int ((0 : Int32) ||| (chV (orB (0 : Int32) (byB a)))))]))
    refine Gl.go (fun _ k => XS.istore X59.here hx rfl (hb hby at_117) rfl (l' := #[.val (.int a), .val (.int b), .val (.int c_), .val (.int d), .val (.int (3 : Int32)), .val (.ref b46), .val (.ref b48), .val (.ref b50), .val (.ref b52), .val (.int (chV (orB (0 : Int32) (byB a)))), .val (.int (chV (orB (0 : Int32) (byB b)))), .val (.int (chV (orB (0 : Int32) (byB c_)))), .val (.int (chV (orB (orB (orB (0 : Int32) (byB a)) (byB b)) (byB c_)))), .val (.int ((0 : Int32) ||| (chV (orB (0 : Int32) (byB a)))))]) rfl k) ?_
    show Gl p.tables e below (QQof s (Q_law Z a b c_ d h0 n0) 4 6) (T59.setTop (mkF m 119 #[.val (.int a), .val (.int b), .val (.int c_), .val (.int d), .val (.int (3 : Int32)), .val (.ref b46), .val (.ref b48), .val (.ref b50), .val (.ref b52), .val (.int (chV (orB (0 : Int32) (byB a)))), .val (.int (chV (orB (0 : Int32) (byB b)))), .val (.int (chV (orB (0 : Int32) (byB c_)))), .val (.int (chV (orB (orB (orB (0 : Int32) (byB a)) (byB b)) (byB c_)))), .val (.int ((0 : Int32) ||| (chV (orB (0 : Int32) (byB a)))))] []))
    refine Gl.go (fun _ k => XS.iload X59.here hx rfl (hb hby at_119) rfl  k) ?_
    show Gl p.tables e below (QQof s (Q_law Z a b c_ d h0 n0) 4 6) (T59.setTop (mkF m 121 #[.val (.int a), .val (.int b), .val (.int c_), .val (.int d), .val (.int (3 : Int32)), .val (.ref b46), .val (.ref b48), .val (.ref b50), .val (.ref b52), .val (.int (chV (orB (0 : Int32) (byB a)))), .val (.int (chV (orB (0 : Int32) (byB b)))), .val (.int (chV (orB (0 : Int32) (byB c_)))), .val (.int (chV (orB (orB (orB (0 : Int32) (byB a)) (byB b)) (byB c_)))), .val (.int ((0 : Int32) ||| (chV (orB (0 : Int32) (byB a)))))] [(.int (3 : Int32))]))
    refine Gl.go (fun _ k => XS.iconst X59.here hx rfl (hb hby at_121) k) ?_
    show Gl p.tables e below (QQof s (Q_law Z a b c_ d h0 n0) 4 6) (T59.setTop (mkF m 122 #[.val (.int a), .val (.int b), .val (.int c_), .val (.int d), .val (.int (3 : Int32)), .val (.ref b46), .val (.ref b48), .val (.ref b50), .val (.ref b52), .val (.int (chV (orB (0 : Int32) (byB a)))), .val (.int (chV (orB (0 : Int32) (byB b)))), .val (.int (chV (orB (0 : Int32) (byB c_)))), .val (.int (chV (orB (orB (orB (0 : Int32) (byB a)) (byB b)) (byB c_)))), .val (.int ((0 : Int32) ||| (chV (orB (0 : Int32) (byB a)))))] [(.int (1 : Int32)), (.int (3 : Int32))]))
    refine Gl.go (fun _ k => XS.icmpNo X59.here hx rfl (hb hby at_122) rfl (tlt (by decide)).2.2.2 k) ?_
    show Gl p.tables e below (QQof s (Q_law Z a b c_ d h0 n0) 4 6) (T59.setTop (mkF m 125 #[.val (.int a), .val (.int b), .val (.int c_), .val (.int d), .val (.int (3 : Int32)), .val (.ref b46), .val (.ref b48), .val (.ref b50), .val (.ref b52), .val (.int (chV (orB (0 : Int32) (byB a)))), .val (.int (chV (orB (0 : Int32) (byB b)))), .val (.int (chV (orB (0 : Int32) (byB c_)))), .val (.int (chV (orB (orB (orB (0 : Int32) (byB a)) (byB b)) (byB c_)))), .val (.int ((0 : Int32) ||| (chV (orB (0 : Int32) (byB a)))))] []))
    refine Gl.go (fun _ k => XS.iload X59.here hx rfl (hb hby at_125) rfl  k) ?_
    show Gl p.tables e below (QQof s (Q_law Z a b c_ d h0 n0) 4 6) (T59.setTop (mkF m 127 #[.val (.int a), .val (.int b), .val (.int c_), .val (.int d), .val (.int (3 : Int32)), .val (.ref b46), .val (.ref b48), .val (.ref b50), .val (.ref b52), .val (.int (chV (orB (0 : Int32) (byB a)))), .val (.int (chV (orB (0 : Int32) (byB b)))), .val (.int (chV (orB (0 : Int32) (byB c_)))), .val (.int (chV (orB (orB (orB (0 : Int32) (byB a)) (byB b)) (byB c_)))), .val (.int ((0 : Int32) ||| (chV (orB (0 : Int32) (byB a)))))] [(.int ((0 : Int32) ||| (chV (orB (0 : Int32) (byB a)))))]))
    refine Gl.go (fun _ k => XS.iload X59.here hx rfl (hb hby at_127) rfl  k) ?_
    show Gl p.tables e below (QQof s (Q_law Z a b c_ d h0 n0) 4 6) (T59.setTop (mkF m 129 #[.val (.int a), .val (.int b), .val (.int c_), .val (.int d), .val (.int (3 : Int32)), .val (.ref b46), .val (.ref b48), .val (.ref b50), .val (.ref b52), .val (.int (chV (orB (0 : Int32) (byB a)))), .val (.int (chV (orB (0 : Int32) (byB b)))), .val (.int (chV (orB (0 : Int32) (byB c_)))), .val (.int (chV (orB (orB (orB (0 : Int32) (byB a)) (byB b)) (byB c_)))), .val (.int ((0 : Int32) ||| (chV (orB (0 : Int32) (byB a)))))] [(.int (chV (orB (0 : Int32) (byB b)))), (.int ((0 : Int32) ||| (chV (orB (0 : Int32) (byB a)))))]))
    refine Gl.go (fun _ k => XS.ior X59.here hx rfl (hb hby at_129) rfl k) ?_
    show Gl p.tables e below (QQof s (Q_law Z a b c_ d h0 n0) 4 6) (T59.setTop (mkF m 130 #[.val (.int a), .val (.int b), .val (.int c_), .val (.int d), .val (.int (3 : Int32)), .val (.ref b46), .val (.ref b48), .val (.ref b50), .val (.ref b52), .val (.int (chV (orB (0 : Int32) (byB a)))), .val (.int (chV (orB (0 : Int32) (byB b)))), .val (.int (chV (orB (0 : Int32) (byB c_)))), .val (.int (chV (orB (orB (orB (0 : Int32) (byB a)) (byB b)) (byB c_)))), .val (.int ((0 : Int32) ||| (chV (orB (0 : Int32) (byB a)))))] [(.int (((0 : Int32) ||| (chV (orB (0 : Int32) (byB a)))) ||| (chV (orB (0 : Int32) (byB b)))))]))
    refine Gl.go (fun _ k => XS.istore X59.here hx rfl (hb hby at_130) rfl (l' := #[.val (.int a), .val (.int b), .val (.int c_), .val (.int d), .val (.int (3 : Int32)), .val (.ref b46), .val (.ref b48), .val (.ref b50), .val (.ref b52), .val (.int (chV (orB (0 : Int32) (byB a)))), .val (.int (chV (orB (0 : Int32) (byB b)))), .val (.int (chV (orB (0 : Int32) (byB c_)))), .val (.int (chV (orB (orB (orB (0 : Int32) (byB a)) (byB b)) (byB c_)))), .val (.int (((0 : Int32) ||| (chV (orB (0 : Int32) (byB a)))) ||| (chV (orB (0 : Int32) (byB b)))))]) rfl k) ?_
    show Gl p.tables e below (QQof s (Q_law Z a b c_ d h0 n0) 4 6) (T59.setTop (mkF m 132 #[.val (.int a), .val (.int b), .val (.int c_), .val (.int d), .val (.int (3 : Int32)), .val (.ref b46), .val (.ref b48), .val (.ref b50), .val (.ref b52), .val (.int (chV (orB (0 : Int32) (byB a)))), .val (.int (chV (orB (0 : Int32) (byB b)))), .val (.int (chV (orB (0 : Int32) (byB c_)))), .val (.int (chV (orB (orB (orB (0 : Int32) (byB a)) (byB b)) (byB c_)))), .val (.int (((0 : Int32) ||| (chV (orB (0 : Int32) (byB a)))) ||| (chV (orB (0 : Int32) (byB b)))))] []))
    refine Gl.go (fun _ k => XS.iload X59.here hx rfl (hb hby at_132) rfl  k) ?_
    show Gl p.tables e below (QQof s (Q_law Z a b c_ d h0 n0) 4 6) (T59.setTop (mkF m 134 #[.val (.int a), .val (.int b), .val (.int c_), .val (.int d), .val (.int (3 : Int32)), .val (.ref b46), .val (.ref b48), .val (.ref b50), .val (.ref b52), .val (.int (chV (orB (0 : Int32) (byB a)))), .val (.int (chV (orB (0 : Int32) (byB b)))), .val (.int (chV (orB (0 : Int32) (byB c_)))), .val (.int (chV (orB (orB (orB (0 : Int32) (byB a)) (byB b)) (byB c_)))), .val (.int (((0 : Int32) ||| (chV (orB (0 : Int32) (byB a)))) ||| (chV (orB (0 : Int32) (byB b)))))] [(.int (3 : Int32))]))
    refine Gl.go (fun _ k => XS.iconst X59.here hx rfl (hb hby at_134) k) ?_
    show Gl p.tables e below (QQof s (Q_law Z a b c_ d h0 n0) 4 6) (T59.setTop (mkF m 135 #[.val (.int a), .val (.int b), .val (.int c_), .val (.int d), .val (.int (3 : Int32)), .val (.ref b46), .val (.ref b48), .val (.ref b50), .val (.ref b52), .val (.int (chV (orB (0 : Int32) (byB a)))), .val (.int (chV (orB (0 : Int32) (byB b)))), .val (.int (chV (orB (0 : Int32) (byB c_)))), .val (.int (chV (orB (orB (orB (0 : Int32) (byB a)) (byB b)) (byB c_)))), .val (.int (((0 : Int32) ||| (chV (orB (0 : Int32) (byB a)))) ||| (chV (orB (0 : Int32) (byB b)))))] [(.int (2 : Int32)), (.int (3 : Int32))]))
    refine Gl.go (fun _ k => XS.icmpNo X59.here hx rfl (hb hby at_135) rfl (tlt (by decide)).2.2.2 k) ?_
    show Gl p.tables e below (QQof s (Q_law Z a b c_ d h0 n0) 4 6) (T59.setTop (mkF m 138 #[.val (.int a), .val (.int b), .val (.int c_), .val (.int d), .val (.int (3 : Int32)), .val (.ref b46), .val (.ref b48), .val (.ref b50), .val (.ref b52), .val (.int (chV (orB (0 : Int32) (byB a)))), .val (.int (chV (orB (0 : Int32) (byB b)))), .val (.int (chV (orB (0 : Int32) (byB c_)))), .val (.int (chV (orB (orB (orB (0 : Int32) (byB a)) (byB b)) (byB c_)))), .val (.int (((0 : Int32) ||| (chV (orB (0 : Int32) (byB a)))) ||| (chV (orB (0 : Int32) (byB b)))))] []))
    refine Gl.go (fun _ k => XS.iload X59.here hx rfl (hb hby at_138) rfl  k) ?_
    show Gl p.tables e below (QQof s (Q_law Z a b c_ d h0 n0) 4 6) (T59.setTop (mkF m 140 #[.val (.int a), .val (.int b), .val (.int c_), .val (.int d), .val (.int (3 : Int32)), .val (.ref b46), .val (.ref b48), .val (.ref b50), .val (.ref b52), .val (.int (chV (orB (0 : Int32) (byB a)))), .val (.int (chV (orB (0 : Int32) (byB b)))), .val (.int (chV (orB (0 : Int32) (byB c_)))), .val (.int (chV (orB (orB (orB (0 : Int32) (byB a)) (byB b)) (byB c_)))), .val (.int (((0 : Int32) ||| (chV (orB (0 : Int32) (byB a)))) ||| (chV (orB (0 : Int32) (byB b)))))] [(.int (((0 : Int32) ||| (chV (orB (0 : Int32) (byB a)))) ||| (chV (orB (0 : Int32) (byB b)))))]))
    refine Gl.go (fun _ k => XS.iload X59.here hx rfl (hb hby at_140) rfl  k) ?_
    show Gl p.tables e below (QQof s (Q_law Z a b c_ d h0 n0) 4 6) (T59.setTop (mkF m 142 #[.val (.int a), .val (.int b), .val (.int c_), .val (.int d), .val (.int (3 : Int32)), .val (.ref b46), .val (.ref b48), .val (.ref b50), .val (.ref b52), .val (.int (chV (orB (0 : Int32) (byB a)))), .val (.int (chV (orB (0 : Int32) (byB b)))), .val (.int (chV (orB (0 : Int32) (byB c_)))), .val (.int (chV (orB (orB (orB (0 : Int32) (byB a)) (byB b)) (byB c_)))), .val (.int (((0 : Int32) ||| (chV (orB (0 : Int32) (byB a)))) ||| (chV (orB (0 : Int32) (byB b)))))] [(.int (chV (orB (0 : Int32) (byB c_)))), (.int (((0 : Int32) ||| (chV (orB (0 : Int32) (byB a)))) ||| (chV (orB (0 : Int32) (byB b)))))]))
    refine Gl.go (fun _ k => XS.ior X59.here hx rfl (hb hby at_142) rfl k) ?_
    show Gl p.tables e below (QQof s (Q_law Z a b c_ d h0 n0) 4 6) (T59.setTop (mkF m 143 #[.val (.int a), .val (.int b), .val (.int c_), .val (.int d), .val (.int (3 : Int32)), .val (.ref b46), .val (.ref b48), .val (.ref b50), .val (.ref b52), .val (.int (chV (orB (0 : Int32) (byB a)))), .val (.int (chV (orB (0 : Int32) (byB b)))), .val (.int (chV (orB (0 : Int32) (byB c_)))), .val (.int (chV (orB (orB (orB (0 : Int32) (byB a)) (byB b)) (byB c_)))), .val (.int (((0 : Int32) ||| (chV (orB (0 : Int32) (byB a)))) ||| (chV (orB (0 : Int32) (byB b)))))] [(.int ((((0 : Int32) ||| (chV (orB (0 : Int32) (byB a)))) ||| (chV (orB (0 : Int32) (byB b)))) ||| (chV (orB (0 : Int32) (byB c_)))))]))
    refine Gl.go (fun _ k => XS.istore X59.here hx rfl (hb hby at_143) rfl (l' := #[.val (.int a), .val (.int b), .val (.int c_), .val (.int d), .val (.int (3 : Int32)), .val (.ref b46), .val (.ref b48), .val (.ref b50), .val (.ref b52), .val (.int (chV (orB (0 : Int32) (byB a)))), .val (.int (chV (orB (0 : Int32) (byB b)))), .val (.int (chV (orB (0 : Int32) (byB c_)))), .val (.int (chV (orB (orB (orB (0 : Int32) (byB a)) (byB b)) (byB c_)))), .val (.int ((((0 : Int32) ||| (chV (orB (0 : Int32) (byB a)))) ||| (chV (orB (0 : Int32) (byB b)))) ||| (chV (orB (0 : Int32) (byB c_)))))]) rfl k) ?_
    show Gl p.tables e below (QQof s (Q_law Z a b c_ d h0 n0) 4 6) (T59.setTop (mkF m 145 #[.val (.int a), .val (.int b), .val (.int c_), .val (.int d), .val (.int (3 : Int32)), .val (.ref b46), .val (.ref b48), .val (.ref b50), .val (.ref b52), .val (.int (chV (orB (0 : Int32) (byB a)))), .val (.int (chV (orB (0 : Int32) (byB b)))), .val (.int (chV (orB (0 : Int32) (byB c_)))), .val (.int (chV (orB (orB (orB (0 : Int32) (byB a)) (byB b)) (byB c_)))), .val (.int ((((0 : Int32) ||| (chV (orB (0 : Int32) (byB a)))) ||| (chV (orB (0 : Int32) (byB b)))) ||| (chV (orB (0 : Int32) (byB c_)))))] []))
    refine Gl.go (fun _ k => XS.iloadN X59.here hx rfl (hb hby at_145) rfl  k) ?_
    show Gl p.tables e below (QQof s (Q_law Z a b c_ d h0 n0) 4 6) (T59.setTop (mkF m 146 #[.val (.int a), .val (.int b), .val (.int c_), .val (.int d), .val (.int (3 : Int32)), .val (.ref b46), .val (.ref b48), .val (.ref b50), .val (.ref b52), .val (.int (chV (orB (0 : Int32) (byB a)))), .val (.int (chV (orB (0 : Int32) (byB b)))), .val (.int (chV (orB (0 : Int32) (byB c_)))), .val (.int (chV (orB (orB (orB (0 : Int32) (byB a)) (byB b)) (byB c_)))), .val (.int ((((0 : Int32) ||| (chV (orB (0 : Int32) (byB a)))) ||| (chV (orB (0 : Int32) (byB b)))) ||| (chV (orB (0 : Int32) (byB c_)))))] [(.int a)]))
    refine Gl.go (fun _ k => XS.iload X59.here hx rfl (hb hby at_146) rfl  k) ?_
    show Gl p.tables e below (QQof s (Q_law Z a b c_ d h0 n0) 4 6) (T59.setTop (mkF m 148 #[.val (.int a), .val (.int b), .val (.int c_), .val (.int d), .val (.int (3 : Int32)), .val (.ref b46), .val (.ref b48), .val (.ref b50), .val (.ref b52), .val (.int (chV (orB (0 : Int32) (byB a)))), .val (.int (chV (orB (0 : Int32) (byB b)))), .val (.int (chV (orB (0 : Int32) (byB c_)))), .val (.int (chV (orB (orB (orB (0 : Int32) (byB a)) (byB b)) (byB c_)))), .val (.int ((((0 : Int32) ||| (chV (orB (0 : Int32) (byB a)))) ||| (chV (orB (0 : Int32) (byB b)))) ||| (chV (orB (0 : Int32) (byB c_)))))] [(.int (chV (orB (0 : Int32) (byB a)))), (.int a)]))
    obtain ⟨_, _, ⟨T60, L60, k60, n60⟩, -, X60, ⟨Lc60, hQ60, l60, y60, z60⟩, st60⟩ := Jvm.LawKit.callS X59 hx (y := (⟨"com/example/aloud/aloud/PathPatternByteClassesPinLaw", "single", "(II)Z"⟩ : MethodName)) hown (mvT hZ (hw _ (List.mem_of_getElem? (i := 5) rfl))) (mvT hZ (hw _ (List.mem_of_getElem? (i := 6) rfl))) (mvT hZ (hw _ (List.mem_of_getElem? (i := 7) rfl))) (mvT hZ (hw _ (List.mem_of_getElem? (i := 8) rfl))) (by decide) (backOf (W := 0) (rm_sg l Z a0 hw [] a (chV (orB (0 : Int32) (byB a))) h55 n0 SZ55 ) hZ (hw _ (List.mem_of_getElem? (i := 8) rfl)) (hw _ (List.mem_of_getElem? (i := 7) rfl)) (by decide) (by decide)) (g := (mkF m 148 #[.val (.int a), .val (.int b), .val (.int c_), .val (.int d), .val (.int (3 : Int32)), .val (.ref b46), .val (.ref b48), .val (.ref b50), .val (.ref b52), .val (.int (chV (orB (0 : Int32) (byB a)))), .val (.int (chV (orB (0 : Int32) (byB b)))), .val (.int (chV (orB (0 : Int32) (byB c_)))), .val (.int (chV (orB (orB (orB (0 : Int32) (byB a)) (byB b)) (byB c_)))), .val (.int ((((0 : Int32) ||| (chV (orB (0 : Int32) (byB a)))) ||| (chV (orB (0 : Int32) (byB b)))) ||| (chV (orB (0 : Int32) (byB c_)))))] [(.int (chV (orB (0 : Int32) (byB a)))), (.int a)])) rfl (by rw [hml]; rfl) (argsL := [(.int a), (.int (chV (orB (0 : Int32) (byB a))))]) (rest := []) (lenOf pd_1 rfl) rfl (by show 2 * 0 + _ ≤ _; exact Nat.le_of_eq rfl) (hb hby at_148) (fun _ _ => ⟨rfl, e59, (by decide : 4 + 0 ≤ _), (by decide : 6 + 0 ≤ _)⟩)
    dsimp only [Pt.U, Pt.locs, Pt.cells, Pt.slots] at X60 l60 y60 z60 st60 hQ60
    subst l60 y60 z60
    obtain ⟨rfl, Nq60, e60⟩ := hQ60
    have N60 := Fr.app N59 Nq60
    refine Gl.go (fun _ k => st60 _ k) ?_
    show Gl p.tables e below (QQof s (Q_law Z a b c_ d h0 n0) 4 6) (T60.setTop (mkF m 151 #[.val (.int a), .val (.int b), .val (.int c_), .val (.int d), .val (.int (3 : Int32)), .val (.ref b46), .val (.ref b48), .val (.ref b50), .val (.ref b52), .val (.int (chV (orB (0 : Int32) (byB a)))), .val (.int (chV (orB (0 : Int32) (byB b)))), .val (.int (chV (orB (0 : Int32) (byB c_)))), .val (.int (chV (orB (orB (orB (0 : Int32) (byB a)) (byB b)) (byB c_)))), .val (.int ((((0 : Int32) ||| (chV (orB (0 : Int32) (byB a)))) ||| (chV (orB (0 : Int32) (byB b)))) ||| (chV (orB (0 : Int32) (byB c_)))))] [(.int (sgV a (chV (orB (0 : Int32) (byB a)))))]))
    rw [(own_sg a : (sgV a (chV (orB (0 : Int32) (byB a)))) = (1 : Int32))]
    show Gl p.tables e below (QQof s (Q_law Z a b c_ d h0 n0) 4 6) (T60.setTop (mkF m 151 #[.val (.int a), .val (.int b), .val (.int c_), .val (.int d), .val (.int (3 : Int32)), .val (.ref b46), .val (.ref b48), .val (.ref b50), .val (.ref b52), .val (.int (chV (orB (0 : Int32) (byB a)))), .val (.int (chV (orB (0 : Int32) (byB b)))), .val (.int (chV (orB (0 : Int32) (byB c_)))), .val (.int (chV (orB (orB (orB (0 : Int32) (byB a)) (byB b)) (byB c_)))), .val (.int ((((0 : Int32) ||| (chV (orB (0 : Int32) (byB a)))) ||| (chV (orB (0 : Int32) (byB b)))) ||| (chV (orB (0 : Int32) (byB c_)))))] [(.int (1 : Int32))]))
    refine Gl.go (fun _ k => XS.ifNo X60.here hx rfl (hb hby at_151) rfl ((if0 _ _).trans (feq (by decide)).1) k) ?_
    show Gl p.tables e below (QQof s (Q_law Z a b c_ d h0 n0) 4 6) (T60.setTop (mkF m 154 #[.val (.int a), .val (.int b), .val (.int c_), .val (.int d), .val (.int (3 : Int32)), .val (.ref b46), .val (.ref b48), .val (.ref b50), .val (.ref b52), .val (.int (chV (orB (0 : Int32) (byB a)))), .val (.int (chV (orB (0 : Int32) (byB b)))), .val (.int (chV (orB (0 : Int32) (byB c_)))), .val (.int (chV (orB (orB (orB (0 : Int32) (byB a)) (byB b)) (byB c_)))), .val (.int ((((0 : Int32) ||| (chV (orB (0 : Int32) (byB a)))) ||| (chV (orB (0 : Int32) (byB b)))) ||| (chV (orB (0 : Int32) (byB c_)))))] []))
    refine Gl.go (fun _ k => XS.iloadN X60.here hx rfl (hb hby at_154) rfl  k) ?_
    show Gl p.tables e below (QQof s (Q_law Z a b c_ d h0 n0) 4 6) (T60.setTop (mkF m 155 #[.val (.int a), .val (.int b), .val (.int c_), .val (.int d), .val (.int (3 : Int32)), .val (.ref b46), .val (.ref b48), .val (.ref b50), .val (.ref b52), .val (.int (chV (orB (0 : Int32) (byB a)))), .val (.int (chV (orB (0 : Int32) (byB b)))), .val (.int (chV (orB (0 : Int32) (byB c_)))), .val (.int (chV (orB (orB (orB (0 : Int32) (byB a)) (byB b)) (byB c_)))), .val (.int ((((0 : Int32) ||| (chV (orB (0 : Int32) (byB a)))) ||| (chV (orB (0 : Int32) (byB b)))) ||| (chV (orB (0 : Int32) (byB c_)))))] [(.int b)]))
    refine Gl.go (fun _ k => XS.iload X60.here hx rfl (hb hby at_155) rfl  k) ?_
    show Gl p.tables e below (QQof s (Q_law Z a b c_ d h0 n0) 4 6) (T60.setTop (mkF m 157 #[.val (.int a), .val (.int b), .val (.int c_), .val (.int d), .val (.int (3 : Int32)), .val (.ref b46), .val (.ref b48), .val (.ref b50), .val (.ref b52), .val (.int (chV (orB (0 : Int32) (byB a)))), .val (.int (chV (orB (0 : Int32) (byB b)))), .val (.int (chV (orB (0 : Int32) (byB c_)))), .val (.int (chV (orB (orB (orB (0 : Int32) (byB a)) (byB b)) (byB c_)))), .val (.int ((((0 : Int32) ||| (chV (orB (0 : Int32) (byB a)))) ||| (chV (orB (0 : Int32) (byB b)))) ||| (chV (orB (0 : Int32) (byB c_)))))] [(.int (chV (orB (0 : Int32) (byB b)))), (.int b)]))
    obtain ⟨_, _, ⟨T61, L61, k61, n61⟩, -, X61, ⟨Lc61, hQ61, l61, y61, z61⟩, st61⟩ := Jvm.LawKit.callS X60 hx (y := (⟨"com/example/aloud/aloud/PathPatternByteClassesPinLaw", "single", "(II)Z"⟩ : MethodName)) hown (mvT hZ (hw _ (List.mem_of_getElem? (i := 5) rfl))) (mvT hZ (hw _ (List.mem_of_getElem? (i := 6) rfl))) (mvT hZ (hw _ (List.mem_of_getElem? (i := 7) rfl))) (mvT hZ (hw _ (List.mem_of_getElem? (i := 8) rfl))) (by decide) (backOf (W := 0) (rm_sg l Z a0 hw [] b (chV (orB (0 : Int32) (byB b))) h55 n0 SZ55 ) hZ (hw _ (List.mem_of_getElem? (i := 8) rfl)) (hw _ (List.mem_of_getElem? (i := 7) rfl)) (by decide) (by decide)) (g := (mkF m 157 #[.val (.int a), .val (.int b), .val (.int c_), .val (.int d), .val (.int (3 : Int32)), .val (.ref b46), .val (.ref b48), .val (.ref b50), .val (.ref b52), .val (.int (chV (orB (0 : Int32) (byB a)))), .val (.int (chV (orB (0 : Int32) (byB b)))), .val (.int (chV (orB (0 : Int32) (byB c_)))), .val (.int (chV (orB (orB (orB (0 : Int32) (byB a)) (byB b)) (byB c_)))), .val (.int ((((0 : Int32) ||| (chV (orB (0 : Int32) (byB a)))) ||| (chV (orB (0 : Int32) (byB b)))) ||| (chV (orB (0 : Int32) (byB c_)))))] [(.int (chV (orB (0 : Int32) (byB b)))), (.int b)])) rfl (by rw [hml]; rfl) (argsL := [(.int b), (.int (chV (orB (0 : Int32) (byB b))))]) (rest := []) (lenOf pd_1 rfl) rfl (by show 2 * 0 + _ ≤ _; exact Nat.le_of_eq rfl) (hb hby at_157) (fun _ _ => ⟨rfl, e60, (by decide : 4 + 0 ≤ _), (by decide : 6 + 0 ≤ _)⟩)
    dsimp only [Pt.U, Pt.locs, Pt.cells, Pt.slots] at X61 l61 y61 z61 st61 hQ61
    subst l61 y61 z61
    obtain ⟨rfl, Nq61, e61⟩ := hQ61
    have N61 := Fr.app N60 Nq61
    refine Gl.go (fun _ k => st61 _ k) ?_
    show Gl p.tables e below (QQof s (Q_law Z a b c_ d h0 n0) 4 6) (T61.setTop (mkF m 160 #[.val (.int a), .val (.int b), .val (.int c_), .val (.int d), .val (.int (3 : Int32)), .val (.ref b46), .val (.ref b48), .val (.ref b50), .val (.ref b52), .val (.int (chV (orB (0 : Int32) (byB a)))), .val (.int (chV (orB (0 : Int32) (byB b)))), .val (.int (chV (orB (0 : Int32) (byB c_)))), .val (.int (chV (orB (orB (orB (0 : Int32) (byB a)) (byB b)) (byB c_)))), .val (.int ((((0 : Int32) ||| (chV (orB (0 : Int32) (byB a)))) ||| (chV (orB (0 : Int32) (byB b)))) ||| (chV (orB (0 : Int32) (byB c_)))))] [(.int (sgV b (chV (orB (0 : Int32) (byB b)))))]))
    rw [(own_sg b : (sgV b (chV (orB (0 : Int32) (byB b)))) = (1 : Int32))]
    show Gl p.tables e below (QQof s (Q_law Z a b c_ d h0 n0) 4 6) (T61.setTop (mkF m 160 #[.val (.int a), .val (.int b), .val (.int c_), .val (.int d), .val (.int (3 : Int32)), .val (.ref b46), .val (.ref b48), .val (.ref b50), .val (.ref b52), .val (.int (chV (orB (0 : Int32) (byB a)))), .val (.int (chV (orB (0 : Int32) (byB b)))), .val (.int (chV (orB (0 : Int32) (byB c_)))), .val (.int (chV (orB (orB (orB (0 : Int32) (byB a)) (byB b)) (byB c_)))), .val (.int ((((0 : Int32) ||| (chV (orB (0 : Int32) (byB a)))) ||| (chV (orB (0 : Int32) (byB b)))) ||| (chV (orB (0 : Int32) (byB c_)))))] [(.int (1 : Int32))]))
    refine Gl.go (fun _ k => XS.ifNo X61.here hx rfl (hb hby at_160) rfl ((if0 _ _).trans (feq (by decide)).1) k) ?_
    show Gl p.tables e below (QQof s (Q_law Z a b c_ d h0 n0) 4 6) (T61.setTop (mkF m 163 #[.val (.int a), .val (.int b), .val (.int c_), .val (.int d), .val (.int (3 : Int32)), .val (.ref b46), .val (.ref b48), .val (.ref b50), .val (.ref b52), .val (.int (chV (orB (0 : Int32) (byB a)))), .val (.int (chV (orB (0 : Int32) (byB b)))), .val (.int (chV (orB (0 : Int32) (byB c_)))), .val (.int (chV (orB (orB (orB (0 : Int32) (byB a)) (byB b)) (byB c_)))), .val (.int ((((0 : Int32) ||| (chV (orB (0 : Int32) (byB a)))) ||| (chV (orB (0 : Int32) (byB b)))) ||| (chV (orB (0 : Int32) (byB c_)))))] []))
    refine Gl.go (fun _ k => XS.iloadN X61.here hx rfl (hb hby at_163) rfl  k) ?_
    show Gl p.tables e below (QQof s (Q_law Z a b c_ d h0 n0) 4 6) (T61.setTop (mkF m 164 #[.val (.int a), .val (.int b), .val (.int c_), .val (.int d), .val (.int (3 : Int32)), .val (.ref b46), .val (.ref b48), .val (.ref b50), .val (.ref b52), .val (.int (chV (orB (0 : Int32) (byB a)))), .val (.int (chV (orB (0 : Int32) (byB b)))), .val (.int (chV (orB (0 : Int32) (byB c_)))), .val (.int (chV (orB (orB (orB (0 : Int32) (byB a)) (byB b)) (byB c_)))), .val (.int ((((0 : Int32) ||| (chV (orB (0 : Int32) (byB a)))) ||| (chV (orB (0 : Int32) (byB b)))) ||| (chV (orB (0 : Int32) (byB c_)))))] [(.int c_)]))
    refine Gl.go (fun _ k => XS.iload X61.here hx rfl (hb hby at_164) rfl  k) ?_
    show Gl p.tables e below (QQof s (Q_law Z a b c_ d h0 n0) 4 6) (T61.setTop (mkF m 166 #[.val (.int a), .val (.int b), .val (.int c_), .val (.int d), .val (.int (3 : Int32)), .val (.ref b46), .val (.ref b48), .val (.ref b50), .val (.ref b52), .val (.int (chV (orB (0 : Int32) (byB a)))), .val (.int (chV (orB (0 : Int32) (byB b)))), .val (.int (chV (orB (0 : Int32) (byB c_)))), .val (.int (chV (orB (orB (orB (0 : Int32) (byB a)) (byB b)) (byB c_)))), .val (.int ((((0 : Int32) ||| (chV (orB (0 : Int32) (byB a)))) ||| (chV (orB (0 : Int32) (byB b)))) ||| (chV (orB (0 : Int32) (byB c_)))))] [(.int (chV (orB (0 : Int32) (byB c_)))), (.int c_)]))
    obtain ⟨_, _, ⟨T62, L62, k62, n62⟩, -, X62, ⟨Lc62, hQ62, l62, y62, z62⟩, st62⟩ := Jvm.LawKit.callS X61 hx (y := (⟨"com/example/aloud/aloud/PathPatternByteClassesPinLaw", "single", "(II)Z"⟩ : MethodName)) hown (mvT hZ (hw _ (List.mem_of_getElem? (i := 5) rfl))) (mvT hZ (hw _ (List.mem_of_getElem? (i := 6) rfl))) (mvT hZ (hw _ (List.mem_of_getElem? (i := 7) rfl))) (mvT hZ (hw _ (List.mem_of_getElem? (i := 8) rfl))) (by decide) (backOf (W := 0) (rm_sg l Z a0 hw [] c_ (chV (orB (0 : Int32) (byB c_))) h55 n0 SZ55 ) hZ (hw _ (List.mem_of_getElem? (i := 8) rfl)) (hw _ (List.mem_of_getElem? (i := 7) rfl)) (by decide) (by decide)) (g := (mkF m 166 #[.val (.int a), .val (.int b), .val (.int c_), .val (.int d), .val (.int (3 : Int32)), .val (.ref b46), .val (.ref b48), .val (.ref b50), .val (.ref b52), .val (.int (chV (orB (0 : Int32) (byB a)))), .val (.int (chV (orB (0 : Int32) (byB b)))), .val (.int (chV (orB (0 : Int32) (byB c_)))), .val (.int (chV (orB (orB (orB (0 : Int32) (byB a)) (byB b)) (byB c_)))), .val (.int ((((0 : Int32) ||| (chV (orB (0 : Int32) (byB a)))) ||| (chV (orB (0 : Int32) (byB b)))) ||| (chV (orB (0 : Int32) (byB c_)))))] [(.int (chV (orB (0 : Int32) (byB c_)))), (.int c_)])) rfl (by rw [hml]; rfl) (argsL := [(.int c_), (.int (chV (orB (0 : Int32) (byB c_))))]) (rest := []) (lenOf pd_1 rfl) rfl (by show 2 * 0 + _ ≤ _; exact Nat.le_of_eq rfl) (hb hby at_166) (fun _ _ => ⟨rfl, e61, (by decide : 4 + 0 ≤ _), (by decide : 6 + 0 ≤ _)⟩)
    dsimp only [Pt.U, Pt.locs, Pt.cells, Pt.slots] at X62 l62 y62 z62 st62 hQ62
    subst l62 y62 z62
    obtain ⟨rfl, Nq62, e62⟩ := hQ62
    have N62 := Fr.app N61 Nq62
    refine Gl.go (fun _ k => st62 _ k) ?_
    show Gl p.tables e below (QQof s (Q_law Z a b c_ d h0 n0) 4 6) (T62.setTop (mkF m 169 #[.val (.int a), .val (.int b), .val (.int c_), .val (.int d), .val (.int (3 : Int32)), .val (.ref b46), .val (.ref b48), .val (.ref b50), .val (.ref b52), .val (.int (chV (orB (0 : Int32) (byB a)))), .val (.int (chV (orB (0 : Int32) (byB b)))), .val (.int (chV (orB (0 : Int32) (byB c_)))), .val (.int (chV (orB (orB (orB (0 : Int32) (byB a)) (byB b)) (byB c_)))), .val (.int ((((0 : Int32) ||| (chV (orB (0 : Int32) (byB a)))) ||| (chV (orB (0 : Int32) (byB b)))) ||| (chV (orB (0 : Int32) (byB c_)))))] [(.int (sgV c_ (chV (orB (0 : Int32) (byB c_)))))]))
    rw [(own_sg c_ : (sgV c_ (chV (orB (0 : Int32) (byB c_)))) = (1 : Int32))]
    show Gl p.tables e below (QQof s (Q_law Z a b c_ d h0 n0) 4 6) (T62.setTop (mkF m 169 #[.val (.int a), .val (.int b), .val (.int c_), .val (.int d), .val (.int (3 : Int32)), .val (.ref b46), .val (.ref b48), .val (.ref b50), .val (.ref b52), .val (.int (chV (orB (0 : Int32) (byB a)))), .val (.int (chV (orB (0 : Int32) (byB b)))), .val (.int (chV (orB (0 : Int32) (byB c_)))), .val (.int (chV (orB (orB (orB (0 : Int32) (byB a)) (byB b)) (byB c_)))), .val (.int ((((0 : Int32) ||| (chV (orB (0 : Int32) (byB a)))) ||| (chV (orB (0 : Int32) (byB b)))) ||| (chV (orB (0 : Int32) (byB c_)))))] [(.int (1 : Int32))]))
    refine Gl.go (fun _ k => XS.ifNo X62.here hx rfl (hb hby at_169) rfl ((if0 _ _).trans (feq (by decide)).1) k) ?_
    show Gl p.tables e below (QQof s (Q_law Z a b c_ d h0 n0) 4 6) (T62.setTop (mkF m 172 #[.val (.int a), .val (.int b), .val (.int c_), .val (.int d), .val (.int (3 : Int32)), .val (.ref b46), .val (.ref b48), .val (.ref b50), .val (.ref b52), .val (.int (chV (orB (0 : Int32) (byB a)))), .val (.int (chV (orB (0 : Int32) (byB b)))), .val (.int (chV (orB (0 : Int32) (byB c_)))), .val (.int (chV (orB (orB (orB (0 : Int32) (byB a)) (byB b)) (byB c_)))), .val (.int ((((0 : Int32) ||| (chV (orB (0 : Int32) (byB a)))) ||| (chV (orB (0 : Int32) (byB b)))) ||| (chV (orB (0 : Int32) (byB c_)))))] []))
    refine Gl.go (fun _ k => XS.iload X62.here hx rfl (hb hby at_172) rfl  k) ?_
    show Gl p.tables e below (QQof s (Q_law Z a b c_ d h0 n0) 4 6) (T62.setTop (mkF m 174 #[.val (.int a), .val (.int b), .val (.int c_), .val (.int d), .val (.int (3 : Int32)), .val (.ref b46), .val (.ref b48), .val (.ref b50), .val (.ref b52), .val (.int (chV (orB (0 : Int32) (byB a)))), .val (.int (chV (orB (0 : Int32) (byB b)))), .val (.int (chV (orB (0 : Int32) (byB c_)))), .val (.int (chV (orB (orB (orB (0 : Int32) (byB a)) (byB b)) (byB c_)))), .val (.int ((((0 : Int32) ||| (chV (orB (0 : Int32) (byB a)))) ||| (chV (orB (0 : Int32) (byB b)))) ||| (chV (orB (0 : Int32) (byB c_)))))] [(.int (chV (orB (orB (orB (0 : Int32) (byB a)) (byB b)) (byB c_))))]))
    refine Gl.go (fun _ k => XS.iload X62.here hx rfl (hb hby at_174) rfl  k) ?_
    show Gl p.tables e below (QQof s (Q_law Z a b c_ d h0 n0) 4 6) (T62.setTop (mkF m 176 #[.val (.int a), .val (.int b), .val (.int c_), .val (.int d), .val (.int (3 : Int32)), .val (.ref b46), .val (.ref b48), .val (.ref b50), .val (.ref b52), .val (.int (chV (orB (0 : Int32) (byB a)))), .val (.int (chV (orB (0 : Int32) (byB b)))), .val (.int (chV (orB (0 : Int32) (byB c_)))), .val (.int (chV (orB (orB (orB (0 : Int32) (byB a)) (byB b)) (byB c_)))), .val (.int ((((0 : Int32) ||| (chV (orB (0 : Int32) (byB a)))) ||| (chV (orB (0 : Int32) (byB b)))) ||| (chV (orB (0 : Int32) (byB c_)))))] [(.int ((((0 : Int32) ||| (chV (orB (0 : Int32) (byB a)))) ||| (chV (orB (0 : Int32) (byB b)))) ||| (chV (orB (0 : Int32) (byB c_))))), (.int (chV (orB (orB (orB (0 : Int32) (byB a)) (byB b)) (byB c_))))]))
    refine Gl.go (fun _ k => XS.icmpNo X62.here hx rfl (hb hby at_176) rfl (teq (by rw [own_or (orB (orB 0 (byB a)) (byB b)) (byB c_), own_ch_or, own_or (orB 0 (byB a)) (byB b), own_ch_or, Int32.zero_or])).2 k) ?_
    show Gl p.tables e below (QQof s (Q_law Z a b c_ d h0 n0) 4 6) (T62.setTop (mkF m 179 #[.val (.int a), .val (.int b), .val (.int c_), .val (.int d), .val (.int (3 : Int32)), .val (.ref b46), .val (.ref b48), .val (.ref b50), .val (.ref b52), .val (.int (chV (orB (0 : Int32) (byB a)))), .val (.int (chV (orB (0 : Int32) (byB b)))), .val (.int (chV (orB (0 : Int32) (byB c_)))), .val (.int (chV (orB (orB (orB (0 : Int32) (byB a)) (byB b)) (byB c_)))), .val (.int ((((0 : Int32) ||| (chV (orB (0 : Int32) (byB a)))) ||| (chV (orB (0 : Int32) (byB b)))) ||| (chV (orB (0 : Int32) (byB c_)))))] []))
    refine Gl.go (fun _ k => XS.iconst X62.here hx rfl (hb hby at_179) k) ?_
    show Gl p.tables e below (QQof s (Q_law Z a b c_ d h0 n0) 4 6) (T62.setTop (mkF m 180 #[.val (.int a), .val (.int b), .val (.int c_), .val (.int d), .val (.int (3 : Int32)), .val (.ref b46), .val (.ref b48), .val (.ref b50), .val (.ref b52), .val (.int (chV (orB (0 : Int32) (byB a)))), .val (.int (chV (orB (0 : Int32) (byB b)))), .val (.int (chV (orB (0 : Int32) (byB c_)))), .val (.int (chV (orB (orB (orB (0 : Int32) (byB a)) (byB b)) (byB c_)))), .val (.int ((((0 : Int32) ||| (chV (orB (0 : Int32) (byB a)))) ||| (chV (orB (0 : Int32) (byB b)))) ||| (chV (orB (0 : Int32) (byB c_)))))] [(.int (1 : Int32))]))
    refine Gl.go (fun _ k => XS.goto X62.here hx rfl (pc0 := 180) (pc' := 184) rfl (hb hby at_180) (by decide) (by decide) k) ?_
    show Gl p.tables e below (QQof s (Q_law Z a b c_ d h0 n0) 4 6) (T62.setTop (mkF m 184 #[.val (.int a), .val (.int b), .val (.int c_), .val (.int d), .val (.int (3 : Int32)), .val (.ref b46), .val (.ref b48), .val (.ref b50), .val (.ref b52), .val (.int (chV (orB (0 : Int32) (byB a)))), .val (.int (chV (orB (0 : Int32) (byB b)))), .val (.int (chV (orB (0 : Int32) (byB c_)))), .val (.int (chV (orB (orB (orB (0 : Int32) (byB a)) (byB b)) (byB c_)))), .val (.int ((((0 : Int32) ||| (chV (orB (0 : Int32) (byB a)))) ||| (chV (orB (0 : Int32) (byB b)))) ||| (chV (orB (0 : Int32) (byB c_)))))] [(.int (1 : Int32))]))
    refine leafN X62 hx hlk (t := .boolean) Bd.returns (by simp) (hb hby at_184) ?_ (by decide) (by decide)
    exact ⟨rfl, N62⟩
set_option maxRecDepth 65536 in
set_option maxHeartbeats 40000000 in
theorem comes_1 {Post : Tables → Env → Array Value → State → Outcome → State → Prop} (hpost : ∀ tb e args s v u, (limb_1_1.after args s (.returned v) u = true ∧ limb_1_2.after args s (.returned v) u = true ∧ True) → FrameEnd s (.returned v) u (Jvm.fieldLocs frame_1_writes args s ++ Jvm.arrayLocs frame_1_arrays args s ++ Jvm.staticLocs frame_1_statics s) 16 128 → Post tb e args s (.returned v) u) :
    ArmFor flags0 classFile x code maxLocals ret World_1 tables_1 room_1 Calls_1 rest_1 Pre_1 Post := by
  intro l hfl _ _ p e ha hc hk s m args below hf hA hF happ hP
  obtain ⟨hcalls, hrest, hpre⟩ := hP
  obtain ⟨-, -, -, hnamed, -, -, -, hat⟩ := (Spec.applies_iff hf).mp happ
  obtain ⟨hg, hn⟩ := and_e (Cond.before_iff.mp (show (Jvm.Cond.and given_1 narrow_1).before args s = true from hpre))
  obtain ⟨hcount, hg0⟩ := and_e hg
  obtain ⟨hk0, hg1⟩ := and_e hg0
  obtain ⟨hk1, hg2⟩ := and_e hg1
  obtain ⟨hk2, hg3⟩ := and_e hg2
  have hk3 := hg3
  obtain ⟨w0, w1, w2, w3, rfl⟩ : ∃ w0 w1 w2 w3 : Value, args = #[w0, w1, w2, w3] := by
    have hs : args.size = 4 := by simpa [Cond.value, given_1] using hcount
    obtain ⟨L⟩ := args
    match L, hs with
    | [w0, w1, w2, w3], _ => exact ⟨w0, w1, w2, w3, rfl⟩
  have hw := fun d (hd : d ∈ tables_1) => atoms_spec (ws := Jvm.Cond.code x code maxLocals ret :: tables_1) hat d (List.mem_cons_of_mem _ hd)
  have hfit : Fit s := fun {y c} hc i hi => by
    obtain ⟨ha, rfl⟩ := Array.getElem?_eq_some_iff.mp hc
    have q := List.all_eq_true.mp ((Array.all_eq_true_iff_forall_mem.mp hF) _ (Array.getElem_mem ha)) i (List.mem_range.mpr hi)
    simpa [Array.getElem?_eq_getElem hi] using q
  obtain ⟨i0, ei0⟩ := is_v hk0
  obtain rfl : w0 = (.int i0) := Option.some.inj ei0
  obtain ⟨i1, ei1⟩ := is_v hk1
  obtain rfl : w1 = (.int i1) := Option.some.inj ei1
  obtain ⟨i2, ei2⟩ := is_v hk2
  obtain rfl : w2 = (.int i2) := Option.some.inj ei2
  obtain ⟨i3, ei3⟩ := is_v hk3
  obtain rfl : w3 = (.int i3) := Option.some.inj ei3
  obtain ⟨n, o, h1, h2, h3, _, L, rfl, ⟨rfl, N⟩, hq⟩ := rm_law l s _ hw tables_1 i0 i1 i2 i3 s.heap s.heap.size (Nat.le_refl _)  p e ha hc hk s m _ below hf ((Spec.applies_iff_loose hf).mp happ).1 ⟨rfl, State.Warmed39.refl s, rfl⟩ trivial
  refine ⟨n, _, h1, h2, h3, hpost _ _ _ _ _ _ ⟨Cond.after_iff.mpr rfl, Cond.after_iff.mpr (eq_i res_at (Term.int_eval (1)) rfl), trivial⟩ ⟨hq.1, hq.2.1, (hq.2.2.sift fun y hy => Or.inr (N y hy)).mono (by decide) (by decide)⟩⟩
theorem main_1_1 : Claimed_1_1 := comes_1 fun _ _ _ _ _ _ h hF => ⟨h.1, hF⟩
theorem main_1_2 : Claimed_1_2 := comes_1 fun _ _ _ _ _ _ h hF => ⟨h.2.1, hF⟩
end Jvm.Pilot.@@N@@
namespace Jvm.Pilot.@@N@@
open Jvm Jvm.ClassFile Sem Op Lib Jvm.Free Jvm.Stand Jvm.Pilot.@@N@@.Jvm.D
/-! MADE BY PROGRAM (witnessworld.py) out of the Statement's table words and the real class files: 9 classes; the members and pool entries that the words name. The judged class is class 1, her method 2. -/
namespace start1
open Jvm.ClassFile
def u (s : String) : CpInfo := .utf8 (stringToUtf16 s)
/-- a pool by its gaps: so many unusable entries, then the entry; so many at the end -/
def gap : Nat → List CpInfo → List CpInfo
  | 0, r => r
  | n + 1, r => .unusable :: gap n r
def poolList (es : List (Nat × CpInfo)) (last : Nat) : List CpInfo := es.foldr (fun e r => gap e.1 (e.2 :: r)) (gap last [])
def pool (es : List (Nat × CpInfo)) (last : Nat) : Array CpInfo := ⟨poolList es last⟩
def fileOf (pool : Array CpInfo) (this : Nat) (attrs : Array Attribute := #[]) (ms : Array MethodInfo := #[]) (fl : Nat := 33) (sup : Nat := 0) (ifs : Array Nat := #[]) (fds : Array FieldInfo := #[]) : ClassFile where
  minorVersion := 0
  majorVersion := 65
  constantPool := pool
  accessFlags := fl
  thisClass := this
  superClass := sup
  interfaces := ifs
  fields := fds
  methods := ms
  attributes := attrs
def plain (name : String) (sup : Option ClassId) : Class where
  name := name
  kind := .ordinary
  loader := none
  accessFlags := 33
  super := sup
  interfaces := #[]
  cf := none
  fields := #[]
  methods := #[]
  instanceTypes := #[]
  staticTypes := #[]
  resolved := #[]
  callSites := []
  init := .initialized
  statics := none
  mirror := none

def pool0 : Array CpInfo := pool [(5, u "<init>"), (0, u "()V"), (1, .class_ 10), (1, u "java/lang/Object")] 113

def k0m0 : Method := { name := "<init>", desc := "()V", sig := { parameters := [], returnType := none }, accessFlags := 1, code := none }
/-- java/lang/Object -/
def k0 : Class := { plain "java/lang/Object" none with
  accessFlags := 33
  interfaces := #[]
  cf := some (fileOf pool0 8 #[] #[{ accessFlags := 1, nameIndex := 5, descriptorIndex := 6, attributes := #[] }] 33 0 #[] #[])
  fields := #[]
  methods := #[k0m0]
  instanceTypes := #[]
  staticTypes := #[]
  resolved := Array.replicate 124 none
  statics := none }

def pool1 : Array CpInfo := pool [(2, .class_ 4), (1, u "java/lang/Object"), (0, u "<init>"), (0, u "()V"), (0, .methodref 8 9), (0, .class_ 10), (0, .nameAndType 11 12), (0, u "com/example/aloud/aloud/PathPattern"), (0, u "byteClasses"), (0, u "([B)C"), (0, .methodref 14 15), (0, .class_ 16), (0, .nameAndType 17 18), (0, u "com/example/aloud/aloud/PathPatternByteClassesPinLaw"), (0, u "single"), (0, u "(II)Z"), (3, u "law"), (0, u "(IIII)Z")] 4

def k1m0 : Method := { name := "<init>", desc := "()V", sig := { parameters := [], returnType := none }, accessFlags := 2, code := none }
def k1c1 : Code := { maxStack := 3, maxLocals := 2, code := method_2_code, exceptionTable := #[], attributes := #[] }
def k1m1 : Method := { name := "single", desc := "(II)Z", sig := { parameters := [.int, .int], returnType := some .boolean }, accessFlags := 10, code := some k1c1 }
def k1c2 : Code := { maxStack := 4, maxLocals := 14, code := code, exceptionTable := #[], attributes := #[] }
def k1m2 : Method := { name := "law", desc := "(IIII)Z", sig := { parameters := [.int, .int, .int, .int], returnType := some .boolean }, accessFlags := 9, code := some k1c2 }
/-- com/example/aloud/aloud/PathPatternByteClassesPinLaw -/
def k1 : Class := { plain "com/example/aloud/aloud/PathPatternByteClassesPinLaw" (some 0) with
  accessFlags := 49
  interfaces := #[]
  cf := some (fileOf pool1 14 #[] #[{ accessFlags := 2, nameIndex := 5, descriptorIndex := 6, attributes := #[] }, { accessFlags := 10, nameIndex := 17, descriptorIndex := 18, attributes := #[] }, { accessFlags := 9, nameIndex := 22, descriptorIndex := 23, attributes := #[] }] 49 2 #[] #[])
  fields := #[]
  methods := #[k1m0, k1m1, k1m2]
  instanceTypes := #[]
  staticTypes := #[]
  resolved := Array.replicate 28 none
  statics := none }

def pool2 : Array CpInfo := pool [(2, .class_ 4), (1, u "java/lang/Object"), (0, u "<init>"), (0, u "()V"), (1, .class_ 10), (1, u "com/example/aloud/aloud/PathPattern"), (0, u "ROOT"), (0, u "[B"), (6, u "ROOT_AND_ONE_BYTE"), (21, u "byteClasses"), (0, u "([B)C"), (14, u "WILDCARD"), (0, u "B"), (2, u "END_ANCHOR")] 15

def k2m0 : Method := { name := "<init>", desc := "()V", sig := { parameters := [], returnType := none }, accessFlags := 2, code := none }
def k2c1 : Code := { maxStack := 4, maxLocals := 6, code := prog_15_method_9_code, exceptionTable := #[], attributes := #[] }
def k2m1 : Method := { name := "byteClasses", desc := "([B)C", sig := { parameters := [(.array .byte)], returnType := some .char }, accessFlags := 8, code := some k2c1 }
/-- com/example/aloud/aloud/PathPattern -/
def k2 : Class := { plain "com/example/aloud/aloud/PathPattern" (some 0) with
  accessFlags := 32
  interfaces := #[]
  cf := some (fileOf pool2 8 #[] #[{ accessFlags := 2, nameIndex := 5, descriptorIndex := 6, attributes := #[] }, { accessFlags := 8, nameIndex := 41, descriptorIndex := 42, attributes := #[] }] 32 2 #[] #[{ accessFlags := 26, nameIndex := 57, descriptorIndex := 58, attributes := #[] }, { accessFlags := 24, nameIndex := 61, descriptorIndex := 58, attributes := #[] }, { accessFlags := 26, nameIndex := 11, descriptorIndex := 12, attributes := #[] }, { accessFlags := 26, nameIndex := 19, descriptorIndex := 12, attributes := #[] }])
  fields := #[{ name := "WILDCARD", type := .byte, accessFlags := 26, slot := 0, constantValue := 0 }, { name := "END_ANCHOR", type := .byte, accessFlags := 24, slot := 1, constantValue := 0 }, { name := "ROOT", type := (.array .byte), accessFlags := 26, slot := 2, constantValue := 0 }, { name := "ROOT_AND_ONE_BYTE", type := (.array .byte), accessFlags := 26, slot := 3, constantValue := 0 }]
  methods := #[k2m0, k2m1]
  instanceTypes := #[]
  staticTypes := #[.byte, .byte, (.array .byte), (.array .byte)]
  resolved := Array.replicate 77 none
  statics := none }

def pool3 : Array CpInfo := pool [(1, u "java/lang/Cloneable"), (0, .class_ 1), (0, u "java/lang/Object"), (0, .class_ 3)] 3

/-- java/lang/Cloneable -/
def k3 : Class := { plain "java/lang/Cloneable" (some 0) with
  accessFlags := 1537
  interfaces := #[]
  cf := some (fileOf pool3 2 #[] #[] 1537 4 #[] #[])
  fields := #[]
  methods := #[]
  instanceTypes := #[]
  staticTypes := #[]
  resolved := Array.replicate 8 none
  statics := none }

def pool4 : Array CpInfo := pool [(1, u "java/io/Serializable"), (0, .class_ 1), (0, u "java/lang/Object"), (0, .class_ 3)] 3

/-- java/io/Serializable -/
def k4 : Class := { plain "java/io/Serializable" (some 0) with
  accessFlags := 1537
  interfaces := #[]
  cf := some (fileOf pool4 2 #[] #[] 1537 4 #[] #[])
  fields := #[]
  methods := #[]
  instanceTypes := #[]
  staticTypes := #[]
  resolved := Array.replicate 8 none
  statics := none }

/-- the primitive byte -/
def k5 : Class := { plain "byte" none with kind := .primitive 'B', accessFlags := 0x411 }
/-- [B -/
def k6 : Class := { plain "[B" (some 0) with kind := .array 5 .byte, interfaces := #[3, 4], accessFlags := 1041 }

/-- the primitive int -/
def k7 : Class := { plain "int" none with kind := .primitive 'I', accessFlags := 0x411 }
/-- [I -/
def k8 : Class := { plain "[I" (some 0) with kind := .array 7 .int, interfaces := #[3, 4], accessFlags := 1041 }

def heap : Heap := #[]
def classes : Array Class := #[k0, k1, k2, k3, k4, k5, k6, k7, k8]
def interned : List (Array UInt16 × Addr) := []
def slotsUsed : Nat := 0
def theMethod : MethodId := ⟨1, 2⟩
def args0 : Array Value := #[.int 2, .int 5, .int 7, .int 9]
def aboutOver (below : List Frame) : State where
  vm := { classes := classes, interned := interned.toArray }
  heap := heap
  slotsUsed := slotsUsed
  threads := #[{ frames := .invoking theMethod args0 :: below }]
def below0 : List Frame := [.native { method := ⟨0, 0⟩, args := #[] }]
def about1 : State := aboutOver below0
def p0 : Program := .bare "" "" ""
def e0 : Env := launch0.env 0 0 0
theorem w_frames : about1.frames = Frame.invoking theMethod args0 :: below0 := rfl
set_option maxRecDepth 65536 in
theorem w_args : argsFit about1.vm theMethod args0 = true := by decide +kernel
set_option maxRecDepth 65536 in
theorem w_heap : heapFits about1 = true := by decide +kernel
set_option maxRecDepth 65536 in
theorem w_runnable : about1.curStatus? = some .runnable := by decide +kernel
set_option maxRecDepth 65536 in
theorem w_alone : about1.alone = true := by decide +kernel
set_option maxRecDepth 65536 in
theorem w_named : about1.methodNamed? x = some theMethod := by decide +kernel
set_option maxRecDepth 65536 in
theorem w_hears : about1.hears theMethod below0 = true := by decide +kernel
set_option maxRecDepth 65536 in
theorem w_ripe : about1.ripe theMethod args0 below0 = true := by decide +kernel
theorem w_running : about1.status = .running := rfl
set_option maxRecDepth 65536 in
theorem w_room : about1.hasRoom e0.platform room_1 = true :=
  launch0.hasRoom_least _ room_1 (by decide +kernel) (by decide +kernel) (by decide +kernel) (by decide +kernel) (by decide +kernel) (by decide +kernel)
theorem allAtoms_all (ts : List Jvm.Cond) (a : Array Jvm.Value) (st : Jvm.State) : (allAtoms ts).before a st = ts.all (fun c => c.before a st) := by
  induction ts with
  | nil => rfl
  | cons c t ih =>
    show (Jvm.Cond.and c (allAtoms t)).before a st = _
    rw [Jvm.Cond.before_and, ih, List.all_cons]
def words1 : List Jvm.Cond := Jvm.Cond.code x code maxLocals ret :: tables_1
/-- a 'code' word, met by the world's own term for the bytes: nothing is compared byte by byte -/
theorem code_word {y : MethodName} {bytes : ByteArray} {mx : Nat} {rt : Option FieldType} {a : Array Value} {s : State} {m : MethodId} {meth : Method} {c : Code} (h1 : s.methodNamed? y = some m) (h2 : s.vm.method? m = some meth) (h3 : meth.code = some c) (h4 : c.code = bytes)
    (h5 : (c.maxLocals == mx && c.exceptionTable.isEmpty && decide (c.maxStack ≤ mostOperands) && decide (meth.sig.returnType = rt) && !meth.locks && decide (parseMethodDescriptor y.desc = some meth.sig)) = true) : (Jvm.Cond.code y bytes mx rt).before a s = true := by
  simp only [Bool.and_eq_true, beq_iff_eq, Bool.not_eq_true', decide_eq_true_eq] at h5
  obtain ⟨⟨⟨⟨⟨g1, g2⟩, g3⟩, g4⟩, g5⟩, g6⟩ := h5
  simp [Cond.before, Cond.holds, Cond.value, h1, h2, h3, h4, g1, g2, g3, g4, g5, g6]
def isCode : Jvm.Cond → Bool
  | .code _ _ _ _ => true
  | _ => false
theorem all_split {L : List Jvm.Cond} {P : Jvm.Cond → Bool} (h1 : L.all (fun c => isCode c || P c) = true) (h2 : ∀ c ∈ L.filter isCode, P c = true) : L.all P = true := by
  refine List.all_eq_true.mpr fun c hc => ?_
  have h := List.all_eq_true.mp h1 c hc
  rcases Bool.eq_false_or_eq_true (isCode c) with hi | hi
  · exact h2 c (List.mem_filter.mpr ⟨hc, hi⟩)
  · simpa [hi] using h
set_option maxRecDepth 65536 in
theorem w_c0 : (Jvm.Cond.code x code maxLocals ret).before args0 about1 = true := code_word (m := ⟨1, 2⟩) (meth := k1m2) (c := k1c2) (by decide +kernel) rfl rfl rfl (by decide +kernel)
set_option maxRecDepth 65536 in
theorem w_c1 : (Jvm.Cond.code ({ cls := "com/example/aloud/aloud/PathPattern", name := "byteClasses", desc := "([B)C" } : Jvm.MethodName) prog_15_method_9_code (6 : Nat) (Option.some Jvm.ClassFile.FieldType.char)).before args0 about1 = true := code_word (m := ⟨2, 1⟩) (meth := k2m1) (c := k2c1) (by decide +kernel) rfl rfl rfl (by decide +kernel)
set_option maxRecDepth 65536 in
theorem w_c2 : (Jvm.Cond.code ({ cls := "com/example/aloud/aloud/PathPatternByteClassesPinLaw", name := "single", desc := "(II)Z" } : Jvm.MethodName) method_2_code (2 : Nat) (Option.some Jvm.ClassFile.FieldType.boolean)).before args0 about1 = true := code_word (m := ⟨1, 1⟩) (meth := k1m1) (c := k1c1) (by decide +kernel) rfl rfl rfl (by decide +kernel)
def codes1 : List Jvm.Cond := [Jvm.Cond.code x code maxLocals ret, Jvm.Cond.code ({ cls := "com/example/aloud/aloud/PathPattern", name := "byteClasses", desc := "([B)C" } : Jvm.MethodName) prog_15_method_9_code (6 : Nat) (Option.some Jvm.ClassFile.FieldType.char), Jvm.Cond.code ({ cls := "com/example/aloud/aloud/PathPatternByteClassesPinLaw", name := "single", desc := "(II)Z" } : Jvm.MethodName) method_2_code (2 : Nat) (Option.some Jvm.ClassFile.FieldType.boolean)]
set_option maxRecDepth 65536 in
theorem codes_eq : words1.filter isCode = codes1 := rfl
theorem w_codes : ∀ c ∈ words1.filter isCode, c.before args0 about1 = true := by
  rw [codes_eq]
  intro c hc
  simp only [codes1, List.mem_cons, List.not_mem_nil, or_false] at hc
  rcases hc with rfl | rfl | rfl
  · exact w_c0
  · exact w_c1
  · exact w_c2
set_option maxRecDepth 65536 in
theorem w_t1 : words1.all (fun c => isCode c || c.before args0 about1) = true := by decide +kernel
theorem w_tables : (allAtoms (Jvm.Cond.code x code maxLocals ret :: tables_1)).before args0 about1 = true := by
  rw [allAtoms_all]
  show words1.all (fun c => c.before args0 about1) = true
  refine all_split ?_ w_codes
  rw [w_t1]
set_option maxRecDepth 65536 in
theorem w_case : (Jvm.Cond.and given_1 narrow_1).before args0 about1 = true := by decide +kernel
theorem w_applies : (headSpec (Jvm.Cond.code x code maxLocals ret :: tables_1) room_1).applies x e0.platform about1 = true :=
  (Spec.applies_iff w_frames).mpr ⟨w_running, w_runnable, w_alone, w_named, w_hears, w_ripe, w_room, w_tables⟩
theorem atStart : AtStart classFile x code maxLocals ret World_1 tables_1 room_1 Calls_1 rest_1 Pre_1 launch0 p0 e0 about1 theMethod args0 below0 :=
  ⟨lists_1, trivial, launch0.admits_env _ _ _, launch0.least_env, fairChoices_fair.cas, fairChoices_fair.clock, w_frames, w_args, w_heap, w_applies, trivial, trivial, w_case⟩
end start1
theorem witness_1 : WitnessClaimed_1 := ⟨start1.p0, start1.e0, start1.about1, start1.theMethod, start1.args0, start1.below0, start1.atStart⟩
end Jvm.Pilot.@@N@@
