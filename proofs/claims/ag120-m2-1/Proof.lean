import JvmDerived
import JvmDerived.Pilot.@@N@@Statement
import JvmDerived.Pilot.@@N@@Code
set_option linter.unusedVariables false
set_option linter.unusedSimpArgs false
namespace Jvm.Pilot.@@N@@
open Jvm Jvm.ClassFile Sem Op Lib Jvm.Free Jvm.Stand Jvm.LawKit Jvm.RoadKit Bundle Jvm.Pilot.@@N@@.Jvm.D
/-! own small kit: the goal of a walk, backward; the leaves -/
def Gl (tb : Tables) (e : Env) (below : List Frame) (QQ : Outcome → State → Prop) (st : State) : Prop := ∃ s₂ o, Steps tb e below st s₂ ∧ s₂.status = .running ∧ Ended s₂ below o ∧ QQ o s₂
theorem Gl.go {tb : Tables} {e : Env} {below : List Frame} {QQ : Outcome → State → Prop} {st st' : State} (h : ∀ t, Steps tb e below st' t → Steps tb e below st t) (g : Gl tb e below QQ st') : Gl tb e below QQ st := by
  obtain ⟨s2, o, h1, h2⟩ := g
  exact ⟨s2, o, h _ h1, h2⟩
def QQof (s : State) (Q : Option Value → Heap → List Loc → Prop) (k n : Nat) : Outcome → State → Prop := fun o U => ∃ v L, o = .returned v ∧ Q v U.heap L ∧ FrameEnd s o U L k n
section Leaf
variable {p : Program} {l : Launch} {e : Env} {R : Room} {s : State} {m : MethodId} {args : Array Value} {below : List Frame} {meth : Method} {c : Code} {T : State} {locs : List Loc} {cells slots : Nat} {pc : Nat} {Ls : Array Slot} {rest : List Value} {Q : Option Value → Heap → List Loc → Prop} {k n : Nat}
theorem leafN (X : Stand p l e R s m args below meth c T locs cells slots) (hx : p.tables.exec = Jvm.exec) (hlk : meth.locks = false) {z : Int32} {t : FieldType} (hret : meth.sig.returnType = some t) (ht : t = .boolean ∨ t = .byte ∨ t = .char ∨ t = .short) (hd : decode c.code pc = .ok (.ireturn, 1))
    (hq : Q (some (.int (nar t z))) T.heap locs) (hk : cells ≤ k) (hn : slots ≤ n) : Gl p.tables e below (QQof s Q k n) (T.setTop (mkF m pc Ls (.int z :: rest))) := by
  obtain ⟨fs, hr, hrun, hended, hW, hsame⟩ := X.leave (v := some (.int (nar t z))) (fun h => by rw [hret] at h; cases h) hlk
  exact ⟨_, _, retN X hx hret ht hd hr, hrun, hended, _, _, rfl, hq, ⟨_, rfl⟩, hW, hsame.mono hk hn⟩
theorem leafI (X : Stand p l e R s m args below meth c T locs cells slots) (hx : p.tables.exec = Jvm.exec) (hlk : meth.locks = false) {z : Int32} (hret : meth.sig.returnType = some .int) (hd : decode c.code pc = .ok (.ireturn, 1))
    (hq : Q (some (.int z)) T.heap locs) (hk : cells ≤ k) (hn : slots ≤ n) : Gl p.tables e below (QQof s Q k n) (T.setTop (mkF m pc Ls (.int z :: rest))) := by
  obtain ⟨fs, hr, hrun, hended, hW, hsame⟩ := X.leave (v := some (.int z)) (fun h => by rw [hret] at h; cases h) hlk
  exact ⟨_, _, retOut X hx hret rfl (Or.inl ⟨rfl, Or.inl rfl, _, rfl⟩) hd hr, hrun, hended, _, _, rfl, hq, ⟨_, rfl⟩, hW, hsame.mono hk hn⟩
theorem leafL (X : Stand p l e R s m args below meth c T locs cells slots) (hx : p.tables.exec = Jvm.exec) (hlk : meth.locks = false) {z : Int64} (hret : meth.sig.returnType = some .long) (hd : decode c.code pc = .ok (.lreturn, 1))
    (hq : Q (some (.long z)) T.heap locs) (hk : cells ≤ k) (hn : slots ≤ n) : Gl p.tables e below (QQof s Q k n) (T.setTop (mkF m pc Ls (.long z :: rest))) := by
  obtain ⟨fs, hr, hrun, hended, hW, hsame⟩ := X.leave (v := some (.long z)) (fun h => by rw [hret] at h; cases h) hlk
  exact ⟨_, _, retOut X hx hret rfl (Or.inr (Or.inl ⟨rfl, rfl, _, rfl⟩)) hd hr, hrun, hended, _, _, rfl, hq, ⟨_, rfl⟩, hW, hsame.mono hk hn⟩
theorem leafD (X : Stand p l e R s m args below meth c T locs cells slots) (hx : p.tables.exec = Jvm.exec) (hlk : meth.locks = false) {z : UInt64} (hret : meth.sig.returnType = some .double) (hd : decode c.code pc = .ok (.dreturn, 1))
    (hq : Q (some (.double z)) T.heap locs) (hk : cells ≤ k) (hn : slots ≤ n) : Gl p.tables e below (QQof s Q k n) (T.setTop (mkF m pc Ls (.double z :: rest))) := by
  obtain ⟨fs, hr, hrun, hended, hW, hsame⟩ := X.leave (v := some (.double z)) (fun h => by rw [hret] at h; cases h) hlk
  exact ⟨_, _, retOut X hx hret rfl (Or.inr (Or.inr (Or.inl ⟨rfl, rfl, _, rfl⟩))) hd hr, hrun, hended, _, _, rfl, hq, ⟨_, rfl⟩, hW, hsame.mono hk hn⟩
theorem narrowR {t : FieldType} {w : Value} (ht : t.isReference = true) (hw : w.isRef = true) : narrow t w = w := by
  cases w <;> simp [Value.isRef] at hw <;> cases t <;> simp [FieldType.isReference] at ht <;> rfl
theorem leafA (X : Stand p l e R s m args below meth c T locs cells slots) (hx : p.tables.exec = Jvm.exec) (hlk : meth.locks = false) {w : Value} {t : FieldType} (hret : meth.sig.returnType = some t) (ht : t.isReference = true) (hw : w.isRef = true) (hd : decode c.code pc = .ok (.areturn, 1))
    (hq : Q (some w) T.heap locs) (hk : cells ≤ k) (hn : slots ≤ n) : Gl p.tables e below (QQof s Q k n) (T.setTop (mkF m pc Ls (w :: rest))) := by
  obtain ⟨fs, hr, hrun, hended, hW, hsame⟩ := X.leave (v := some w) (fun h => by rw [hret] at h; cases h) hlk
  exact ⟨_, _, retOut X hx hret (narrowR ht hw) (Or.inr (Or.inr (Or.inr (Or.inr ⟨rfl, ht, hw⟩)))) hd hr, hrun, hended, _, _, rfl, hq, ⟨_, rfl⟩, hW, hsame.mono hk hn⟩
theorem leafV (X : Stand p l e R s m args below meth c T locs cells slots) (hx : p.tables.exec = Jvm.exec) (hlk : meth.locks = false) (hret : meth.sig.returnType = none) (hd : decode c.code pc = .ok (.return_, 1))
    (hq : Q none T.heap locs) (hk : cells ≤ k) (hn : slots ≤ n) : Gl p.tables e below (QQof s Q k n) (T.setTop (mkF m pc Ls [])) := by
  obtain ⟨fs, hr, hrun, hended, hW, hsame⟩ := X.leave (v := none) (fun _ => rfl) hlk
  exact ⟨_, _, X.returnOut hx hret hd hr, hrun, hended, _, _, rfl, hq, ⟨_, rfl⟩, hW, hsame.mono hk hn⟩
end Leaf
theorem fitsR {t : FieldType} {w : Value} (ht : t.isReference = true) (hw : w.isRef = true) : fits t w = true := by
  cases w <;> simp [Value.isRef] at hw <;> cases t <;> simp [FieldType.isReference] at ht <;> rfl
theorem nar1 : nar .boolean (1 : Int32) = 1 := by decide
theorem nar0 : nar .boolean (0 : Int32) = 0 := by decide
theorem int_at {args : Array Value} {s : State} {t : Term} {k : Int32} (h : (Jvm.Cond.eq t (.int k)).value args s none s [] = some true) : t.eval args s none [] s = some (.int k) := by
  obtain ⟨x, y, hx, hy, kx, ky⟩ := cmp_v (Or.inl h)
  have hk : y = .int k := Option.some.inj (hy.symm.trans (Term.int_eval k))
  subst hk
  obtain ⟨z, rfl⟩ := ky
  have hz := gotT (Cond.eq_ints hx (Term.int_eval k)) h
  rw [hx, hz]
theorem fld_int {args : Array Value} {s : State} {t : Term} {C n d : String} {k : Int32} {x : Addr} (ht : t.eval args s none [] s = some (.ref x)) (h : (Jvm.Cond.eq (.field t C n d) (.int k)).value args s none s [] = some true) : Fld s s.heap x C n d (.int k) := Fld.start ((fld_at ht).symm.trans (int_at h))
theorem ref_at {args : Array Value} {s : State} {a b : Term} {x : Addr} (hb : b.eval args s none [] s = some (.ref x)) (h : (Jvm.Cond.eq a b).value args s none s [] = some true) : a.eval args s none [] s = some (.ref x) := by
  obtain ⟨y, z, hy, hz, ky, kz⟩ := cmp_v (Or.inl h)
  have hk : z = .ref x := Option.some.inj (hz.symm.trans hb)
  subst hk
  have hr : y.isRef = true := kz.2
  have he := gotT (eq_R hy hb hr rfl) h
  rw [hy, he]
theorem ext_of_keep {h h' : Heap} (K : Keep h h' []) : Ext h h' := ⟨K.1, fun a c q => K.2.1 a c q nin0⟩
theorem arr_len {args : Array Value} {s : State} {t : Term} {a : Addr} {cl : Cell} {ty : FieldType} {k : Int32} (ev : t.eval args s none [] s = some (.ref a)) (A : Arr s s.heap a cl ty) (h : (Jvm.Cond.eq (.length t) (.int k)).value args s none s [] = some true) : cl.slots.size < 2 ^ 31 ∧ cl.slots.size.toInt32 = k := by
  obtain ⟨b, cell, e1, e2, e3, e4⟩ := Jvm.Lib.length_spec (int_at h)
  have hb : a = b := Value.ref.inj (Option.some.inj (ev.symm.trans e1))
  subst hb
  have hc : cl = cell := Option.some.inj ((A.fin (Vm.Alike.refl _)).symm.trans e2)
  subst hc
  exact ⟨e3, (Value.int.inj e4).symm⟩
theorem arr_elem {args : Array Value} {s : State} {t : Term} {a : Addr} {cl : Cell} {ty : FieldType} {j : Int32} {v : Value} (ev : t.eval args s none [] s = some (.ref a)) (A : Arr s s.heap a cl ty) (h : (Term.elem t (.int j)).eval args s none [] s = some v) : cl.slots[j.toNatClampNeg]? = some v := (elem_in h ev (Term.int_eval j) A.1).2

def adL (s : Int64) (v : Int32) : Int64 := (s + v.toInt64)
theorem own_len (n : Int32) : ((n &&& (3 : Int32)) + (1 : Int32)) = 1 ∨ ((n &&& (3 : Int32)) + (1 : Int32)) = 2 ∨ ((n &&& (3 : Int32)) + (1 : Int32)) = 3 ∨ ((n &&& (3 : Int32)) + (1 : Int32)) = 4 := by
  have h : (n &&& (3 : Int32)).toBitVec.toNat ≤ 3 := by
    simp only [Int32.toBitVec_and, BitVec.toNat_and]
    exact Nat.and_le_right
  have e : (n &&& (3 : Int32)) = Int32.ofBitVec (BitVec.ofNat 32 (n &&& (3 : Int32)).toBitVec.toNat) := by
    apply Int32.toBitVec_inj.mp
    simp
  generalize (n &&& (3 : Int32)).toBitVec.toNat = k at h e
  rw [e]
  have : k = 0 ∨ k = 1 ∨ k = 2 ∨ k = 3 := by omega
  rcases this with rfl | rfl | rfl | rfl <;> decide
theorem own_z (v : Int32) : adL 0 v = v.toInt64 := by unfold adL; rw [Int64.zero_add]
theorem pn_0 : plainName "com/example/berthwise/berthwise/model/Placement" = true := by first | (simp [plainName, overriddenIn]; done) | decide +kernel
theorem ef_ini (m : MethodId) (x0 : Addr) (x2 : Int32) (x3 : Int32) (x4 : Addr) : entryFrame m #[(.ref x0), .null, (.int x2), (.int x3), (.ref x4)] 5 = mkF m 0 #[.val (.ref x0), .val .null, .val (.int x2), .val (.int x3), .val (.ref x4)] [] := by first | (simp [entryFrame, mkF, argsToLocals, Value.category]; done) | rfl
theorem d1_0 : decode prog_23_method_1_code 0 = .ok (.aload_n 0, 1) := by decide +kernel
theorem d1_1 : decode prog_23_method_1_code 1 = .ok (.invokespecial 1, 3) := by decide +kernel
theorem d1_4 : decode prog_23_method_1_code 4 = .ok (.aload 4, 2) := by decide +kernel
theorem d1_6 : decode prog_23_method_1_code 6 = .ok (.arraylength, 1) := by decide +kernel
theorem d1_7 : decode prog_23_method_1_code 7 = .ok (.ifCond .ne 13, 3) := by decide +kernel
theorem d1_20 : decode prog_23_method_1_code 20 = .ok (.aload_n 0, 1) := by decide +kernel
theorem d1_21 : decode prog_23_method_1_code 21 = .ok (.aload_n 1, 1) := by decide +kernel
theorem d1_22 : decode prog_23_method_1_code 22 = .ok (.putfield 14, 3) := by decide +kernel
theorem d1_25 : decode prog_23_method_1_code 25 = .ok (.aload_n 0, 1) := by decide +kernel
theorem d1_26 : decode prog_23_method_1_code 26 = .ok (.iload_n 2, 1) := by decide +kernel
theorem d1_27 : decode prog_23_method_1_code 27 = .ok (.putfield 20, 3) := by decide +kernel
theorem d1_30 : decode prog_23_method_1_code 30 = .ok (.aload_n 0, 1) := by decide +kernel
theorem d1_31 : decode prog_23_method_1_code 31 = .ok (.iload_n 3, 1) := by decide +kernel
theorem d1_32 : decode prog_23_method_1_code 32 = .ok (.putfield 24, 3) := by decide +kernel
theorem d1_35 : decode prog_23_method_1_code 35 = .ok (.aload_n 0, 1) := by decide +kernel
theorem d1_36 : decode prog_23_method_1_code 36 = .ok (.aload 4, 2) := by decide +kernel
theorem d1_38 : decode prog_23_method_1_code 38 = .ok (.invokevirtual 27, 3) := by decide +kernel
theorem d1_41 : decode prog_23_method_1_code 41 = .ok (.checkcast 28, 3) := by decide +kernel
theorem d1_44 : decode prog_23_method_1_code 44 = .ok (.putfield 33, 3) := by decide +kernel
theorem d1_47 : decode prog_23_method_1_code 47 = .ok (.return_, 1) := by decide +kernel
theorem ef_ch1 (m : MethodId) (x0 : Addr) : entryFrame m #[(.ref x0)] 7 = mkF m 0 #[.val (.ref x0), .unset, .unset, .unset, .unset, .unset, .unset] [] := by first | (simp [entryFrame, mkF, argsToLocals, Value.category]; done) | rfl
theorem d3_0 : decode prog_23_method_8_code 0 = .ok (.lconst 0, 1) := by decide +kernel
theorem d3_1 : decode prog_23_method_8_code 1 = .ok (.lstore_n 1, 1) := by decide +kernel
theorem d3_2 : decode prog_23_method_8_code 2 = .ok (.aload_n 0, 1) := by decide +kernel
theorem d3_3 : decode prog_23_method_8_code 3 = .ok (.getfield 33, 3) := by decide +kernel
theorem d3_6 : decode prog_23_method_8_code 6 = .ok (.astore_n 3, 1) := by decide +kernel
theorem d3_7 : decode prog_23_method_8_code 7 = .ok (.aload_n 3, 1) := by decide +kernel
theorem d3_8 : decode prog_23_method_8_code 8 = .ok (.arraylength, 1) := by decide +kernel
theorem d3_9 : decode prog_23_method_8_code 9 = .ok (.istore 4, 2) := by decide +kernel
theorem d3_11 : decode prog_23_method_8_code 11 = .ok (.iconst 0, 1) := by decide +kernel
theorem d3_12 : decode prog_23_method_8_code 12 = .ok (.istore 5, 2) := by decide +kernel
theorem d3_14 : decode prog_23_method_8_code 14 = .ok (.iload 5, 2) := by decide +kernel
theorem d3_16 : decode prog_23_method_8_code 16 = .ok (.iload 4, 2) := by decide +kernel
theorem d3_18 : decode prog_23_method_8_code 18 = .ok (.if_icmp .ge 21, 3) := by decide +kernel
theorem d3_21 : decode prog_23_method_8_code 21 = .ok (.aload_n 3, 1) := by decide +kernel
theorem d3_22 : decode prog_23_method_8_code 22 = .ok (.iload 5, 2) := by decide +kernel
theorem d3_24 : decode prog_23_method_8_code 24 = .ok (.iaload, 1) := by decide +kernel
theorem d3_25 : decode prog_23_method_8_code 25 = .ok (.istore 6, 2) := by decide +kernel
theorem d3_27 : decode prog_23_method_8_code 27 = .ok (.lload_n 1, 1) := by decide +kernel
theorem d3_28 : decode prog_23_method_8_code 28 = .ok (.iload 6, 2) := by decide +kernel
theorem d3_30 : decode prog_23_method_8_code 30 = .ok (.i2l, 1) := by decide +kernel
theorem d3_31 : decode prog_23_method_8_code 31 = .ok (.ladd, 1) := by decide +kernel
theorem d3_32 : decode prog_23_method_8_code 32 = .ok (.lstore_n 1, 1) := by decide +kernel
theorem d3_33 : decode prog_23_method_8_code 33 = .ok (.iinc 5 1, 3) := by decide +kernel
theorem d3_36 : decode prog_23_method_8_code 36 = .ok (.goto (-22), 3) := by decide +kernel
theorem d3_39 : decode prog_23_method_8_code 39 = .ok (.lload_n 1, 1) := by decide +kernel
theorem d3_40 : decode prog_23_method_8_code 40 = .ok (.lreturn, 1) := by decide +kernel
theorem ef_ch2 (m : MethodId) (x0 : Addr) : entryFrame m #[(.ref x0)] 7 = mkF m 0 #[.val (.ref x0), .unset, .unset, .unset, .unset, .unset, .unset] [] := by first | (simp [entryFrame, mkF, argsToLocals, Value.category]; done) | rfl
theorem ef_ch3 (m : MethodId) (x0 : Addr) : entryFrame m #[(.ref x0)] 7 = mkF m 0 #[.val (.ref x0), .unset, .unset, .unset, .unset, .unset, .unset] [] := by first | (simp [entryFrame, mkF, argsToLocals, Value.category]; done) | rfl
theorem ef_ch4 (m : MethodId) (x0 : Addr) : entryFrame m #[(.ref x0)] 7 = mkF m 0 #[.val (.ref x0), .unset, .unset, .unset, .unset, .unset, .unset] [] := by first | (simp [entryFrame, mkF, argsToLocals, Value.category]; done) | rfl
theorem pn_1 : plainName "com/example/berthwise/berthwise/model/PlacementCraneHoursPinLaw" = true := by first | (simp [plainName, overriddenIn]; done) | decide +kernel
theorem ef_law (m : MethodId) (x0 : Int32) (x1 : Int32) (x2 : Int32) (x3 : Int32) (x4 : Int32) : entryFrame m #[(.int x0), (.int x1), (.int x2), (.int x3), (.int x4)] maxLocals = mkF m 0 #[.val (.int x0), .val (.int x1), .val (.int x2), .val (.int x3), .val (.int x4), .unset, .unset, .unset, .unset, .unset] [] := by first | (simp [entryFrame, mkF, argsToLocals, Value.category, maxLocals]; done) | rfl
theorem pd_0 : parseMethodDescriptor "(Lcom/example/berthwise/berthwise/model/Vessel;II[I)V" = some ⟨[(.object "com/example/berthwise/berthwise/model/Vessel"), .int, .int, (.array .int)], none⟩ := by decide +kernel
theorem pd_1 : parseMethodDescriptor "()J" = some ⟨[], some .long⟩ := by decide +kernel
def Q_ini (Z : State) (a1 ar : Addr) (p2 p3 : Int32) (kA : ClassId) (N : Int32) (vs : List Value) (u_vessel u_start u_position u_cranes : Value) (h0 : Heap) (n0 : Nat) (v : Option Value) (h : Heap) (L : List Loc) : Prop := ∃ b, v = none ∧ Fr n0 L ∧ Keep h0 h [a1] ∧ h0.size ≤ b ∧ Exa Z h a1 "com/example/berthwise/berthwise/model/Placement" ∧ Fld Z h a1 "com/example/berthwise/berthwise/model/Placement" "cranes" "[I" (.ref b) ∧ Arv Z h b kA .int N vs (.int (0 : Int32))
set_option maxRecDepth 65536 in
set_option maxHeartbeats 40000000 in
theorem rm_ini (l : Launch) (Z : State) (a0 : Array Value) (hw : ∀ d ∈ tables_1, d.before a0 Z = true) (ws : List Jvm.Cond) (a1 ar : Addr) (p2 p3 : Int32) (kA : ClassId) (N : Int32) (vs : List Value) (u_vessel u_start u_position u_cranes : Value) (h0 : Heap) (n0 : Nat) (Z0 : n0 ≤ h0.size) (hN : ¬ N = (0 : Int32)) (hcap : N.toNatClampNeg ≤ 4) (E_a1 : Exa Z h0 a1 "com/example/berthwise/berthwise/model/Placement") (F_vessel : Fld Z h0 a1 "com/example/berthwise/berthwise/model/Placement" "vessel" "Lcom/example/berthwise/berthwise/model/Vessel;" u_vessel) (F_start : Fld Z h0 a1 "com/example/berthwise/berthwise/model/Placement" "start" "I" u_start) (F_position : Fld Z h0 a1 "com/example/berthwise/berthwise/model/Placement" "position" "I" u_position) (F_cranes : Fld Z h0 a1 "com/example/berthwise/berthwise/model/Placement" "cranes" "[I" u_cranes) (g_a1 : n0 ≤ a1) (V_ar : Arv Z h0 ar kA .int N vs (.int (0 : Int32))) (E_ar : Exa Z h0 ar "[I") (ne_ar_a1 : ar ≠ a1) :
    MetFree l (⟨"com/example/berthwise/berthwise/model/Placement", "<init>", "(Lcom/example/berthwise/berthwise/model/Vessel;II[I)V"⟩ : MethodName) (head1 (Jvm.Cond.code (⟨"com/example/berthwise/berthwise/model/Placement", "<init>", "(Lcom/example/berthwise/berthwise/model/Vessel;II[I)V"⟩ : MethodName) prog_23_method_1_code 5 none :: ws) ({ frames := 1, cells := 1, slots := 4, locals := 15 } : Room)) (fun aa U => aa = #[(.ref a1), .null, (.int p2), (.int p3), (.ref ar)] ∧ Z.Warmed39 U.vm ∧ U.heap = h0) (fun _ _ _ _ _ => True) (fun _ U o U' => ∃ v L, o = .returned v ∧ Q_ini Z a1 ar p2 p3 kA N vs u_vessel u_start u_position u_cranes h0 n0 v U'.heap L ∧ FrameEnd U o U' L ({ frames := 1, cells := 1, slots := 4, locals := 15 } : Room).cells ({ frames := 1, cells := 1, slots := 4, locals := 15 } : Room).slots) := by
  refine MetFree.of_bodySF (plainFor_of_name pn_0) hisR ?_
  intro p e s m args below meth c s₁ Bd hml0 hP hK
  obtain ⟨rfl, hZ, hh⟩ := hP
  have hx := Bd.exec
  have hby := Bd.bytes
  have hml : c.maxLocals = 5 := hml0
  have hown : s.vm.findClass "com/example/berthwise/berthwise/model/Placement" = some m.cls := findClass_of_methodNamed Bd.named
  have hnm := (name_of_methodNamed Bd.named Bd.method).1
  have hlk : meth.locks = false := BodyLoose.notSynchronized Bd
  have X0 : Stand p l e ({ frames := 1, cells := 1, slots := 4, locals := 15 } : Room) s m #[(.ref a1), .null, (.int p2), (.int p3), (.ref ar)] below meth c s₁ [] 0 0 := Stand.of_body Bd
  have e0 : s₁.heap = h0 := by rw [← hh, Bd.state]; rfl
  have N0 := Fr.nil n0
  have K0 : Keep h0 h0 [a1] := Keep.refl _ _
  show Gl p.tables e below (QQof s (Q_ini Z a1 ar p2 p3 kA N vs u_vessel u_start u_position u_cranes h0 n0) 1 4) (s₁.setTop (entryFrame m #[(.ref a1), .null, (.int p2), (.int p3), (.ref ar)] 5))
  refine Gl.go (fun t k => castTop (ef_ini m a1 p2 p3 ar) k) ?_
  show Gl p.tables e below (QQof s (Q_ini Z a1 ar p2 p3 kA N vs u_vessel u_start u_position u_cranes h0 n0) 1 4) (s₁.setTop (mkF m 0 #[.val (.ref a1), .val .null, .val (.int p2), .val (.int p3), .val (.ref ar)] []))
  refine Gl.go (fun _ k => XS.aloadN X0.here hx rfl (hb hby d1_0) rfl rfl  k) ?_
  show Gl p.tables e below (QQof s (Q_ini Z a1 ar p2 p3 kA N vs u_vessel u_start u_position u_cranes h0 n0) 1 4) (s₁.setTop (mkF m 1 #[.val (.ref a1), .val .null, .val (.int p2), .val (.int p3), .val (.ref ar)] [(.ref a1)]))
  obtain ⟨T1, X1, e1, st1⟩ := initO X0 hx hZ hown (hw _ (List.mem_of_getElem? (i := 7) rfl)) (hw _ (List.mem_of_getElem? (i := 8) rfl)) (hw _ (List.mem_of_getElem? (i := 9) rfl)) e0 (g := (mkF m 1 #[.val (.ref a1), .val .null, .val (.int p2), .val (.int p3), .val (.ref ar)] [(.ref a1)])) rfl (by rw [hml]; rfl) rfl (hb hby d1_1) (by decide) (W := 0) (by show 2 * 0 + _ ≤ _; exact Nat.le_of_eq rfl) (by decide)
  refine Gl.go (fun _ k => st1 _ k) ?_
  show Gl p.tables e below (QQof s (Q_ini Z a1 ar p2 p3 kA N vs u_vessel u_start u_position u_cranes h0 n0) 1 4) (T1.setTop (mkF m 4 #[.val (.ref a1), .val .null, .val (.int p2), .val (.int p3), .val (.ref ar)] []))
  refine Gl.go (fun _ k => XS.aload X1.here hx rfl (hb hby d1_4) rfl rfl  k) ?_
  show Gl p.tables e below (QQof s (Q_ini Z a1 ar p2 p3 kA N vs u_vessel u_start u_position u_cranes h0 n0) 1 4) (T1.setTop (mkF m 6 #[.val (.ref a1), .val .null, .val (.int p2), .val (.int p3), .val (.ref ar)] [(.ref ar)]))
  obtain ⟨cl2, Ar2, qA2, SA2, NA2, HA2, GA2⟩ := id V_ar
  refine Gl.go (fun _ k => X1.arraylength hx (by rw [e1]; exact Ar2.1) (State.isArrayOf_alike hZ.alike Ar2.2.1) (g := (mkF m 6 #[.val (.ref a1), .val .null, .val (.int p2), .val (.int p3), .val (.ref ar)] [(.ref ar)])) rfl rfl (hb hby d1_6) _ k) ?_
  rw [len_of SA2 NA2]
  show Gl p.tables e below (QQof s (Q_ini Z a1 ar p2 p3 kA N vs u_vessel u_start u_position u_cranes h0 n0) 1 4) (T1.setTop (mkF m 7 #[.val (.ref a1), .val .null, .val (.int p2), .val (.int p3), .val (.ref ar)] [(.int N)]))
  refine Gl.go (fun _ k => XS.ifYes X1.here hx rfl (pc0 := 7) (pc' := 20) rfl (hb hby d1_7) rfl ((if0 _ _).trans (feq hN).2) (by decide) (by decide) k) ?_
  show Gl p.tables e below (QQof s (Q_ini Z a1 ar p2 p3 kA N vs u_vessel u_start u_position u_cranes h0 n0) 1 4) (T1.setTop (mkF m 20 #[.val (.ref a1), .val .null, .val (.int p2), .val (.int p3), .val (.ref ar)] []))
  refine Gl.go (fun _ k => XS.aloadN X1.here hx rfl (hb hby d1_20) rfl rfl  k) ?_
  show Gl p.tables e below (QQof s (Q_ini Z a1 ar p2 p3 kA N vs u_vessel u_start u_position u_cranes h0 n0) 1 4) (T1.setTop (mkF m 21 #[.val (.ref a1), .val .null, .val (.int p2), .val (.int p3), .val (.ref ar)] [(.ref a1)]))
  refine Gl.go (fun _ k => XS.aloadN X1.here hx rfl (hb hby d1_21) rfl rfl  k) ?_
  show Gl p.tables e below (QQof s (Q_ini Z a1 ar p2 p3 kA N vs u_vessel u_start u_position u_cranes h0 n0) 1 4) (T1.setTop (mkF m 22 #[.val (.ref a1), .val .null, .val (.int p2), .val (.int p3), .val (.ref ar)] [.null, (.ref a1)]))
  obtain ⟨T3, h3, X3, e3, W3, st3⟩ := putF X1 hx hZ hown (host := "") (Or.inl (hw _ (List.mem_of_getElem? (i := 10) rfl))) Via.refl e1 F_vessel E_a1 (Or.inr ⟨(hw _ (List.mem_of_getElem? (i := 11) rfl)), rfl, hnm⟩) (hw _ (List.mem_of_getElem? (i := 2) rfl)) (ty := (.object "com/example/berthwise/berthwise/model/Vessel")) (by decide) rfl rfl (g := (mkF m 22 #[.val (.ref a1), .val .null, .val (.int p2), .val (.int p3), .val (.ref ar)] [.null, (.ref a1)])) rfl rfl (hb hby d1_22)
  have E_a1_3 : Exa Z h3 a1 "com/example/berthwise/berthwise/model/Placement" := E_a1.wr W3
  have F_a1_vessel_3 : Fld Z h3 a1 "com/example/berthwise/berthwise/model/Placement" "vessel" "Lcom/example/berthwise/berthwise/model/Vessel;" .null := F_vessel.same W3
  have F_a1_start_3 : Fld Z h3 a1 "com/example/berthwise/berthwise/model/Placement" "start" "I" u_start := F_start.other W3 (Or.inr (slot_ne (t := .int) (t' := (.object "com/example/berthwise/berthwise/model/Vessel")) (Or.inr (hw _ (List.mem_of_getElem? (i := 13) rfl))) (Or.inr (hw _ (List.mem_of_getElem? (i := 11) rfl))) (by decide) (by decide) (by decide)))
  have F_a1_position_3 : Fld Z h3 a1 "com/example/berthwise/berthwise/model/Placement" "position" "I" u_position := F_position.other W3 (Or.inr (slot_ne (t := .int) (t' := (.object "com/example/berthwise/berthwise/model/Vessel")) (Or.inr (hw _ (List.mem_of_getElem? (i := 15) rfl))) (Or.inr (hw _ (List.mem_of_getElem? (i := 11) rfl))) (by decide) (by decide) (by decide)))
  have F_a1_cranes_3 : Fld Z h3 a1 "com/example/berthwise/berthwise/model/Placement" "cranes" "[I" u_cranes := F_cranes.other W3 (Or.inr (slot_ne (t := (.array .int)) (t' := (.object "com/example/berthwise/berthwise/model/Vessel")) (Or.inr (hw _ (List.mem_of_getElem? (i := 26) rfl))) (Or.inr (hw _ (List.mem_of_getElem? (i := 11) rfl))) (by decide) (by decide) (by decide)))
  have V_ar_3 : Arv Z h3 ar kA .int N vs (.int (0 : Int32)) := V_ar.other W3 ne_ar_a1
  have E_ar_3 : Exa Z h3 ar "[I" := E_ar.wr W3
  have SZ3 : n0 ≤ h3.size := by rw [Wr.size W3]; exact Z0
  have K3 : Keep h0 h3 [a1] := K0.wr W3 (Or.inl (List.mem_of_getElem? (i := 0) rfl))
  have N3 := Fr.snoc X3 N0 g_a1
  refine Gl.go (fun _ k => st3 _ k) ?_
  show Gl p.tables e below (QQof s (Q_ini Z a1 ar p2 p3 kA N vs u_vessel u_start u_position u_cranes h0 n0) 1 4) (T3.setTop (mkF m 25 #[.val (.ref a1), .val .null, .val (.int p2), .val (.int p3), .val (.ref ar)] []))
  refine Gl.go (fun _ k => XS.aloadN X3.here hx rfl (hb hby d1_25) rfl rfl  k) ?_
  show Gl p.tables e below (QQof s (Q_ini Z a1 ar p2 p3 kA N vs u_vessel u_start u_position u_cranes h0 n0) 1 4) (T3.setTop (mkF m 26 #[.val (.ref a1), .val .null, .val (.int p2), .val (.int p3), .val (.ref ar)] [(.ref a1)]))
  refine Gl.go (fun _ k => XS.iloadN X3.here hx rfl (hb hby d1_26) rfl  k) ?_
  show Gl p.tables e below (QQof s (Q_ini Z a1 ar p2 p3 kA N vs u_vessel u_start u_position u_cranes h0 n0) 1 4) (T3.setTop (mkF m 27 #[.val (.ref a1), .val .null, .val (.int p2), .val (.int p3), .val (.ref ar)] [(.int p2), (.ref a1)]))
  obtain ⟨T4, h4, X4, e4, W4, st4⟩ := putF X3 hx hZ hown (host := "") (Or.inl (hw _ (List.mem_of_getElem? (i := 12) rfl))) Via.refl e3 F_a1_start_3 E_a1_3 (Or.inr ⟨(hw _ (List.mem_of_getElem? (i := 13) rfl)), rfl, hnm⟩) (hw _ (List.mem_of_getElem? (i := 2) rfl)) (ty := .int) (by decide) rfl rfl (g := (mkF m 27 #[.val (.ref a1), .val .null, .val (.int p2), .val (.int p3), .val (.ref ar)] [(.int p2), (.ref a1)])) rfl rfl (hb hby d1_27)
  have E_a1_4 : Exa Z h4 a1 "com/example/berthwise/berthwise/model/Placement" := E_a1_3.wr W4
  have F_a1_vessel_4 : Fld Z h4 a1 "com/example/berthwise/berthwise/model/Placement" "vessel" "Lcom/example/berthwise/berthwise/model/Vessel;" .null := F_a1_vessel_3.other W4 (Or.inr (slot_ne (t := (.object "com/example/berthwise/berthwise/model/Vessel")) (t' := .int) (Or.inr (hw _ (List.mem_of_getElem? (i := 11) rfl))) (Or.inr (hw _ (List.mem_of_getElem? (i := 13) rfl))) (by decide) (by decide) (by decide)))
  have F_a1_start_4 : Fld Z h4 a1 "com/example/berthwise/berthwise/model/Placement" "start" "I" (.int p2) := F_a1_start_3.same W4
  have F_a1_position_4 : Fld Z h4 a1 "com/example/berthwise/berthwise/model/Placement" "position" "I" u_position := F_a1_position_3.other W4 (Or.inr (slot_ne (t := .int) (t' := .int) (Or.inr (hw _ (List.mem_of_getElem? (i := 15) rfl))) (Or.inr (hw _ (List.mem_of_getElem? (i := 13) rfl))) (by decide) (by decide) (by decide)))
  have F_a1_cranes_4 : Fld Z h4 a1 "com/example/berthwise/berthwise/model/Placement" "cranes" "[I" u_cranes := F_a1_cranes_3.other W4 (Or.inr (slot_ne (t := (.array .int)) (t' := .int) (Or.inr (hw _ (List.mem_of_getElem? (i := 26) rfl))) (Or.inr (hw _ (List.mem_of_getElem? (i := 13) rfl))) (by decide) (by decide) (by decide)))
  have V_ar_4 : Arv Z h4 ar kA .int N vs (.int (0 : Int32)) := V_ar_3.other W4 ne_ar_a1
  have E_ar_4 : Exa Z h4 ar "[I" := E_ar_3.wr W4
  have SZ4 : n0 ≤ h4.size := by rw [Wr.size W4]; exact SZ3
  have K4 : Keep h0 h4 [a1] := K3.wr W4 (Or.inl (List.mem_of_getElem? (i := 0) rfl))
  have N4 := Fr.snoc X4 N3 g_a1
  refine Gl.go (fun _ k => st4 _ k) ?_
  show Gl p.tables e below (QQof s (Q_ini Z a1 ar p2 p3 kA N vs u_vessel u_start u_position u_cranes h0 n0) 1 4) (T4.setTop (mkF m 30 #[.val (.ref a1), .val .null, .val (.int p2), .val (.int p3), .val (.ref ar)] []))
  refine Gl.go (fun _ k => XS.aloadN X4.here hx rfl (hb hby d1_30) rfl rfl  k) ?_
  show Gl p.tables e below (QQof s (Q_ini Z a1 ar p2 p3 kA N vs u_vessel u_start u_position u_cranes h0 n0) 1 4) (T4.setTop (mkF m 31 #[.val (.ref a1), .val .null, .val (.int p2), .val (.int p3), .val (.ref ar)] [(.ref a1)]))
  refine Gl.go (fun _ k => XS.iloadN X4.here hx rfl (hb hby d1_31) rfl  k) ?_
  show Gl p.tables e below (QQof s (Q_ini Z a1 ar p2 p3 kA N vs u_vessel u_start u_position u_cranes h0 n0) 1 4) (T4.setTop (mkF m 32 #[.val (.ref a1), .val .null, .val (.int p2), .val (.int p3), .val (.ref ar)] [(.int p3), (.ref a1)]))
  obtain ⟨T5, h5, X5, e5, W5, st5⟩ := putF X4 hx hZ hown (host := "") (Or.inl (hw _ (List.mem_of_getElem? (i := 14) rfl))) Via.refl e4 F_a1_position_4 E_a1_4 (Or.inr ⟨(hw _ (List.mem_of_getElem? (i := 15) rfl)), rfl, hnm⟩) (hw _ (List.mem_of_getElem? (i := 2) rfl)) (ty := .int) (by decide) rfl rfl (g := (mkF m 32 #[.val (.ref a1), .val .null, .val (.int p2), .val (.int p3), .val (.ref ar)] [(.int p3), (.ref a1)])) rfl rfl (hb hby d1_32)
  have E_a1_5 : Exa Z h5 a1 "com/example/berthwise/berthwise/model/Placement" := E_a1_4.wr W5
  have F_a1_vessel_5 : Fld Z h5 a1 "com/example/berthwise/berthwise/model/Placement" "vessel" "Lcom/example/berthwise/berthwise/model/Vessel;" .null := F_a1_vessel_4.other W5 (Or.inr (slot_ne (t := (.object "com/example/berthwise/berthwise/model/Vessel")) (t' := .int) (Or.inr (hw _ (List.mem_of_getElem? (i := 11) rfl))) (Or.inr (hw _ (List.mem_of_getElem? (i := 15) rfl))) (by decide) (by decide) (by decide)))
  have F_a1_start_5 : Fld Z h5 a1 "com/example/berthwise/berthwise/model/Placement" "start" "I" (.int p2) := F_a1_start_4.other W5 (Or.inr (slot_ne (t := .int) (t' := .int) (Or.inr (hw _ (List.mem_of_getElem? (i := 13) rfl))) (Or.inr (hw _ (List.mem_of_getElem? (i := 15) rfl))) (by decide) (by decide) (by decide)))
  have F_a1_position_5 : Fld Z h5 a1 "com/example/berthwise/berthwise/model/Placement" "position" "I" (.int p3) := F_a1_position_4.same W5
  have F_a1_cranes_5 : Fld Z h5 a1 "com/example/berthwise/berthwise/model/Placement" "cranes" "[I" u_cranes := F_a1_cranes_4.other W5 (Or.inr (slot_ne (t := (.array .int)) (t' := .int) (Or.inr (hw _ (List.mem_of_getElem? (i := 26) rfl))) (Or.inr (hw _ (List.mem_of_getElem? (i := 15) rfl))) (by decide) (by decide) (by decide)))
  have V_ar_5 : Arv Z h5 ar kA .int N vs (.int (0 : Int32)) := V_ar_4.other W5 ne_ar_a1
  have E_ar_5 : Exa Z h5 ar "[I" := E_ar_4.wr W5
  have SZ5 : n0 ≤ h5.size := by rw [Wr.size W5]; exact SZ4
  have K5 : Keep h0 h5 [a1] := K4.wr W5 (Or.inl (List.mem_of_getElem? (i := 0) rfl))
  have N5 := Fr.snoc X5 N4 g_a1
  refine Gl.go (fun _ k => st5 _ k) ?_
  show Gl p.tables e below (QQof s (Q_ini Z a1 ar p2 p3 kA N vs u_vessel u_start u_position u_cranes h0 n0) 1 4) (T5.setTop (mkF m 35 #[.val (.ref a1), .val .null, .val (.int p2), .val (.int p3), .val (.ref ar)] []))
  refine Gl.go (fun _ k => XS.aloadN X5.here hx rfl (hb hby d1_35) rfl rfl  k) ?_
  show Gl p.tables e below (QQof s (Q_ini Z a1 ar p2 p3 kA N vs u_vessel u_start u_position u_cranes h0 n0) 1 4) (T5.setTop (mkF m 36 #[.val (.ref a1), .val .null, .val (.int p2), .val (.int p3), .val (.ref ar)] [(.ref a1)]))
  refine Gl.go (fun _ k => XS.aload X5.here hx rfl (hb hby d1_36) rfl rfl  k) ?_
  show Gl p.tables e below (QQof s (Q_ini Z a1 ar p2 p3 kA N vs u_vessel u_start u_position u_cranes h0 n0) 1 4) (T5.setTop (mkF m 38 #[.val (.ref a1), .val .null, .val (.int p2), .val (.int p3), .val (.ref ar)] [(.ref ar), (.ref a1)]))
  obtain ⟨T6, h6, X6, e6, E6, A6, Y6, st6⟩ := cloneH X5 hx hZ hown (hw _ (List.mem_of_getElem? (i := 16) rfl)) (hw _ (List.mem_of_getElem? (i := 17) rfl)) (hw _ (List.mem_of_getElem? (i := 21) rfl)) (hw _ (List.mem_of_getElem? (i := 19) rfl)) (hw _ (List.mem_of_getElem? (i := 20) rfl)) (hw _ (List.mem_of_getElem? (i := 22) rfl)) e5 (Arv.arh V_ar_5) E_ar_5 (g := (mkF m 38 #[.val (.ref a1), .val .null, .val (.int p2), .val (.int p3), .val (.ref ar)] [(.ref ar), (.ref a1)])) rfl (by rw [hml]; rfl) rfl (hb hby d1_38) (by decide) (W := 1) (cap := 4) (by show 2 * 0 + _ ≤ _; exact Nat.le_of_eq rfl) (by decide) hcap (by decide) (by decide)
  obtain ⟨b6, g6⟩ : ∃ z, z = h5.size := ⟨_, rfl⟩
  rw [← g6] at A6 Y6 st6
  have g_b6 : n0 ≤ b6 := Nat.le_trans SZ5 (Nat.le_of_eq g6.symm)
  have sz_b6 : h0.size ≤ b6 := Nat.le_trans K5.1 (Nat.le_of_eq g6.symm)
  have ne_a1_b6 : a1 ≠ b6 := Nat.ne_of_lt (Nat.lt_of_lt_of_le E_a1_5.lt (Nat.le_of_eq g6.symm))
  have ne_ar_b6 : ar ≠ b6 := Nat.ne_of_lt (Nat.lt_of_lt_of_le V_ar_5.lt (Nat.le_of_eq g6.symm))
  have E_a1_6 : Exa Z h6 a1 "com/example/berthwise/berthwise/model/Placement" := E_a1_5.ext E6
  have F_a1_vessel_6 : Fld Z h6 a1 "com/example/berthwise/berthwise/model/Placement" "vessel" "Lcom/example/berthwise/berthwise/model/Vessel;" .null := F_a1_vessel_5.ext E6
  have F_a1_start_6 : Fld Z h6 a1 "com/example/berthwise/berthwise/model/Placement" "start" "I" (.int p2) := F_a1_start_5.ext E6
  have F_a1_position_6 : Fld Z h6 a1 "com/example/berthwise/berthwise/model/Placement" "position" "I" (.int p3) := F_a1_position_5.ext E6
  have F_a1_cranes_6 : Fld Z h6 a1 "com/example/berthwise/berthwise/model/Placement" "cranes" "[I" u_cranes := F_a1_cranes_5.ext E6
  have V_ar_6 : Arv Z h6 ar kA .int N vs (.int (0 : Int32)) := V_ar_5.ext E6
  have E_ar_6 : Exa Z h6 ar "[I" := E_ar_5.ext E6
  have SZ6 : n0 ≤ h6.size := Nat.le_trans SZ5 E6.1
  have K6 : Keep h0 h6 [a1] := K5.ext E6
  have V_b6_6 : Arv Z h6 b6 kA .int N vs (.int (0 : Int32)) := A6
  refine Gl.go (fun _ k => st6 _ k) ?_
  show Gl p.tables e below (QQof s (Q_ini Z a1 ar p2 p3 kA N vs u_vessel u_start u_position u_cranes h0 n0) 1 4) (T6.setTop (mkF m 41 #[.val (.ref a1), .val .null, .val (.int p2), .val (.int p3), .val (.ref ar)] [(.ref b6), (.ref a1)]))
  obtain ⟨T7, X7, e7, st7⟩ := castY X6 hx hZ hown (hw _ (List.mem_of_getElem? (i := 23) rfl)) e6 (Ins.self Y6) (g := (mkF m 41 #[.val (.ref a1), .val .null, .val (.int p2), .val (.int p3), .val (.ref ar)] [(.ref b6), (.ref a1)])) rfl rfl (hb hby d1_41)
  refine Gl.go (fun _ k => st7 _ k) ?_
  show Gl p.tables e below (QQof s (Q_ini Z a1 ar p2 p3 kA N vs u_vessel u_start u_position u_cranes h0 n0) 1 4) (T7.setTop (mkF m 44 #[.val (.ref a1), .val .null, .val (.int p2), .val (.int p3), .val (.ref ar)] [(.ref b6), (.ref a1)]))
  obtain ⟨T8, h8, X8, e8, W8, st8⟩ := putF X7 hx hZ hown (host := "") (Or.inl (hw _ (List.mem_of_getElem? (i := 25) rfl))) Via.refl e7 F_a1_cranes_6 E_a1_6 (Or.inr ⟨(hw _ (List.mem_of_getElem? (i := 26) rfl)), rfl, hnm⟩) (hw _ (List.mem_of_getElem? (i := 2) rfl)) (ty := (.array .int)) (by decide) rfl rfl (g := (mkF m 44 #[.val (.ref a1), .val .null, .val (.int p2), .val (.int p3), .val (.ref ar)] [(.ref b6), (.ref a1)])) rfl rfl (hb hby d1_44)
  have E_a1_8 : Exa Z h8 a1 "com/example/berthwise/berthwise/model/Placement" := E_a1_6.wr W8
  have F_a1_vessel_8 : Fld Z h8 a1 "com/example/berthwise/berthwise/model/Placement" "vessel" "Lcom/example/berthwise/berthwise/model/Vessel;" .null := F_a1_vessel_6.other W8 (Or.inr (slot_ne (t := (.object "com/example/berthwise/berthwise/model/Vessel")) (t' := (.array .int)) (Or.inr (hw _ (List.mem_of_getElem? (i := 11) rfl))) (Or.inr (hw _ (List.mem_of_getElem? (i := 26) rfl))) (by decide) (by decide) (by decide)))
  have F_a1_start_8 : Fld Z h8 a1 "com/example/berthwise/berthwise/model/Placement" "start" "I" (.int p2) := F_a1_start_6.other W8 (Or.inr (slot_ne (t := .int) (t' := (.array .int)) (Or.inr (hw _ (List.mem_of_getElem? (i := 13) rfl))) (Or.inr (hw _ (List.mem_of_getElem? (i := 26) rfl))) (by decide) (by decide) (by decide)))
  have F_a1_position_8 : Fld Z h8 a1 "com/example/berthwise/berthwise/model/Placement" "position" "I" (.int p3) := F_a1_position_6.other W8 (Or.inr (slot_ne (t := .int) (t' := (.array .int)) (Or.inr (hw _ (List.mem_of_getElem? (i := 15) rfl))) (Or.inr (hw _ (List.mem_of_getElem? (i := 26) rfl))) (by decide) (by decide) (by decide)))
  have F_a1_cranes_8 : Fld Z h8 a1 "com/example/berthwise/berthwise/model/Placement" "cranes" "[I" (.ref b6) := F_a1_cranes_6.same W8
  have V_ar_8 : Arv Z h8 ar kA .int N vs (.int (0 : Int32)) := V_ar_6.other W8 ne_ar_a1
  have E_ar_8 : Exa Z h8 ar "[I" := E_ar_6.wr W8
  have V_b6_8 : Arv Z h8 b6 kA .int N vs (.int (0 : Int32)) := V_b6_6.other W8 (Ne.symm ne_a1_b6)
  have E_b6_8 : Exa Z h8 b6 "[I" := Y6.wr W8
  have SZ8 : n0 ≤ h8.size := by rw [Wr.size W8]; exact SZ6
  have K8 : Keep h0 h8 [a1] := K6.wr W8 (Or.inl (List.mem_of_getElem? (i := 0) rfl))
  have N8 := Fr.snoc X8 N5 g_a1
  refine Gl.go (fun _ k => st8 _ k) ?_
  show Gl p.tables e below (QQof s (Q_ini Z a1 ar p2 p3 kA N vs u_vessel u_start u_position u_cranes h0 n0) 1 4) (T8.setTop (mkF m 47 #[.val (.ref a1), .val .null, .val (.int p2), .val (.int p3), .val (.ref ar)] []))
  refine leafV X8 hx hlk Bd.returns (hb hby d1_47) ?_ (by decide) (by decide)
  rw [e8]
  exact ⟨b6, rfl, N8, K8, sz_b6, E_a1_8, F_a1_cranes_8, V_b6_8⟩
def Q_ch1 (Z : State) (a1 b : Addr) (kA : ClassId) (u0 : Int32) (h0 : Heap) (n0 : Nat) (v : Option Value) (h : Heap) (L : List Loc) : Prop := v = some (.long (adL (0 : Int64) u0)) ∧ Fr n0 L ∧ h = h0
set_option maxRecDepth 65536 in
set_option maxHeartbeats 40000000 in
theorem rm_ch1 (l : Launch) (Z : State) (a0 : Array Value) (hw : ∀ d ∈ tables_1, d.before a0 Z = true) (ws : List Jvm.Cond) (a1 b : Addr) (kA : ClassId) (u0 : Int32) (h0 : Heap) (n0 : Nat) (Z0 : n0 ≤ h0.size) (Fc : Fld Z h0 a1 "com/example/berthwise/berthwise/model/Placement" "cranes" "[I" (.ref b)) (V0 : Arv Z h0 b kA .int (1 : Int32) [(.int u0)] (.int (0 : Int32))) :
    MetFree l (⟨"com/example/berthwise/berthwise/model/Placement", "craneHours", "()J"⟩ : MethodName) (head1 (Jvm.Cond.code (⟨"com/example/berthwise/berthwise/model/Placement", "craneHours", "()J"⟩ : MethodName) prog_23_method_8_code 7 (some .long) :: ws) ({ frames := 0, cells := 0, slots := 0, locals := 0 } : Room)) (fun aa U => aa = #[(.ref a1)] ∧ Z.Warmed39 U.vm ∧ U.heap = h0) (fun _ _ _ _ _ => True) (fun _ U o U' => ∃ v L, o = .returned v ∧ Q_ch1 Z a1 b kA u0 h0 n0 v U'.heap L ∧ FrameEnd U o U' L ({ frames := 0, cells := 0, slots := 0, locals := 0 } : Room).cells ({ frames := 0, cells := 0, slots := 0, locals := 0 } : Room).slots) := by
  refine MetFree.of_bodySF (plainFor_of_name pn_0) hisR ?_
  intro p e s m args below meth c s₁ Bd hml0 hP hK
  obtain ⟨rfl, hZ, hh⟩ := hP
  have hx := Bd.exec
  have hby := Bd.bytes
  have hml : c.maxLocals = 7 := hml0
  have hown : s.vm.findClass "com/example/berthwise/berthwise/model/Placement" = some m.cls := findClass_of_methodNamed Bd.named
  have hnm := (name_of_methodNamed Bd.named Bd.method).1
  have hlk : meth.locks = false := BodyLoose.notSynchronized Bd
  have X0 : Stand p l e ({ frames := 0, cells := 0, slots := 0, locals := 0 } : Room) s m #[(.ref a1)] below meth c s₁ [] 0 0 := Stand.of_body Bd
  have e0 : s₁.heap = h0 := by rw [← hh, Bd.state]; rfl
  have N0 := Fr.nil n0
  have K0 : Keep h0 h0 [] := Keep.refl _ _
  show Gl p.tables e below (QQof s (Q_ch1 Z a1 b kA u0 h0 n0) 0 0) (s₁.setTop (entryFrame m #[(.ref a1)] 7))
  refine Gl.go (fun t k => castTop (ef_ch1 m a1) k) ?_
  show Gl p.tables e below (QQof s (Q_ch1 Z a1 b kA u0 h0 n0) 0 0) (s₁.setTop (mkF m 0 #[.val (.ref a1), .unset, .unset, .unset, .unset, .unset, .unset] []))
  refine Gl.go (fun _ k => XS.lconst X0.here hx rfl (hb hby d3_0) k) ?_
  show Gl p.tables e below (QQof s (Q_ch1 Z a1 b kA u0 h0 n0) 0 0) (s₁.setTop (mkF m 1 #[.val (.ref a1), .unset, .unset, .unset, .unset, .unset, .unset] [(.long (0 : Int64))]))
  refine Gl.go (fun _ k => XS.lstoreN X0.here hx rfl (hb hby d3_1) rfl (l' := #[.val (.ref a1), .val (.long (0 : Int64)), .second, .unset, .unset, .unset, .unset]) rfl k) ?_
  show Gl p.tables e below (QQof s (Q_ch1 Z a1 b kA u0 h0 n0) 0 0) (s₁.setTop (mkF m 2 #[.val (.ref a1), .val (.long (0 : Int64)), .second, .unset, .unset, .unset, .unset] []))
  refine Gl.go (fun _ k => XS.aloadN X0.here hx rfl (hb hby d3_2) rfl rfl  k) ?_
  show Gl p.tables e below (QQof s (Q_ch1 Z a1 b kA u0 h0 n0) 0 0) (s₁.setTop (mkF m 3 #[.val (.ref a1), .val (.long (0 : Int64)), .second, .unset, .unset, .unset, .unset] [(.ref a1)]))
  obtain ⟨T1, X1, e1, st1⟩ := getF X0 hx hZ hown (host := "") (Or.inl (hw _ (List.mem_of_getElem? (i := 25) rfl))) Via.refl e0 Fc (g := (mkF m 3 #[.val (.ref a1), .val (.long (0 : Int64)), .second, .unset, .unset, .unset, .unset] [(.ref a1)])) rfl rfl (hb hby d3_3)
  refine Gl.go (fun _ k => st1 _ k) ?_
  show Gl p.tables e below (QQof s (Q_ch1 Z a1 b kA u0 h0 n0) 0 0) (T1.setTop (mkF m 6 #[.val (.ref a1), .val (.long (0 : Int64)), .second, .unset, .unset, .unset, .unset] [(.ref b)]))
  refine Gl.go (fun _ k => XS.astoreN X1.here hx rfl (hb hby d3_6) rfl rfl (l' := #[.val (.ref a1), .val (.long (0 : Int64)), .second, .val (.ref b), .unset, .unset, .unset]) rfl k) ?_
  show Gl p.tables e below (QQof s (Q_ch1 Z a1 b kA u0 h0 n0) 0 0) (T1.setTop (mkF m 7 #[.val (.ref a1), .val (.long (0 : Int64)), .second, .val (.ref b), .unset, .unset, .unset] []))
  refine Gl.go (fun _ k => XS.aloadN X1.here hx rfl (hb hby d3_7) rfl rfl  k) ?_
  show Gl p.tables e below (QQof s (Q_ch1 Z a1 b kA u0 h0 n0) 0 0) (T1.setTop (mkF m 8 #[.val (.ref a1), .val (.long (0 : Int64)), .second, .val (.ref b), .unset, .unset, .unset] [(.ref b)]))
  obtain ⟨cl2, Ar2, qA2, SA2, NA2, HA2, GA2⟩ := id V0
  refine Gl.go (fun _ k => X1.arraylength hx (by rw [e1]; exact Ar2.1) (State.isArrayOf_alike hZ.alike Ar2.2.1) (g := (mkF m 8 #[.val (.ref a1), .val (.long (0 : Int64)), .second, .val (.ref b), .unset, .unset, .unset] [(.ref b)])) rfl rfl (hb hby d3_8) _ k) ?_
  rw [len_of SA2 NA2]
  show Gl p.tables e below (QQof s (Q_ch1 Z a1 b kA u0 h0 n0) 0 0) (T1.setTop (mkF m 9 #[.val (.ref a1), .val (.long (0 : Int64)), .second, .val (.ref b), .unset, .unset, .unset] [(.int (1 : Int32))]))
  refine Gl.go (fun _ k => XS.istore X1.here hx rfl (hb hby d3_9) rfl (l' := #[.val (.ref a1), .val (.long (0 : Int64)), .second, .val (.ref b), .val (.int (1 : Int32)), .unset, .unset]) rfl k) ?_
  show Gl p.tables e below (QQof s (Q_ch1 Z a1 b kA u0 h0 n0) 0 0) (T1.setTop (mkF m 11 #[.val (.ref a1), .val (.long (0 : Int64)), .second, .val (.ref b), .val (.int (1 : Int32)), .unset, .unset] []))
  refine Gl.go (fun _ k => XS.iconst X1.here hx rfl (hb hby d3_11) k) ?_
  show Gl p.tables e below (QQof s (Q_ch1 Z a1 b kA u0 h0 n0) 0 0) (T1.setTop (mkF m 12 #[.val (.ref a1), .val (.long (0 : Int64)), .second, .val (.ref b), .val (.int (1 : Int32)), .unset, .unset] [(.int (0 : Int32))]))
  refine Gl.go (fun _ k => XS.istore X1.here hx rfl (hb hby d3_12) rfl (l' := #[.val (.ref a1), .val (.long (0 : Int64)), .second, .val (.ref b), .val (.int (1 : Int32)), .val (.int (0 : Int32)), .unset]) rfl k) ?_
  show Gl p.tables e below (QQof s (Q_ch1 Z a1 b kA u0 h0 n0) 0 0) (T1.setTop (mkF m 14 #[.val (.ref a1), .val (.long (0 : Int64)), .second, .val (.ref b), .val (.int (1 : Int32)), .val (.int (0 : Int32)), .unset] []))
  refine Gl.go (fun _ k => XS.iload X1.here hx rfl (hb hby d3_14) rfl  k) ?_
  show Gl p.tables e below (QQof s (Q_ch1 Z a1 b kA u0 h0 n0) 0 0) (T1.setTop (mkF m 16 #[.val (.ref a1), .val (.long (0 : Int64)), .second, .val (.ref b), .val (.int (1 : Int32)), .val (.int (0 : Int32)), .unset] [(.int (0 : Int32))]))
  refine Gl.go (fun _ k => XS.iload X1.here hx rfl (hb hby d3_16) rfl  k) ?_
  show Gl p.tables e below (QQof s (Q_ch1 Z a1 b kA u0 h0 n0) 0 0) (T1.setTop (mkF m 18 #[.val (.ref a1), .val (.long (0 : Int64)), .second, .val (.ref b), .val (.int (1 : Int32)), .val (.int (0 : Int32)), .unset] [(.int (1 : Int32)), (.int (0 : Int32))]))
  refine Gl.go (fun _ k => XS.icmpNo X1.here hx rfl (hb hby d3_18) rfl (tlt (by decide)).2.1 k) ?_
  show Gl p.tables e below (QQof s (Q_ch1 Z a1 b kA u0 h0 n0) 0 0) (T1.setTop (mkF m 21 #[.val (.ref a1), .val (.long (0 : Int64)), .second, .val (.ref b), .val (.int (1 : Int32)), .val (.int (0 : Int32)), .unset] []))
  refine Gl.go (fun _ k => XS.aloadN X1.here hx rfl (hb hby d3_21) rfl rfl  k) ?_
  show Gl p.tables e below (QQof s (Q_ch1 Z a1 b kA u0 h0 n0) 0 0) (T1.setTop (mkF m 22 #[.val (.ref a1), .val (.long (0 : Int64)), .second, .val (.ref b), .val (.int (1 : Int32)), .val (.int (0 : Int32)), .unset] [(.ref b)]))
  refine Gl.go (fun _ k => XS.iload X1.here hx rfl (hb hby d3_22) rfl  k) ?_
  show Gl p.tables e below (QQof s (Q_ch1 Z a1 b kA u0 h0 n0) 0 0) (T1.setTop (mkF m 24 #[.val (.ref a1), .val (.long (0 : Int64)), .second, .val (.ref b), .val (.int (1 : Int32)), .val (.int (0 : Int32)), .unset] [(.int (0 : Int32)), (.ref b)]))
  obtain ⟨cl3, Ar3, qA3, SA3, NA3, HA3, GA3⟩ := id V0
  have hin3 := inb_of (j := (0 : Int32)) SA3 ⟨by decide, by decide⟩
  have hat3 : cl3.slots[((0 : Int32)).toNatClampNeg]? = some (.int u0) := HA3.at hin3 rfl
  refine Gl.go (fun _ k => X1.iaload hx (j := (0 : Int32)) (v := (.int u0)) (by rw [e1]; exact Ar3.1) (State.isArrayOf_alike hZ.alike Ar3.2.1) Ar3.2.2 hin3 hat3 (g := (mkF m 24 #[.val (.ref a1), .val (.long (0 : Int64)), .second, .val (.ref b), .val (.int (1 : Int32)), .val (.int (0 : Int32)), .unset] [(.int (0 : Int32)), (.ref b)])) rfl rfl (hb hby d3_24) _ k) ?_
  show Gl p.tables e below (QQof s (Q_ch1 Z a1 b kA u0 h0 n0) 0 0) (T1.setTop (mkF m 25 #[.val (.ref a1), .val (.long (0 : Int64)), .second, .val (.ref b), .val (.int (1 : Int32)), .val (.int (0 : Int32)), .unset] [(.int u0)]))
  refine Gl.go (fun _ k => XS.istore X1.here hx rfl (hb hby d3_25) rfl (l' := #[.val (.ref a1), .val (.long (0 : Int64)), .second, .val (.ref b), .val (.int (1 : Int32)), .val (.int (0 : Int32)), .val (.int u0)]) rfl k) ?_
  show Gl p.tables e below (QQof s (Q_ch1 Z a1 b kA u0 h0 n0) 0 0) (T1.setTop (mkF m 27 #[.val (.ref a1), .val (.long (0 : Int64)), .second, .val (.ref b), .val (.int (1 : Int32)), .val (.int (0 : Int32)), .val (.int u0)] []))
  refine Gl.go (fun _ k => XS.lloadN X1.here hx rfl (hb hby d3_27) rfl  k) ?_
  show Gl p.tables e below (QQof s (Q_ch1 Z a1 b kA u0 h0 n0) 0 0) (T1.setTop (mkF m 28 #[.val (.ref a1), .val (.long (0 : Int64)), .second, .val (.ref b), .val (.int (1 : Int32)), .val (.int (0 : Int32)), .val (.int u0)] [(.long (0 : Int64))]))
  refine Gl.go (fun _ k => XS.iload X1.here hx rfl (hb hby d3_28) rfl  k) ?_
  show Gl p.tables e below (QQof s (Q_ch1 Z a1 b kA u0 h0 n0) 0 0) (T1.setTop (mkF m 30 #[.val (.ref a1), .val (.long (0 : Int64)), .second, .val (.ref b), .val (.int (1 : Int32)), .val (.int (0 : Int32)), .val (.int u0)] [(.int u0), (.long (0 : Int64))]))
  refine Gl.go (fun _ k => XS.i2l X1.here hx rfl (hb hby d3_30) rfl k) ?_
  show Gl p.tables e below (QQof s (Q_ch1 Z a1 b kA u0 h0 n0) 0 0) (T1.setTop (mkF m 31 #[.val (.ref a1), .val (.long (0 : Int64)), .second, .val (.ref b), .val (.int (1 : Int32)), .val (.int (0 : Int32)), .val (.int u0)] [(.long (u0.toInt64)), (.long (0 : Int64))]))
  refine Gl.go (fun _ k => XS.ladd X1.here hx rfl (hb hby d3_31) rfl k) ?_
  show Gl p.tables e below (QQof s (Q_ch1 Z a1 b kA u0 h0 n0) 0 0) (T1.setTop (mkF m 32 #[.val (.ref a1), .val (.long (0 : Int64)), .second, .val (.ref b), .val (.int (1 : Int32)), .val (.int (0 : Int32)), .val (.int u0)] [(.long ((0 : Int64) + (u0.toInt64)))]))
  show Gl p.tables e below (QQof s (Q_ch1 Z a1 b kA u0 h0 n0) 0 0) (T1.setTop (mkF m 32 #[.val (.ref a1), .val (.long (0 : Int64)), .second, .val (.ref b), .val (.int (1 : Int32)), .val (.int (0 : Int32)), .val (.int u0)] [(.long (adL (0 : Int64) u0))]))
  refine Gl.go (fun _ k => XS.lstoreN X1.here hx rfl (hb hby d3_32) rfl (l' := #[.val (.ref a1), .val (.long (adL (0 : Int64) u0)), .second, .val (.ref b), .val (.int (1 : Int32)), .val (.int (0 : Int32)), .val (.int u0)]) rfl k) ?_
  show Gl p.tables e below (QQof s (Q_ch1 Z a1 b kA u0 h0 n0) 0 0) (T1.setTop (mkF m 33 #[.val (.ref a1), .val (.long (adL (0 : Int64) u0)), .second, .val (.ref b), .val (.int (1 : Int32)), .val (.int (0 : Int32)), .val (.int u0)] []))
  refine Gl.go (fun _ k => XS.iinc X1.here hx rfl (hb hby d3_33) rfl (l' := #[.val (.ref a1), .val (.long (adL (0 : Int64) u0)), .second, .val (.ref b), .val (.int (1 : Int32)), .val (.int ((0 : Int32) + (1 : Int32))), .val (.int u0)]) rfl k) ?_
  show Gl p.tables e below (QQof s (Q_ch1 Z a1 b kA u0 h0 n0) 0 0) (T1.setTop (mkF m 36 #[.val (.ref a1), .val (.long (adL (0 : Int64) u0)), .second, .val (.ref b), .val (.int (1 : Int32)), .val (.int ((0 : Int32) + (1 : Int32))), .val (.int u0)] []))
  rw [(by decide : ((0 : Int32) + (1 : Int32)) = (1 : Int32))]
  show Gl p.tables e below (QQof s (Q_ch1 Z a1 b kA u0 h0 n0) 0 0) (T1.setTop (mkF m 36 #[.val (.ref a1), .val (.long (adL (0 : Int64) u0)), .second, .val (.ref b), .val (.int (1 : Int32)), .val (.int (1 : Int32)), .val (.int u0)] []))
  refine Gl.go (fun _ k => XS.goto X1.here hx rfl (pc0 := 36) (pc' := 14) rfl (hb hby d3_36) (by decide) (by decide) k) ?_
  show Gl p.tables e below (QQof s (Q_ch1 Z a1 b kA u0 h0 n0) 0 0) (T1.setTop (mkF m 14 #[.val (.ref a1), .val (.long (adL (0 : Int64) u0)), .second, .val (.ref b), .val (.int (1 : Int32)), .val (.int (1 : Int32)), .val (.int u0)] []))
  refine Gl.go (fun _ k => XS.iload X1.here hx rfl (hb hby d3_14) rfl  k) ?_
  show Gl p.tables e below (QQof s (Q_ch1 Z a1 b kA u0 h0 n0) 0 0) (T1.setTop (mkF m 16 #[.val (.ref a1), .val (.long (adL (0 : Int64) u0)), .second, .val (.ref b), .val (.int (1 : Int32)), .val (.int (1 : Int32)), .val (.int u0)] [(.int (1 : Int32))]))
  refine Gl.go (fun _ k => XS.iload X1.here hx rfl (hb hby d3_16) rfl  k) ?_
  show Gl p.tables e below (QQof s (Q_ch1 Z a1 b kA u0 h0 n0) 0 0) (T1.setTop (mkF m 18 #[.val (.ref a1), .val (.long (adL (0 : Int64) u0)), .second, .val (.ref b), .val (.int (1 : Int32)), .val (.int (1 : Int32)), .val (.int u0)] [(.int (1 : Int32)), (.int (1 : Int32))]))
  refine Gl.go (fun _ k => XS.icmpYes X1.here hx rfl (pc0 := 18) (pc' := 39) rfl (hb hby d3_18) rfl (flt (by decide)).2.1 (by decide) (by decide) k) ?_
  show Gl p.tables e below (QQof s (Q_ch1 Z a1 b kA u0 h0 n0) 0 0) (T1.setTop (mkF m 39 #[.val (.ref a1), .val (.long (adL (0 : Int64) u0)), .second, .val (.ref b), .val (.int (1 : Int32)), .val (.int (1 : Int32)), .val (.int u0)] []))
  refine Gl.go (fun _ k => XS.lloadN X1.here hx rfl (hb hby d3_39) rfl  k) ?_
  show Gl p.tables e below (QQof s (Q_ch1 Z a1 b kA u0 h0 n0) 0 0) (T1.setTop (mkF m 40 #[.val (.ref a1), .val (.long (adL (0 : Int64) u0)), .second, .val (.ref b), .val (.int (1 : Int32)), .val (.int (1 : Int32)), .val (.int u0)] [(.long (adL (0 : Int64) u0))]))
  refine leafL X1 hx hlk Bd.returns (hb hby d3_40) ?_ (by decide) (by decide)
  exact ⟨rfl, N0, e1⟩
def Q_ch2 (Z : State) (a1 b : Addr) (kA : ClassId) (u0 u1 : Int32) (h0 : Heap) (n0 : Nat) (v : Option Value) (h : Heap) (L : List Loc) : Prop := v = some (.long (adL (adL (0 : Int64) u0) u1)) ∧ Fr n0 L ∧ h = h0
set_option maxRecDepth 65536 in
set_option maxHeartbeats 40000000 in
theorem rm_ch2 (l : Launch) (Z : State) (a0 : Array Value) (hw : ∀ d ∈ tables_1, d.before a0 Z = true) (ws : List Jvm.Cond) (a1 b : Addr) (kA : ClassId) (u0 u1 : Int32) (h0 : Heap) (n0 : Nat) (Z0 : n0 ≤ h0.size) (Fc : Fld Z h0 a1 "com/example/berthwise/berthwise/model/Placement" "cranes" "[I" (.ref b)) (V0 : Arv Z h0 b kA .int (2 : Int32) [(.int u0), (.int u1)] (.int (0 : Int32))) :
    MetFree l (⟨"com/example/berthwise/berthwise/model/Placement", "craneHours", "()J"⟩ : MethodName) (head1 (Jvm.Cond.code (⟨"com/example/berthwise/berthwise/model/Placement", "craneHours", "()J"⟩ : MethodName) prog_23_method_8_code 7 (some .long) :: ws) ({ frames := 0, cells := 0, slots := 0, locals := 0 } : Room)) (fun aa U => aa = #[(.ref a1)] ∧ Z.Warmed39 U.vm ∧ U.heap = h0) (fun _ _ _ _ _ => True) (fun _ U o U' => ∃ v L, o = .returned v ∧ Q_ch2 Z a1 b kA u0 u1 h0 n0 v U'.heap L ∧ FrameEnd U o U' L ({ frames := 0, cells := 0, slots := 0, locals := 0 } : Room).cells ({ frames := 0, cells := 0, slots := 0, locals := 0 } : Room).slots) := by
  refine MetFree.of_bodySF (plainFor_of_name pn_0) hisR ?_
  intro p e s m args below meth c s₁ Bd hml0 hP hK
  obtain ⟨rfl, hZ, hh⟩ := hP
  have hx := Bd.exec
  have hby := Bd.bytes
  have hml : c.maxLocals = 7 := hml0
  have hown : s.vm.findClass "com/example/berthwise/berthwise/model/Placement" = some m.cls := findClass_of_methodNamed Bd.named
  have hnm := (name_of_methodNamed Bd.named Bd.method).1
  have hlk : meth.locks = false := BodyLoose.notSynchronized Bd
  have X0 : Stand p l e ({ frames := 0, cells := 0, slots := 0, locals := 0 } : Room) s m #[(.ref a1)] below meth c s₁ [] 0 0 := Stand.of_body Bd
  have e0 : s₁.heap = h0 := by rw [← hh, Bd.state]; rfl
  have N0 := Fr.nil n0
  have K0 : Keep h0 h0 [] := Keep.refl _ _
  show Gl p.tables e below (QQof s (Q_ch2 Z a1 b kA u0 u1 h0 n0) 0 0) (s₁.setTop (entryFrame m #[(.ref a1)] 7))
  refine Gl.go (fun t k => castTop (ef_ch2 m a1) k) ?_
  show Gl p.tables e below (QQof s (Q_ch2 Z a1 b kA u0 u1 h0 n0) 0 0) (s₁.setTop (mkF m 0 #[.val (.ref a1), .unset, .unset, .unset, .unset, .unset, .unset] []))
  refine Gl.go (fun _ k => XS.lconst X0.here hx rfl (hb hby d3_0) k) ?_
  show Gl p.tables e below (QQof s (Q_ch2 Z a1 b kA u0 u1 h0 n0) 0 0) (s₁.setTop (mkF m 1 #[.val (.ref a1), .unset, .unset, .unset, .unset, .unset, .unset] [(.long (0 : Int64))]))
  refine Gl.go (fun _ k => XS.lstoreN X0.here hx rfl (hb hby d3_1) rfl (l' := #[.val (.ref a1), .val (.long (0 : Int64)), .second, .unset, .unset, .unset, .unset]) rfl k) ?_
  show Gl p.tables e below (QQof s (Q_ch2 Z a1 b kA u0 u1 h0 n0) 0 0) (s₁.setTop (mkF m 2 #[.val (.ref a1), .val (.long (0 : Int64)), .second, .unset, .unset, .unset, .unset] []))
  refine Gl.go (fun _ k => XS.aloadN X0.here hx rfl (hb hby d3_2) rfl rfl  k) ?_
  show Gl p.tables e below (QQof s (Q_ch2 Z a1 b kA u0 u1 h0 n0) 0 0) (s₁.setTop (mkF m 3 #[.val (.ref a1), .val (.long (0 : Int64)), .second, .unset, .unset, .unset, .unset] [(.ref a1)]))
  obtain ⟨T1, X1, e1, st1⟩ := getF X0 hx hZ hown (host := "") (Or.inl (hw _ (List.mem_of_getElem? (i := 25) rfl))) Via.refl e0 Fc (g := (mkF m 3 #[.val (.ref a1), .val (.long (0 : Int64)), .second, .unset, .unset, .unset, .unset] [(.ref a1)])) rfl rfl (hb hby d3_3)
  refine Gl.go (fun _ k => st1 _ k) ?_
  show Gl p.tables e below (QQof s (Q_ch2 Z a1 b kA u0 u1 h0 n0) 0 0) (T1.setTop (mkF m 6 #[.val (.ref a1), .val (.long (0 : Int64)), .second, .unset, .unset, .unset, .unset] [(.ref b)]))
  refine Gl.go (fun _ k => XS.astoreN X1.here hx rfl (hb hby d3_6) rfl rfl (l' := #[.val (.ref a1), .val (.long (0 : Int64)), .second, .val (.ref b), .unset, .unset, .unset]) rfl k) ?_
  show Gl p.tables e below (QQof s (Q_ch2 Z a1 b kA u0 u1 h0 n0) 0 0) (T1.setTop (mkF m 7 #[.val (.ref a1), .val (.long (0 : Int64)), .second, .val (.ref b), .unset, .unset, .unset] []))
  refine Gl.go (fun _ k => XS.aloadN X1.here hx rfl (hb hby d3_7) rfl rfl  k) ?_
  show Gl p.tables e below (QQof s (Q_ch2 Z a1 b kA u0 u1 h0 n0) 0 0) (T1.setTop (mkF m 8 #[.val (.ref a1), .val (.long (0 : Int64)), .second, .val (.ref b), .unset, .unset, .unset] [(.ref b)]))
  obtain ⟨cl2, Ar2, qA2, SA2, NA2, HA2, GA2⟩ := id V0
  refine Gl.go (fun _ k => X1.arraylength hx (by rw [e1]; exact Ar2.1) (State.isArrayOf_alike hZ.alike Ar2.2.1) (g := (mkF m 8 #[.val (.ref a1), .val (.long (0 : Int64)), .second, .val (.ref b), .unset, .unset, .unset] [(.ref b)])) rfl rfl (hb hby d3_8) _ k) ?_
  rw [len_of SA2 NA2]
  show Gl p.tables e below (QQof s (Q_ch2 Z a1 b kA u0 u1 h0 n0) 0 0) (T1.setTop (mkF m 9 #[.val (.ref a1), .val (.long (0 : Int64)), .second, .val (.ref b), .unset, .unset, .unset] [(.int (2 : Int32))]))
  refine Gl.go (fun _ k => XS.istore X1.here hx rfl (hb hby d3_9) rfl (l' := #[.val (.ref a1), .val (.long (0 : Int64)), .second, .val (.ref b), .val (.int (2 : Int32)), .unset, .unset]) rfl k) ?_
  show Gl p.tables e below (QQof s (Q_ch2 Z a1 b kA u0 u1 h0 n0) 0 0) (T1.setTop (mkF m 11 #[.val (.ref a1), .val (.long (0 : Int64)), .second, .val (.ref b), .val (.int (2 : Int32)), .unset, .unset] []))
  refine Gl.go (fun _ k => XS.iconst X1.here hx rfl (hb hby d3_11) k) ?_
  show Gl p.tables e below (QQof s (Q_ch2 Z a1 b kA u0 u1 h0 n0) 0 0) (T1.setTop (mkF m 12 #[.val (.ref a1), .val (.long (0 : Int64)), .second, .val (.ref b), .val (.int (2 : Int32)), .unset, .unset] [(.int (0 : Int32))]))
  refine Gl.go (fun _ k => XS.istore X1.here hx rfl (hb hby d3_12) rfl (l' := #[.val (.ref a1), .val (.long (0 : Int64)), .second, .val (.ref b), .val (.int (2 : Int32)), .val (.int (0 : Int32)), .unset]) rfl k) ?_
  show Gl p.tables e below (QQof s (Q_ch2 Z a1 b kA u0 u1 h0 n0) 0 0) (T1.setTop (mkF m 14 #[.val (.ref a1), .val (.long (0 : Int64)), .second, .val (.ref b), .val (.int (2 : Int32)), .val (.int (0 : Int32)), .unset] []))
  refine Gl.go (fun _ k => XS.iload X1.here hx rfl (hb hby d3_14) rfl  k) ?_
  show Gl p.tables e below (QQof s (Q_ch2 Z a1 b kA u0 u1 h0 n0) 0 0) (T1.setTop (mkF m 16 #[.val (.ref a1), .val (.long (0 : Int64)), .second, .val (.ref b), .val (.int (2 : Int32)), .val (.int (0 : Int32)), .unset] [(.int (0 : Int32))]))
  refine Gl.go (fun _ k => XS.iload X1.here hx rfl (hb hby d3_16) rfl  k) ?_
  show Gl p.tables e below (QQof s (Q_ch2 Z a1 b kA u0 u1 h0 n0) 0 0) (T1.setTop (mkF m 18 #[.val (.ref a1), .val (.long (0 : Int64)), .second, .val (.ref b), .val (.int (2 : Int32)), .val (.int (0 : Int32)), .unset] [(.int (2 : Int32)), (.int (0 : Int32))]))
  refine Gl.go (fun _ k => XS.icmpNo X1.here hx rfl (hb hby d3_18) rfl (tlt (by decide)).2.1 k) ?_
  show Gl p.tables e below (QQof s (Q_ch2 Z a1 b kA u0 u1 h0 n0) 0 0) (T1.setTop (mkF m 21 #[.val (.ref a1), .val (.long (0 : Int64)), .second, .val (.ref b), .val (.int (2 : Int32)), .val (.int (0 : Int32)), .unset] []))
  refine Gl.go (fun _ k => XS.aloadN X1.here hx rfl (hb hby d3_21) rfl rfl  k) ?_
  show Gl p.tables e below (QQof s (Q_ch2 Z a1 b kA u0 u1 h0 n0) 0 0) (T1.setTop (mkF m 22 #[.val (.ref a1), .val (.long (0 : Int64)), .second, .val (.ref b), .val (.int (2 : Int32)), .val (.int (0 : Int32)), .unset] [(.ref b)]))
  refine Gl.go (fun _ k => XS.iload X1.here hx rfl (hb hby d3_22) rfl  k) ?_
  show Gl p.tables e below (QQof s (Q_ch2 Z a1 b kA u0 u1 h0 n0) 0 0) (T1.setTop (mkF m 24 #[.val (.ref a1), .val (.long (0 : Int64)), .second, .val (.ref b), .val (.int (2 : Int32)), .val (.int (0 : Int32)), .unset] [(.int (0 : Int32)), (.ref b)]))
  obtain ⟨cl3, Ar3, qA3, SA3, NA3, HA3, GA3⟩ := id V0
  have hin3 := inb_of (j := (0 : Int32)) SA3 ⟨by decide, by decide⟩
  have hat3 : cl3.slots[((0 : Int32)).toNatClampNeg]? = some (.int u0) := HA3.at hin3 rfl
  refine Gl.go (fun _ k => X1.iaload hx (j := (0 : Int32)) (v := (.int u0)) (by rw [e1]; exact Ar3.1) (State.isArrayOf_alike hZ.alike Ar3.2.1) Ar3.2.2 hin3 hat3 (g := (mkF m 24 #[.val (.ref a1), .val (.long (0 : Int64)), .second, .val (.ref b), .val (.int (2 : Int32)), .val (.int (0 : Int32)), .unset] [(.int (0 : Int32)), (.ref b)])) rfl rfl (hb hby d3_24) _ k) ?_
  show Gl p.tables e below (QQof s (Q_ch2 Z a1 b kA u0 u1 h0 n0) 0 0) (T1.setTop (mkF m 25 #[.val (.ref a1), .val (.long (0 : Int64)), .second, .val (.ref b), .val (.int (2 : Int32)), .val (.int (0 : Int32)), .unset] [(.int u0)]))
  refine Gl.go (fun _ k => XS.istore X1.here hx rfl (hb hby d3_25) rfl (l' := #[.val (.ref a1), .val (.long (0 : Int64)), .second, .val (.ref b), .val (.int (2 : Int32)), .val (.int (0 : Int32)), .val (.int u0)]) rfl k) ?_
  show Gl p.tables e below (QQof s (Q_ch2 Z a1 b kA u0 u1 h0 n0) 0 0) (T1.setTop (mkF m 27 #[.val (.ref a1), .val (.long (0 : Int64)), .second, .val (.ref b), .val (.int (2 : Int32)), .val (.int (0 : Int32)), .val (.int u0)] []))
  refine Gl.go (fun _ k => XS.lloadN X1.here hx rfl (hb hby d3_27) rfl  k) ?_
  show Gl p.tables e below (QQof s (Q_ch2 Z a1 b kA u0 u1 h0 n0) 0 0) (T1.setTop (mkF m 28 #[.val (.ref a1), .val (.long (0 : Int64)), .second, .val (.ref b), .val (.int (2 : Int32)), .val (.int (0 : Int32)), .val (.int u0)] [(.long (0 : Int64))]))
  refine Gl.go (fun _ k => XS.iload X1.here hx rfl (hb hby d3_28) rfl  k) ?_
  show Gl p.tables e below (QQof s (Q_ch2 Z a1 b kA u0 u1 h0 n0) 0 0) (T1.setTop (mkF m 30 #[.val (.ref a1), .val (.long (0 : Int64)), .second, .val (.ref b), .val (.int (2 : Int32)), .val (.int (0 : Int32)), .val (.int u0)] [(.int u0), (.long (0 : Int64))]))
  refine Gl.go (fun _ k => XS.i2l X1.here hx rfl (hb hby d3_30) rfl k) ?_
  show Gl p.tables e below (QQof s (Q_ch2 Z a1 b kA u0 u1 h0 n0) 0 0) (T1.setTop (mkF m 31 #[.val (.ref a1), .val (.long (0 : Int64)), .second, .val (.ref b), .val (.int (2 : Int32)), .val (.int (0 : Int32)), .val (.int u0)] [(.long (u0.toInt64)), (.long (0 : Int64))]))
  refine Gl.go (fun _ k => XS.ladd X1.here hx rfl (hb hby d3_31) rfl k) ?_
  show Gl p.tables e below (QQof s (Q_ch2 Z a1 b kA u0 u1 h0 n0) 0 0) (T1.setTop (mkF m 32 #[.val (.ref a1), .val (.long (0 : Int64)), .second, .val (.ref b), .val (.int (2 : Int32)), .val (.int (0 : Int32)), .val (.int u0)] [(.long ((0 : Int64) + (u0.toInt64)))]))
  show Gl p.tables e below (QQof s (Q_ch2 Z a1 b kA u0 u1 h0 n0) 0 0) (T1.setTop (mkF m 32 #[.val (.ref a1), .val (.long (0 : Int64)), .second, .val (.ref b), .val (.int (2 : Int32)), .val (.int (0 : Int32)), .val (.int u0)] [(.long (adL (0 : Int64) u0))]))
  refine Gl.go (fun _ k => XS.lstoreN X1.here hx rfl (hb hby d3_32) rfl (l' := #[.val (.ref a1), .val (.long (adL (0 : Int64) u0)), .second, .val (.ref b), .val (.int (2 : Int32)), .val (.int (0 : Int32)), .val (.int u0)]) rfl k) ?_
  show Gl p.tables e below (QQof s (Q_ch2 Z a1 b kA u0 u1 h0 n0) 0 0) (T1.setTop (mkF m 33 #[.val (.ref a1), .val (.long (adL (0 : Int64) u0)), .second, .val (.ref b), .val (.int (2 : Int32)), .val (.int (0 : Int32)), .val (.int u0)] []))
  refine Gl.go (fun _ k => XS.iinc X1.here hx rfl (hb hby d3_33) rfl (l' := #[.val (.ref a1), .val (.long (adL (0 : Int64) u0)), .second, .val (.ref b), .val (.int (2 : Int32)), .val (.int ((0 : Int32) + (1 : Int32))), .val (.int u0)]) rfl k) ?_
  show Gl p.tables e below (QQof s (Q_ch2 Z a1 b kA u0 u1 h0 n0) 0 0) (T1.setTop (mkF m 36 #[.val (.ref a1), .val (.long (adL (0 : Int64) u0)), .second, .val (.ref b), .val (.int (2 : Int32)), .val (.int ((0 : Int32) + (1 : Int32))), .val (.int u0)] []))
  rw [(by decide : ((0 : Int32) + (1 : Int32)) = (1 : Int32))]
  show Gl p.tables e below (QQof s (Q_ch2 Z a1 b kA u0 u1 h0 n0) 0 0) (T1.setTop (mkF m 36 #[.val (.ref a1), .val (.long (adL (0 : Int64) u0)), .second, .val (.ref b), .val (.int (2 : Int32)), .val (.int (1 : Int32)), .val (.int u0)] []))
  refine Gl.go (fun _ k => XS.goto X1.here hx rfl (pc0 := 36) (pc' := 14) rfl (hb hby d3_36) (by decide) (by decide) k) ?_
  show Gl p.tables e below (QQof s (Q_ch2 Z a1 b kA u0 u1 h0 n0) 0 0) (T1.setTop (mkF m 14 #[.val (.ref a1), .val (.long (adL (0 : Int64) u0)), .second, .val (.ref b), .val (.int (2 : Int32)), .val (.int (1 : Int32)), .val (.int u0)] []))
  refine Gl.go (fun _ k => XS.iload X1.here hx rfl (hb hby d3_14) rfl  k) ?_
  show Gl p.tables e below (QQof s (Q_ch2 Z a1 b kA u0 u1 h0 n0) 0 0) (T1.setTop (mkF m 16 #[.val (.ref a1), .val (.long (adL (0 : Int64) u0)), .second, .val (.ref b), .val (.int (2 : Int32)), .val (.int (1 : Int32)), .val (.int u0)] [(.int (1 : Int32))]))
  refine Gl.go (fun _ k => XS.iload X1.here hx rfl (hb hby d3_16) rfl  k) ?_
  show Gl p.tables e below (QQof s (Q_ch2 Z a1 b kA u0 u1 h0 n0) 0 0) (T1.setTop (mkF m 18 #[.val (.ref a1), .val (.long (adL (0 : Int64) u0)), .second, .val (.ref b), .val (.int (2 : Int32)), .val (.int (1 : Int32)), .val (.int u0)] [(.int (2 : Int32)), (.int (1 : Int32))]))
  refine Gl.go (fun _ k => XS.icmpNo X1.here hx rfl (hb hby d3_18) rfl (tlt (by decide)).2.1 k) ?_
  show Gl p.tables e below (QQof s (Q_ch2 Z a1 b kA u0 u1 h0 n0) 0 0) (T1.setTop (mkF m 21 #[.val (.ref a1), .val (.long (adL (0 : Int64) u0)), .second, .val (.ref b), .val (.int (2 : Int32)), .val (.int (1 : Int32)), .val (.int u0)] []))
  refine Gl.go (fun _ k => XS.aloadN X1.here hx rfl (hb hby d3_21) rfl rfl  k) ?_
  show Gl p.tables e below (QQof s (Q_ch2 Z a1 b kA u0 u1 h0 n0) 0 0) (T1.setTop (mkF m 22 #[.val (.ref a1), .val (.long (adL (0 : Int64) u0)), .second, .val (.ref b), .val (.int (2 : Int32)), .val (.int (1 : Int32)), .val (.int u0)] [(.ref b)]))
  refine Gl.go (fun _ k => XS.iload X1.here hx rfl (hb hby d3_22) rfl  k) ?_
  show Gl p.tables e below (QQof s (Q_ch2 Z a1 b kA u0 u1 h0 n0) 0 0) (T1.setTop (mkF m 24 #[.val (.ref a1), .val (.long (adL (0 : Int64) u0)), .second, .val (.ref b), .val (.int (2 : Int32)), .val (.int (1 : Int32)), .val (.int u0)] [(.int (1 : Int32)), (.ref b)]))
  obtain ⟨cl4, Ar4, qA4, SA4, NA4, HA4, GA4⟩ := id V0
  have hin4 := inb_of (j := (1 : Int32)) SA4 ⟨by decide, by decide⟩
  have hat4 : cl4.slots[((1 : Int32)).toNatClampNeg]? = some (.int u1) := HA4.at hin4 rfl
  refine Gl.go (fun _ k => X1.iaload hx (j := (1 : Int32)) (v := (.int u1)) (by rw [e1]; exact Ar4.1) (State.isArrayOf_alike hZ.alike Ar4.2.1) Ar4.2.2 hin4 hat4 (g := (mkF m 24 #[.val (.ref a1), .val (.long (adL (0 : Int64) u0)), .second, .val (.ref b), .val (.int (2 : Int32)), .val (.int (1 : Int32)), .val (.int u0)] [(.int (1 : Int32)), (.ref b)])) rfl rfl (hb hby d3_24) _ k) ?_
  show Gl p.tables e below (QQof s (Q_ch2 Z a1 b kA u0 u1 h0 n0) 0 0) (T1.setTop (mkF m 25 #[.val (.ref a1), .val (.long (adL (0 : Int64) u0)), .second, .val (.ref b), .val (.int (2 : Int32)), .val (.int (1 : Int32)), .val (.int u0)] [(.int u1)]))
  refine Gl.go (fun _ k => XS.istore X1.here hx rfl (hb hby d3_25) rfl (l' := #[.val (.ref a1), .val (.long (adL (0 : Int64) u0)), .second, .val (.ref b), .val (.int (2 : Int32)), .val (.int (1 : Int32)), .val (.int u1)]) rfl k) ?_
  show Gl p.tables e below (QQof s (Q_ch2 Z a1 b kA u0 u1 h0 n0) 0 0) (T1.setTop (mkF m 27 #[.val (.ref a1), .val (.long (adL (0 : Int64) u0)), .second, .val (.ref b), .val (.int (2 : Int32)), .val (.int (1 : Int32)), .val (.int u1)] []))
  refine Gl.go (fun _ k => XS.lloadN X1.here hx rfl (hb hby d3_27) rfl  k) ?_
  show Gl p.tables e below (QQof s (Q_ch2 Z a1 b kA u0 u1 h0 n0) 0 0) (T1.setTop (mkF m 28 #[.val (.ref a1), .val (.long (adL (0 : Int64) u0)), .second, .val (.ref b), .val (.int (2 : Int32)), .val (.int (1 : Int32)), .val (.int u1)] [(.long (adL (0 : Int64) u0))]))
  refine Gl.go (fun _ k => XS.iload X1.here hx rfl (hb hby d3_28) rfl  k) ?_
  show Gl p.tables e below (QQof s (Q_ch2 Z a1 b kA u0 u1 h0 n0) 0 0) (T1.setTop (mkF m 30 #[.val (.ref a1), .val (.long (adL (0 : Int64) u0)), .second, .val (.ref b), .val (.int (2 : Int32)), .val (.int (1 : Int32)), .val (.int u1)] [(.int u1), (.long (adL (0 : Int64) u0))]))
  refine Gl.go (fun _ k => XS.i2l X1.here hx rfl (hb hby d3_30) rfl k) ?_
  show Gl p.tables e below (QQof s (Q_ch2 Z a1 b kA u0 u1 h0 n0) 0 0) (T1.setTop (mkF m 31 #[.val (.ref a1), .val (.long (adL (0 : Int64) u0)), .second, .val (.ref b), .val (.int (2 : Int32)), .val (.int (1 : Int32)), .val (.int u1)] [(.long (u1.toInt64)), (.long (adL (0 : Int64) u0))]))
  refine Gl.go (fun _ k => XS.ladd X1.here hx rfl (hb hby d3_31) rfl k) ?_
  show Gl p.tables e below (QQof s (Q_ch2 Z a1 b kA u0 u1 h0 n0) 0 0) (T1.setTop (mkF m 32 #[.val (.ref a1), .val (.long (adL (0 : Int64) u0)), .second, .val (.ref b), .val (.int (2 : Int32)), .val (.int (1 : Int32)), .val (.int u1)] [(.long ((adL (0 : Int64) u0) + (u1.toInt64)))]))
  show Gl p.tables e below (QQof s (Q_ch2 Z a1 b kA u0 u1 h0 n0) 0 0) (T1.setTop (mkF m 32 #[.val (.ref a1), .val (.long (adL (0 : Int64) u0)), .second, .val (.ref b), .val (.int (2 : Int32)), .val (.int (1 : Int32)), .val (.int u1)] [(.long (adL (adL (0 : Int64) u0) u1))]))
  refine Gl.go (fun _ k => XS.lstoreN X1.here hx rfl (hb hby d3_32) rfl (l' := #[.val (.ref a1), .val (.long (adL (adL (0 : Int64) u0) u1)), .second, .val (.ref b), .val (.int (2 : Int32)), .val (.int (1 : Int32)), .val (.int u1)]) rfl k) ?_
  show Gl p.tables e below (QQof s (Q_ch2 Z a1 b kA u0 u1 h0 n0) 0 0) (T1.setTop (mkF m 33 #[.val (.ref a1), .val (.long (adL (adL (0 : Int64) u0) u1)), .second, .val (.ref b), .val (.int (2 : Int32)), .val (.int (1 : Int32)), .val (.int u1)] []))
  refine Gl.go (fun _ k => XS.iinc X1.here hx rfl (hb hby d3_33) rfl (l' := #[.val (.ref a1), .val (.long (adL (adL (0 : Int64) u0) u1)), .second, .val (.ref b), .val (.int (2 : Int32)), .val (.int ((1 : Int32) + (1 : Int32))), .val (.int u1)]) rfl k) ?_
  show Gl p.tables e below (QQof s (Q_ch2 Z a1 b kA u0 u1 h0 n0) 0 0) (T1.setTop (mkF m 36 #[.val (.ref a1), .val (.long (adL (adL (0 : Int64) u0) u1)), .second, .val (.ref b), .val (.int (2 : Int32)), .val (.int ((1 : Int32) + (1 : Int32))), .val (.int u1)] []))
  rw [(by decide : ((1 : Int32) + (1 : Int32)) = (2 : Int32))]
  show Gl p.tables e below (QQof s (Q_ch2 Z a1 b kA u0 u1 h0 n0) 0 0) (T1.setTop (mkF m 36 #[.val (.ref a1), .val (.long (adL (adL (0 : Int64) u0) u1)), .second, .val (.ref b), .val (.int (2 : Int32)), .val (.int (2 : Int32)), .val (.int u1)] []))
  refine Gl.go (fun _ k => XS.goto X1.here hx rfl (pc0 := 36) (pc' := 14) rfl (hb hby d3_36) (by decide) (by decide) k) ?_
  show Gl p.tables e below (QQof s (Q_ch2 Z a1 b kA u0 u1 h0 n0) 0 0) (T1.setTop (mkF m 14 #[.val (.ref a1), .val (.long (adL (adL (0 : Int64) u0) u1)), .second, .val (.ref b), .val (.int (2 : Int32)), .val (.int (2 : Int32)), .val (.int u1)] []))
  refine Gl.go (fun _ k => XS.iload X1.here hx rfl (hb hby d3_14) rfl  k) ?_
  show Gl p.tables e below (QQof s (Q_ch2 Z a1 b kA u0 u1 h0 n0) 0 0) (T1.setTop (mkF m 16 #[.val (.ref a1), .val (.long (adL (adL (0 : Int64) u0) u1)), .second, .val (.ref b), .val (.int (2 : Int32)), .val (.int (2 : Int32)), .val (.int u1)] [(.int (2 : Int32))]))
  refine Gl.go (fun _ k => XS.iload X1.here hx rfl (hb hby d3_16) rfl  k) ?_
  show Gl p.tables e below (QQof s (Q_ch2 Z a1 b kA u0 u1 h0 n0) 0 0) (T1.setTop (mkF m 18 #[.val (.ref a1), .val (.long (adL (adL (0 : Int64) u0) u1)), .second, .val (.ref b), .val (.int (2 : Int32)), .val (.int (2 : Int32)), .val (.int u1)] [(.int (2 : Int32)), (.int (2 : Int32))]))
  refine Gl.go (fun _ k => XS.icmpYes X1.here hx rfl (pc0 := 18) (pc' := 39) rfl (hb hby d3_18) rfl (flt (by decide)).2.1 (by decide) (by decide) k) ?_
  show Gl p.tables e below (QQof s (Q_ch2 Z a1 b kA u0 u1 h0 n0) 0 0) (T1.setTop (mkF m 39 #[.val (.ref a1), .val (.long (adL (adL (0 : Int64) u0) u1)), .second, .val (.ref b), .val (.int (2 : Int32)), .val (.int (2 : Int32)), .val (.int u1)] []))
  refine Gl.go (fun _ k => XS.lloadN X1.here hx rfl (hb hby d3_39) rfl  k) ?_
  show Gl p.tables e below (QQof s (Q_ch2 Z a1 b kA u0 u1 h0 n0) 0 0) (T1.setTop (mkF m 40 #[.val (.ref a1), .val (.long (adL (adL (0 : Int64) u0) u1)), .second, .val (.ref b), .val (.int (2 : Int32)), .val (.int (2 : Int32)), .val (.int u1)] [(.long (adL (adL (0 : Int64) u0) u1))]))
  refine leafL X1 hx hlk Bd.returns (hb hby d3_40) ?_ (by decide) (by decide)
  exact ⟨rfl, N0, e1⟩
def Q_ch3 (Z : State) (a1 b : Addr) (kA : ClassId) (u0 u1 u2 : Int32) (h0 : Heap) (n0 : Nat) (v : Option Value) (h : Heap) (L : List Loc) : Prop := v = some (.long (adL (adL (adL (0 : Int64) u0) u1) u2)) ∧ Fr n0 L ∧ h = h0
set_option maxRecDepth 65536 in
set_option maxHeartbeats 40000000 in
theorem rm_ch3 (l : Launch) (Z : State) (a0 : Array Value) (hw : ∀ d ∈ tables_1, d.before a0 Z = true) (ws : List Jvm.Cond) (a1 b : Addr) (kA : ClassId) (u0 u1 u2 : Int32) (h0 : Heap) (n0 : Nat) (Z0 : n0 ≤ h0.size) (Fc : Fld Z h0 a1 "com/example/berthwise/berthwise/model/Placement" "cranes" "[I" (.ref b)) (V0 : Arv Z h0 b kA .int (3 : Int32) [(.int u0), (.int u1), (.int u2)] (.int (0 : Int32))) :
    MetFree l (⟨"com/example/berthwise/berthwise/model/Placement", "craneHours", "()J"⟩ : MethodName) (head1 (Jvm.Cond.code (⟨"com/example/berthwise/berthwise/model/Placement", "craneHours", "()J"⟩ : MethodName) prog_23_method_8_code 7 (some .long) :: ws) ({ frames := 0, cells := 0, slots := 0, locals := 0 } : Room)) (fun aa U => aa = #[(.ref a1)] ∧ Z.Warmed39 U.vm ∧ U.heap = h0) (fun _ _ _ _ _ => True) (fun _ U o U' => ∃ v L, o = .returned v ∧ Q_ch3 Z a1 b kA u0 u1 u2 h0 n0 v U'.heap L ∧ FrameEnd U o U' L ({ frames := 0, cells := 0, slots := 0, locals := 0 } : Room).cells ({ frames := 0, cells := 0, slots := 0, locals := 0 } : Room).slots) := by
  refine MetFree.of_bodySF (plainFor_of_name pn_0) hisR ?_
  intro p e s m args below meth c s₁ Bd hml0 hP hK
  obtain ⟨rfl, hZ, hh⟩ := hP
  have hx := Bd.exec
  have hby := Bd.bytes
  have hml : c.maxLocals = 7 := hml0
  have hown : s.vm.findClass "com/example/berthwise/berthwise/model/Placement" = some m.cls := findClass_of_methodNamed Bd.named
  have hnm := (name_of_methodNamed Bd.named Bd.method).1
  have hlk : meth.locks = false := BodyLoose.notSynchronized Bd
  have X0 : Stand p l e ({ frames := 0, cells := 0, slots := 0, locals := 0 } : Room) s m #[(.ref a1)] below meth c s₁ [] 0 0 := Stand.of_body Bd
  have e0 : s₁.heap = h0 := by rw [← hh, Bd.state]; rfl
  have N0 := Fr.nil n0
  have K0 : Keep h0 h0 [] := Keep.refl _ _
  show Gl p.tables e below (QQof s (Q_ch3 Z a1 b kA u0 u1 u2 h0 n0) 0 0) (s₁.setTop (entryFrame m #[(.ref a1)] 7))
  refine Gl.go (fun t k => castTop (ef_ch3 m a1) k) ?_
  show Gl p.tables e below (QQof s (Q_ch3 Z a1 b kA u0 u1 u2 h0 n0) 0 0) (s₁.setTop (mkF m 0 #[.val (.ref a1), .unset, .unset, .unset, .unset, .unset, .unset] []))
  refine Gl.go (fun _ k => XS.lconst X0.here hx rfl (hb hby d3_0) k) ?_
  show Gl p.tables e below (QQof s (Q_ch3 Z a1 b kA u0 u1 u2 h0 n0) 0 0) (s₁.setTop (mkF m 1 #[.val (.ref a1), .unset, .unset, .unset, .unset, .unset, .unset] [(.long (0 : Int64))]))
  refine Gl.go (fun _ k => XS.lstoreN X0.here hx rfl (hb hby d3_1) rfl (l' := #[.val (.ref a1), .val (.long (0 : Int64)), .second, .unset, .unset, .unset, .unset]) rfl k) ?_
  show Gl p.tables e below (QQof s (Q_ch3 Z a1 b kA u0 u1 u2 h0 n0) 0 0) (s₁.setTop (mkF m 2 #[.val (.ref a1), .val (.long (0 : Int64)), .second, .unset, .unset, .unset, .unset] []))
  refine Gl.go (fun _ k => XS.aloadN X0.here hx rfl (hb hby d3_2) rfl rfl  k) ?_
  show Gl p.tables e below (QQof s (Q_ch3 Z a1 b kA u0 u1 u2 h0 n0) 0 0) (s₁.setTop (mkF m 3 #[.val (.ref a1), .val (.long (0 : Int64)), .second, .unset, .unset, .unset, .unset] [(.ref a1)]))
  obtain ⟨T1, X1, e1, st1⟩ := getF X0 hx hZ hown (host := "") (Or.inl (hw _ (List.mem_of_getElem? (i := 25) rfl))) Via.refl e0 Fc (g := (mkF m 3 #[.val (.ref a1), .val (.long (0 : Int64)), .second, .unset, .unset, .unset, .unset] [(.ref a1)])) rfl rfl (hb hby d3_3)
  refine Gl.go (fun _ k => st1 _ k) ?_
  show Gl p.tables e below (QQof s (Q_ch3 Z a1 b kA u0 u1 u2 h0 n0) 0 0) (T1.setTop (mkF m 6 #[.val (.ref a1), .val (.long (0 : Int64)), .second, .unset, .unset, .unset, .unset] [(.ref b)]))
  refine Gl.go (fun _ k => XS.astoreN X1.here hx rfl (hb hby d3_6) rfl rfl (l' := #[.val (.ref a1), .val (.long (0 : Int64)), .second, .val (.ref b), .unset, .unset, .unset]) rfl k) ?_
  show Gl p.tables e below (QQof s (Q_ch3 Z a1 b kA u0 u1 u2 h0 n0) 0 0) (T1.setTop (mkF m 7 #[.val (.ref a1), .val (.long (0 : Int64)), .second, .val (.ref b), .unset, .unset, .unset] []))
  refine Gl.go (fun _ k => XS.aloadN X1.here hx rfl (hb hby d3_7) rfl rfl  k) ?_
  show Gl p.tables e below (QQof s (Q_ch3 Z a1 b kA u0 u1 u2 h0 n0) 0 0) (T1.setTop (mkF m 8 #[.val (.ref a1), .val (.long (0 : Int64)), .second, .val (.ref b), .unset, .unset, .unset] [(.ref b)]))
  obtain ⟨cl2, Ar2, qA2, SA2, NA2, HA2, GA2⟩ := id V0
  refine Gl.go (fun _ k => X1.arraylength hx (by rw [e1]; exact Ar2.1) (State.isArrayOf_alike hZ.alike Ar2.2.1) (g := (mkF m 8 #[.val (.ref a1), .val (.long (0 : Int64)), .second, .val (.ref b), .unset, .unset, .unset] [(.ref b)])) rfl rfl (hb hby d3_8) _ k) ?_
  rw [len_of SA2 NA2]
  show Gl p.tables e below (QQof s (Q_ch3 Z a1 b kA u0 u1 u2 h0 n0) 0 0) (T1.setTop (mkF m 9 #[.val (.ref a1), .val (.long (0 : Int64)), .second, .val (.ref b), .unset, .unset, .unset] [(.int (3 : Int32))]))
  refine Gl.go (fun _ k => XS.istore X1.here hx rfl (hb hby d3_9) rfl (l' := #[.val (.ref a1), .val (.long (0 : Int64)), .second, .val (.ref b), .val (.int (3 : Int32)), .unset, .unset]) rfl k) ?_
  show Gl p.tables e below (QQof s (Q_ch3 Z a1 b kA u0 u1 u2 h0 n0) 0 0) (T1.setTop (mkF m 11 #[.val (.ref a1), .val (.long (0 : Int64)), .second, .val (.ref b), .val (.int (3 : Int32)), .unset, .unset] []))
  refine Gl.go (fun _ k => XS.iconst X1.here hx rfl (hb hby d3_11) k) ?_
  show Gl p.tables e below (QQof s (Q_ch3 Z a1 b kA u0 u1 u2 h0 n0) 0 0) (T1.setTop (mkF m 12 #[.val (.ref a1), .val (.long (0 : Int64)), .second, .val (.ref b), .val (.int (3 : Int32)), .unset, .unset] [(.int (0 : Int32))]))
  refine Gl.go (fun _ k => XS.istore X1.here hx rfl (hb hby d3_12) rfl (l' := #[.val (.ref a1), .val (.long (0 : Int64)), .second, .val (.ref b), .val (.int (3 : Int32)), .val (.int (0 : Int32)), .unset]) rfl k) ?_
  show Gl p.tables e below (QQof s (Q_ch3 Z a1 b kA u0 u1 u2 h0 n0) 0 0) (T1.setTop (mkF m 14 #[.val (.ref a1), .val (.long (0 : Int64)), .second, .val (.ref b), .val (.int (3 : Int32)), .val (.int (0 : Int32)), .unset] []))
  refine Gl.go (fun _ k => XS.iload X1.here hx rfl (hb hby d3_14) rfl  k) ?_
  show Gl p.tables e below (QQof s (Q_ch3 Z a1 b kA u0 u1 u2 h0 n0) 0 0) (T1.setTop (mkF m 16 #[.val (.ref a1), .val (.long (0 : Int64)), .second, .val (.ref b), .val (.int (3 : Int32)), .val (.int (0 : Int32)), .unset] [(.int (0 : Int32))]))
  refine Gl.go (fun _ k => XS.iload X1.here hx rfl (hb hby d3_16) rfl  k) ?_
  show Gl p.tables e below (QQof s (Q_ch3 Z a1 b kA u0 u1 u2 h0 n0) 0 0) (T1.setTop (mkF m 18 #[.val (.ref a1), .val (.long (0 : Int64)), .second, .val (.ref b), .val (.int (3 : Int32)), .val (.int (0 : Int32)), .unset] [(.int (3 : Int32)), (.int (0 : Int32))]))
  refine Gl.go (fun _ k => XS.icmpNo X1.here hx rfl (hb hby d3_18) rfl (tlt (by decide)).2.1 k) ?_
  show Gl p.tables e below (QQof s (Q_ch3 Z a1 b kA u0 u1 u2 h0 n0) 0 0) (T1.setTop (mkF m 21 #[.val (.ref a1), .val (.long (0 : Int64)), .second, .val (.ref b), .val (.int (3 : Int32)), .val (.int (0 : Int32)), .unset] []))
  refine Gl.go (fun _ k => XS.aloadN X1.here hx rfl (hb hby d3_21) rfl rfl  k) ?_
  show Gl p.tables e below (QQof s (Q_ch3 Z a1 b kA u0 u1 u2 h0 n0) 0 0) (T1.setTop (mkF m 22 #[.val (.ref a1), .val (.long (0 : Int64)), .second, .val (.ref b), .val (.int (3 : Int32)), .val (.int (0 : Int32)), .unset] [(.ref b)]))
  refine Gl.go (fun _ k => XS.iload X1.here hx rfl (hb hby d3_22) rfl  k) ?_
  show Gl p.tables e below (QQof s (Q_ch3 Z a1 b kA u0 u1 u2 h0 n0) 0 0) (T1.setTop (mkF m 24 #[.val (.ref a1), .val (.long (0 : Int64)), .second, .val (.ref b), .val (.int (3 : Int32)), .val (.int (0 : Int32)), .unset] [(.int (0 : Int32)), (.ref b)]))
  obtain ⟨cl3, Ar3, qA3, SA3, NA3, HA3, GA3⟩ := id V0
  have hin3 := inb_of (j := (0 : Int32)) SA3 ⟨by decide, by decide⟩
  have hat3 : cl3.slots[((0 : Int32)).toNatClampNeg]? = some (.int u0) := HA3.at hin3 rfl
  refine Gl.go (fun _ k => X1.iaload hx (j := (0 : Int32)) (v := (.int u0)) (by rw [e1]; exact Ar3.1) (State.isArrayOf_alike hZ.alike Ar3.2.1) Ar3.2.2 hin3 hat3 (g := (mkF m 24 #[.val (.ref a1), .val (.long (0 : Int64)), .second, .val (.ref b), .val (.int (3 : Int32)), .val (.int (0 : Int32)), .unset] [(.int (0 : Int32)), (.ref b)])) rfl rfl (hb hby d3_24) _ k) ?_
  show Gl p.tables e below (QQof s (Q_ch3 Z a1 b kA u0 u1 u2 h0 n0) 0 0) (T1.setTop (mkF m 25 #[.val (.ref a1), .val (.long (0 : Int64)), .second, .val (.ref b), .val (.int (3 : Int32)), .val (.int (0 : Int32)), .unset] [(.int u0)]))
  refine Gl.go (fun _ k => XS.istore X1.here hx rfl (hb hby d3_25) rfl (l' := #[.val (.ref a1), .val (.long (0 : Int64)), .second, .val (.ref b), .val (.int (3 : Int32)), .val (.int (0 : Int32)), .val (.int u0)]) rfl k) ?_
  show Gl p.tables e below (QQof s (Q_ch3 Z a1 b kA u0 u1 u2 h0 n0) 0 0) (T1.setTop (mkF m 27 #[.val (.ref a1), .val (.long (0 : Int64)), .second, .val (.ref b), .val (.int (3 : Int32)), .val (.int (0 : Int32)), .val (.int u0)] []))
  refine Gl.go (fun _ k => XS.lloadN X1.here hx rfl (hb hby d3_27) rfl  k) ?_
  show Gl p.tables e below (QQof s (Q_ch3 Z a1 b kA u0 u1 u2 h0 n0) 0 0) (T1.setTop (mkF m 28 #[.val (.ref a1), .val (.long (0 : Int64)), .second, .val (.ref b), .val (.int (3 : Int32)), .val (.int (0 : Int32)), .val (.int u0)] [(.long (0 : Int64))]))
  refine Gl.go (fun _ k => XS.iload X1.here hx rfl (hb hby d3_28) rfl  k) ?_
  show Gl p.tables e below (QQof s (Q_ch3 Z a1 b kA u0 u1 u2 h0 n0) 0 0) (T1.setTop (mkF m 30 #[.val (.ref a1), .val (.long (0 : Int64)), .second, .val (.ref b), .val (.int (3 : Int32)), .val (.int (0 : Int32)), .val (.int u0)] [(.int u0), (.long (0 : Int64))]))
  refine Gl.go (fun _ k => XS.i2l X1.here hx rfl (hb hby d3_30) rfl k) ?_
  show Gl p.tables e below (QQof s (Q_ch3 Z a1 b kA u0 u1 u2 h0 n0) 0 0) (T1.setTop (mkF m 31 #[.val (.ref a1), .val (.long (0 : Int64)), .second, .val (.ref b), .val (.int (3 : Int32)), .val (.int (0 : Int32)), .val (.int u0)] [(.long (u0.toInt64)), (.long (0 : Int64))]))
  refine Gl.go (fun _ k => XS.ladd X1.here hx rfl (hb hby d3_31) rfl k) ?_
  show Gl p.tables e below (QQof s (Q_ch3 Z a1 b kA u0 u1 u2 h0 n0) 0 0) (T1.setTop (mkF m 32 #[.val (.ref a1), .val (.long (0 : Int64)), .second, .val (.ref b), .val (.int (3 : Int32)), .val (.int (0 : Int32)), .val (.int u0)] [(.long ((0 : Int64) + (u0.toInt64)))]))
  show Gl p.tables e below (QQof s (Q_ch3 Z a1 b kA u0 u1 u2 h0 n0) 0 0) (T1.setTop (mkF m 32 #[.val (.ref a1), .val (.long (0 : Int64)), .second, .val (.ref b), .val (.int (3 : Int32)), .val (.int (0 : Int32)), .val (.int u0)] [(.long (adL (0 : Int64) u0))]))
  refine Gl.go (fun _ k => XS.lstoreN X1.here hx rfl (hb hby d3_32) rfl (l' := #[.val (.ref a1), .val (.long (adL (0 : Int64) u0)), .second, .val (.ref b), .val (.int (3 : Int32)), .val (.int (0 : Int32)), .val (.int u0)]) rfl k) ?_
  show Gl p.tables e below (QQof s (Q_ch3 Z a1 b kA u0 u1 u2 h0 n0) 0 0) (T1.setTop (mkF m 33 #[.val (.ref a1), .val (.long (adL (0 : Int64) u0)), .second, .val (.ref b), .val (.int (3 : Int32)), .val (.int (0 : Int32)), .val (.int u0)] []))
  refine Gl.go (fun _ k => XS.iinc X1.here hx rfl (hb hby d3_33) rfl (l' := #[.val (.ref a1), .val (.long (adL (0 : Int64) u0)), .second, .val (.ref b), .val (.int (3 : Int32)), .val (.int ((0 : Int32) + (1 : Int32))), .val (.int u0)]) rfl k) ?_
  show Gl p.tables e below (QQof s (Q_ch3 Z a1 b kA u0 u1 u2 h0 n0) 0 0) (T1.setTop (mkF m 36 #[.val (.ref a1), .val (.long (adL (0 : Int64) u0)), .second, .val (.ref b), .val (.int (3 : Int32)), .val (.int ((0 : Int32) + (1 : Int32))), .val (.int u0)] []))
  rw [(by decide : ((0 : Int32) + (1 : Int32)) = (1 : Int32))]
  show Gl p.tables e below (QQof s (Q_ch3 Z a1 b kA u0 u1 u2 h0 n0) 0 0) (T1.setTop (mkF m 36 #[.val (.ref a1), .val (.long (adL (0 : Int64) u0)), .second, .val (.ref b), .val (.int (3 : Int32)), .val (.int (1 : Int32)), .val (.int u0)] []))
  refine Gl.go (fun _ k => XS.goto X1.here hx rfl (pc0 := 36) (pc' := 14) rfl (hb hby d3_36) (by decide) (by decide) k) ?_
  show Gl p.tables e below (QQof s (Q_ch3 Z a1 b kA u0 u1 u2 h0 n0) 0 0) (T1.setTop (mkF m 14 #[.val (.ref a1), .val (.long (adL (0 : Int64) u0)), .second, .val (.ref b), .val (.int (3 : Int32)), .val (.int (1 : Int32)), .val (.int u0)] []))
  refine Gl.go (fun _ k => XS.iload X1.here hx rfl (hb hby d3_14) rfl  k) ?_
  show Gl p.tables e below (QQof s (Q_ch3 Z a1 b kA u0 u1 u2 h0 n0) 0 0) (T1.setTop (mkF m 16 #[.val (.ref a1), .val (.long (adL (0 : Int64) u0)), .second, .val (.ref b), .val (.int (3 : Int32)), .val (.int (1 : Int32)), .val (.int u0)] [(.int (1 : Int32))]))
  refine Gl.go (fun _ k => XS.iload X1.here hx rfl (hb hby d3_16) rfl  k) ?_
  show Gl p.tables e below (QQof s (Q_ch3 Z a1 b kA u0 u1 u2 h0 n0) 0 0) (T1.setTop (mkF m 18 #[.val (.ref a1), .val (.long (adL (0 : Int64) u0)), .second, .val (.ref b), .val (.int (3 : Int32)), .val (.int (1 : Int32)), .val (.int u0)] [(.int (3 : Int32)), (.int (1 : Int32))]))
  refine Gl.go (fun _ k => XS.icmpNo X1.here hx rfl (hb hby d3_18) rfl (tlt (by decide)).2.1 k) ?_
  show Gl p.tables e below (QQof s (Q_ch3 Z a1 b kA u0 u1 u2 h0 n0) 0 0) (T1.setTop (mkF m 21 #[.val (.ref a1), .val (.long (adL (0 : Int64) u0)), .second, .val (.ref b), .val (.int (3 : Int32)), .val (.int (1 : Int32)), .val (.int u0)] []))
  refine Gl.go (fun _ k => XS.aloadN X1.here hx rfl (hb hby d3_21) rfl rfl  k) ?_
  show Gl p.tables e below (QQof s (Q_ch3 Z a1 b kA u0 u1 u2 h0 n0) 0 0) (T1.setTop (mkF m 22 #[.val (.ref a1), .val (.long (adL (0 : Int64) u0)), .second, .val (.ref b), .val (.int (3 : Int32)), .val (.int (1 : Int32)), .val (.int u0)] [(.ref b)]))
  refine Gl.go (fun _ k => XS.iload X1.here hx rfl (hb hby d3_22) rfl  k) ?_
  show Gl p.tables e below (QQof s (Q_ch3 Z a1 b kA u0 u1 u2 h0 n0) 0 0) (T1.setTop (mkF m 24 #[.val (.ref a1), .val (.long (adL (0 : Int64) u0)), .second, .val (.ref b), .val (.int (3 : Int32)), .val (.int (1 : Int32)), .val (.int u0)] [(.int (1 : Int32)), (.ref b)]))
  obtain ⟨cl4, Ar4, qA4, SA4, NA4, HA4, GA4⟩ := id V0
  have hin4 := inb_of (j := (1 : Int32)) SA4 ⟨by decide, by decide⟩
  have hat4 : cl4.slots[((1 : Int32)).toNatClampNeg]? = some (.int u1) := HA4.at hin4 rfl
  refine Gl.go (fun _ k => X1.iaload hx (j := (1 : Int32)) (v := (.int u1)) (by rw [e1]; exact Ar4.1) (State.isArrayOf_alike hZ.alike Ar4.2.1) Ar4.2.2 hin4 hat4 (g := (mkF m 24 #[.val (.ref a1), .val (.long (adL (0 : Int64) u0)), .second, .val (.ref b), .val (.int (3 : Int32)), .val (.int (1 : Int32)), .val (.int u0)] [(.int (1 : Int32)), (.ref b)])) rfl rfl (hb hby d3_24) _ k) ?_
  show Gl p.tables e below (QQof s (Q_ch3 Z a1 b kA u0 u1 u2 h0 n0) 0 0) (T1.setTop (mkF m 25 #[.val (.ref a1), .val (.long (adL (0 : Int64) u0)), .second, .val (.ref b), .val (.int (3 : Int32)), .val (.int (1 : Int32)), .val (.int u0)] [(.int u1)]))
  refine Gl.go (fun _ k => XS.istore X1.here hx rfl (hb hby d3_25) rfl (l' := #[.val (.ref a1), .val (.long (adL (0 : Int64) u0)), .second, .val (.ref b), .val (.int (3 : Int32)), .val (.int (1 : Int32)), .val (.int u1)]) rfl k) ?_
  show Gl p.tables e below (QQof s (Q_ch3 Z a1 b kA u0 u1 u2 h0 n0) 0 0) (T1.setTop (mkF m 27 #[.val (.ref a1), .val (.long (adL (0 : Int64) u0)), .second, .val (.ref b), .val (.int (3 : Int32)), .val (.int (1 : Int32)), .val (.int u1)] []))
  refine Gl.go (fun _ k => XS.lloadN X1.here hx rfl (hb hby d3_27) rfl  k) ?_
  show Gl p.tables e below (QQof s (Q_ch3 Z a1 b kA u0 u1 u2 h0 n0) 0 0) (T1.setTop (mkF m 28 #[.val (.ref a1), .val (.long (adL (0 : Int64) u0)), .second, .val (.ref b), .val (.int (3 : Int32)), .val (.int (1 : Int32)), .val (.int u1)] [(.long (adL (0 : Int64) u0))]))
  refine Gl.go (fun _ k => XS.iload X1.here hx rfl (hb hby d3_28) rfl  k) ?_
  show Gl p.tables e below (QQof s (Q_ch3 Z a1 b kA u0 u1 u2 h0 n0) 0 0) (T1.setTop (mkF m 30 #[.val (.ref a1), .val (.long (adL (0 : Int64) u0)), .second, .val (.ref b), .val (.int (3 : Int32)), .val (.int (1 : Int32)), .val (.int u1)] [(.int u1), (.long (adL (0 : Int64) u0))]))
  refine Gl.go (fun _ k => XS.i2l X1.here hx rfl (hb hby d3_30) rfl k) ?_
  show Gl p.tables e below (QQof s (Q_ch3 Z a1 b kA u0 u1 u2 h0 n0) 0 0) (T1.setTop (mkF m 31 #[.val (.ref a1), .val (.long (adL (0 : Int64) u0)), .second, .val (.ref b), .val (.int (3 : Int32)), .val (.int (1 : Int32)), .val (.int u1)] [(.long (u1.toInt64)), (.long (adL (0 : Int64) u0))]))
  refine Gl.go (fun _ k => XS.ladd X1.here hx rfl (hb hby d3_31) rfl k) ?_
  show Gl p.tables e below (QQof s (Q_ch3 Z a1 b kA u0 u1 u2 h0 n0) 0 0) (T1.setTop (mkF m 32 #[.val (.ref a1), .val (.long (adL (0 : Int64) u0)), .second, .val (.ref b), .val (.int (3 : Int32)), .val (.int (1 : Int32)), .val (.int u1)] [(.long ((adL (0 : Int64) u0) + (u1.toInt64)))]))
  show Gl p.tables e below (QQof s (Q_ch3 Z a1 b kA u0 u1 u2 h0 n0) 0 0) (T1.setTop (mkF m 32 #[.val (.ref a1), .val (.long (adL (0 : Int64) u0)), .second, .val (.ref b), .val (.int (3 : Int32)), .val (.int (1 : Int32)), .val (.int u1)] [(.long (adL (adL (0 : Int64) u0) u1))]))
  refine Gl.go (fun _ k => XS.lstoreN X1.here hx rfl (hb hby d3_32) rfl (l' := #[.val (.ref a1), .val (.long (adL (adL (0 : Int64) u0) u1)), .second, .val (.ref b), .val (.int (3 : Int32)), .val (.int (1 : Int32)), .val (.int u1)]) rfl k) ?_
  show Gl p.tables e below (QQof s (Q_ch3 Z a1 b kA u0 u1 u2 h0 n0) 0 0) (T1.setTop (mkF m 33 #[.val (.ref a1), .val (.long (adL (adL (0 : Int64) u0) u1)), .second, .val (.ref b), .val (.int (3 : Int32)), .val (.int (1 : Int32)), .val (.int u1)] []))
  refine Gl.go (fun _ k => XS.iinc X1.here hx rfl (hb hby d3_33) rfl (l' := #[.val (.ref a1), .val (.long (adL (adL (0 : Int64) u0) u1)), .second, .val (.ref b), .val (.int (3 : Int32)), .val (.int ((1 : Int32) + (1 : Int32))), .val (.int u1)]) rfl k) ?_
  show Gl p.tables e below (QQof s (Q_ch3 Z a1 b kA u0 u1 u2 h0 n0) 0 0) (T1.setTop (mkF m 36 #[.val (.ref a1), .val (.long (adL (adL (0 : Int64) u0) u1)), .second, .val (.ref b), .val (.int (3 : Int32)), .val (.int ((1 : Int32) + (1 : Int32))), .val (.int u1)] []))
  rw [(by decide : ((1 : Int32) + (1 : Int32)) = (2 : Int32))]
  show Gl p.tables e below (QQof s (Q_ch3 Z a1 b kA u0 u1 u2 h0 n0) 0 0) (T1.setTop (mkF m 36 #[.val (.ref a1), .val (.long (adL (adL (0 : Int64) u0) u1)), .second, .val (.ref b), .val (.int (3 : Int32)), .val (.int (2 : Int32)), .val (.int u1)] []))
  refine Gl.go (fun _ k => XS.goto X1.here hx rfl (pc0 := 36) (pc' := 14) rfl (hb hby d3_36) (by decide) (by decide) k) ?_
  show Gl p.tables e below (QQof s (Q_ch3 Z a1 b kA u0 u1 u2 h0 n0) 0 0) (T1.setTop (mkF m 14 #[.val (.ref a1), .val (.long (adL (adL (0 : Int64) u0) u1)), .second, .val (.ref b), .val (.int (3 : Int32)), .val (.int (2 : Int32)), .val (.int u1)] []))
  refine Gl.go (fun _ k => XS.iload X1.here hx rfl (hb hby d3_14) rfl  k) ?_
  show Gl p.tables e below (QQof s (Q_ch3 Z a1 b kA u0 u1 u2 h0 n0) 0 0) (T1.setTop (mkF m 16 #[.val (.ref a1), .val (.long (adL (adL (0 : Int64) u0) u1)), .second, .val (.ref b), .val (.int (3 : Int32)), .val (.int (2 : Int32)), .val (.int u1)] [(.int (2 : Int32))]))
  refine Gl.go (fun _ k => XS.iload X1.here hx rfl (hb hby d3_16) rfl  k) ?_
  show Gl p.tables e below (QQof s (Q_ch3 Z a1 b kA u0 u1 u2 h0 n0) 0 0) (T1.setTop (mkF m 18 #[.val (.ref a1), .val (.long (adL (adL (0 : Int64) u0) u1)), .second, .val (.ref b), .val (.int (3 : Int32)), .val (.int (2 : Int32)), .val (.int u1)] [(.int (3 : Int32)), (.int (2 : Int32))]))
  refine Gl.go (fun _ k => XS.icmpNo X1.here hx rfl (hb hby d3_18) rfl (tlt (by decide)).2.1 k) ?_
  show Gl p.tables e below (QQof s (Q_ch3 Z a1 b kA u0 u1 u2 h0 n0) 0 0) (T1.setTop (mkF m 21 #[.val (.ref a1), .val (.long (adL (adL (0 : Int64) u0) u1)), .second, .val (.ref b), .val (.int (3 : Int32)), .val (.int (2 : Int32)), .val (.int u1)] []))
  refine Gl.go (fun _ k => XS.aloadN X1.here hx rfl (hb hby d3_21) rfl rfl  k) ?_
  show Gl p.tables e below (QQof s (Q_ch3 Z a1 b kA u0 u1 u2 h0 n0) 0 0) (T1.setTop (mkF m 22 #[.val (.ref a1), .val (.long (adL (adL (0 : Int64) u0) u1)), .second, .val (.ref b), .val (.int (3 : Int32)), .val (.int (2 : Int32)), .val (.int u1)] [(.ref b)]))
  refine Gl.go (fun _ k => XS.iload X1.here hx rfl (hb hby d3_22) rfl  k) ?_
  show Gl p.tables e below (QQof s (Q_ch3 Z a1 b kA u0 u1 u2 h0 n0) 0 0) (T1.setTop (mkF m 24 #[.val (.ref a1), .val (.long (adL (adL (0 : Int64) u0) u1)), .second, .val (.ref b), .val (.int (3 : Int32)), .val (.int (2 : Int32)), .val (.int u1)] [(.int (2 : Int32)), (.ref b)]))
  obtain ⟨cl5, Ar5, qA5, SA5, NA5, HA5, GA5⟩ := id V0
  have hin5 := inb_of (j := (2 : Int32)) SA5 ⟨by decide, by decide⟩
  have hat5 : cl5.slots[((2 : Int32)).toNatClampNeg]? = some (.int u2) := HA5.at hin5 rfl
  refine Gl.go (fun _ k => X1.iaload hx (j := (2 : Int32)) (v := (.int u2)) (by rw [e1]; exact Ar5.1) (State.isArrayOf_alike hZ.alike Ar5.2.1) Ar5.2.2 hin5 hat5 (g := (mkF m 24 #[.val (.ref a1), .val (.long (adL (adL (0 : Int64) u0) u1)), .second, .val (.ref b), .val (.int (3 : Int32)), .val (.int (2 : Int32)), .val (.int u1)] [(.int (2 : Int32)), (.ref b)])) rfl rfl (hb hby d3_24) _ k) ?_
  show Gl p.tables e below (QQof s (Q_ch3 Z a1 b kA u0 u1 u2 h0 n0) 0 0) (T1.setTop (mkF m 25 #[.val (.ref a1), .val (.long (adL (adL (0 : Int64) u0) u1)), .second, .val (.ref b), .val (.int (3 : Int32)), .val (.int (2 : Int32)), .val (.int u1)] [(.int u2)]))
  refine Gl.go (fun _ k => XS.istore X1.here hx rfl (hb hby d3_25) rfl (l' := #[.val (.ref a1), .val (.long (adL (adL (0 : Int64) u0) u1)), .second, .val (.ref b), .val (.int (3 : Int32)), .val (.int (2 : Int32)), .val (.int u2)]) rfl k) ?_
  show Gl p.tables e below (QQof s (Q_ch3 Z a1 b kA u0 u1 u2 h0 n0) 0 0) (T1.setTop (mkF m 27 #[.val (.ref a1), .val (.long (adL (adL (0 : Int64) u0) u1)), .second, .val (.ref b), .val (.int (3 : Int32)), .val (.int (2 : Int32)), .val (.int u2)] []))
  refine Gl.go (fun _ k => XS.lloadN X1.here hx rfl (hb hby d3_27) rfl  k) ?_
  show Gl p.tables e below (QQof s (Q_ch3 Z a1 b kA u0 u1 u2 h0 n0) 0 0) (T1.setTop (mkF m 28 #[.val (.ref a1), .val (.long (adL (adL (0 : Int64) u0) u1)), .second, .val (.ref b), .val (.int (3 : Int32)), .val (.int (2 : Int32)), .val (.int u2)] [(.long (adL (adL (0 : Int64) u0) u1))]))
  refine Gl.go (fun _ k => XS.iload X1.here hx rfl (hb hby d3_28) rfl  k) ?_
  show Gl p.tables e below (QQof s (Q_ch3 Z a1 b kA u0 u1 u2 h0 n0) 0 0) (T1.setTop (mkF m 30 #[.val (.ref a1), .val (.long (adL (adL (0 : Int64) u0) u1)), .second, .val (.ref b), .val (.int (3 : Int32)), .val (.int (2 : Int32)), .val (.int u2)] [(.int u2), (.long (adL (adL (0 : Int64) u0) u1))]))
  refine Gl.go (fun _ k => XS.i2l X1.here hx rfl (hb hby d3_30) rfl k) ?_
  show Gl p.tables e below (QQof s (Q_ch3 Z a1 b kA u0 u1 u2 h0 n0) 0 0) (T1.setTop (mkF m 31 #[.val (.ref a1), .val (.long (adL (adL (0 : Int64) u0) u1)), .second, .val (.ref b), .val (.int (3 : Int32)), .val (.int (2 : Int32)), .val (.int u2)] [(.long (u2.toInt64)), (.long (adL (adL (0 : Int64) u0) u1))]))
  refine Gl.go (fun _ k => XS.ladd X1.here hx rfl (hb hby d3_31) rfl k) ?_
  show Gl p.tables e below (QQof s (Q_ch3 Z a1 b kA u0 u1 u2 h0 n0) 0 0) (T1.setTop (mkF m 32 #[.val (.ref a1), .val (.long (adL (adL (0 : Int64) u0) u1)), .second, .val (.ref b), .val (.int (3 : Int32)), .val (.int (2 : Int32)), .val (.int u2)] [(.long ((adL (adL (0 : Int64) u0) u1) + (u2.toInt64)))]))
  show Gl p.tables e below (QQof s (Q_ch3 Z a1 b kA u0 u1 u2 h0 n0) 0 0) (T1.setTop (mkF m 32 #[.val (.ref a1), .val (.long (adL (adL (0 : Int64) u0) u1)), .second, .val (.ref b), .val (.int (3 : Int32)), .val (.int (2 : Int32)), .val (.int u2)] [(.long (adL (adL (adL (0 : Int64) u0) u1) u2))]))
  refine Gl.go (fun _ k => XS.lstoreN X1.here hx rfl (hb hby d3_32) rfl (l' := #[.val (.ref a1), .val (.long (adL (adL (adL (0 : Int64) u0) u1) u2)), .second, .val (.ref b), .val (.int (3 : Int32)), .val (.int (2 : Int32)), .val (.int u2)]) rfl k) ?_
  show Gl p.tables e below (QQof s (Q_ch3 Z a1 b kA u0 u1 u2 h0 n0) 0 0) (T1.setTop (mkF m 33 #[.val (.ref a1), .val (.long (adL (adL (adL (0 : Int64) u0) u1) u2)), .second, .val (.ref b), .val (.int (3 : Int32)), .val (.int (2 : Int32)), .val (.int u2)] []))
  refine Gl.go (fun _ k => XS.iinc X1.here hx rfl (hb hby d3_33) rfl (l' := #[.val (.ref a1), .val (.long (adL (adL (adL (0 : Int64) u0) u1) u2)), .second, .val (.ref b), .val (.int (3 : Int32)), .val (.int ((2 : Int32) + (1 : Int32))), .val (.int u2)]) rfl k) ?_
  show Gl p.tables e below (QQof s (Q_ch3 Z a1 b kA u0 u1 u2 h0 n0) 0 0) (T1.setTop (mkF m 36 #[.val (.ref a1), .val (.long (adL (adL (adL (0 : Int64) u0) u1) u2)), .second, .val (.ref b), .val (.int (3 : Int32)), .val (.int ((2 : Int32) + (1 : Int32))), .val (.int u2)] []))
  rw [(by decide : ((2 : Int32) + (1 : Int32)) = (3 : Int32))]
  show Gl p.tables e below (QQof s (Q_ch3 Z a1 b kA u0 u1 u2 h0 n0) 0 0) (T1.setTop (mkF m 36 #[.val (.ref a1), .val (.long (adL (adL (adL (0 : Int64) u0) u1) u2)), .second, .val (.ref b), .val (.int (3 : Int32)), .val (.int (3 : Int32)), .val (.int u2)] []))
  refine Gl.go (fun _ k => XS.goto X1.here hx rfl (pc0 := 36) (pc' := 14) rfl (hb hby d3_36) (by decide) (by decide) k) ?_
  show Gl p.tables e below (QQof s (Q_ch3 Z a1 b kA u0 u1 u2 h0 n0) 0 0) (T1.setTop (mkF m 14 #[.val (.ref a1), .val (.long (adL (adL (adL (0 : Int64) u0) u1) u2)), .second, .val (.ref b), .val (.int (3 : Int32)), .val (.int (3 : Int32)), .val (.int u2)] []))
  refine Gl.go (fun _ k => XS.iload X1.here hx rfl (hb hby d3_14) rfl  k) ?_
  show Gl p.tables e below (QQof s (Q_ch3 Z a1 b kA u0 u1 u2 h0 n0) 0 0) (T1.setTop (mkF m 16 #[.val (.ref a1), .val (.long (adL (adL (adL (0 : Int64) u0) u1) u2)), .second, .val (.ref b), .val (.int (3 : Int32)), .val (.int (3 : Int32)), .val (.int u2)] [(.int (3 : Int32))]))
  refine Gl.go (fun _ k => XS.iload X1.here hx rfl (hb hby d3_16) rfl  k) ?_
  show Gl p.tables e below (QQof s (Q_ch3 Z a1 b kA u0 u1 u2 h0 n0) 0 0) (T1.setTop (mkF m 18 #[.val (.ref a1), .val (.long (adL (adL (adL (0 : Int64) u0) u1) u2)), .second, .val (.ref b), .val (.int (3 : Int32)), .val (.int (3 : Int32)), .val (.int u2)] [(.int (3 : Int32)), (.int (3 : Int32))]))
  refine Gl.go (fun _ k => XS.icmpYes X1.here hx rfl (pc0 := 18) (pc' := 39) rfl (hb hby d3_18) rfl (flt (by decide)).2.1 (by decide) (by decide) k) ?_
  show Gl p.tables e below (QQof s (Q_ch3 Z a1 b kA u0 u1 u2 h0 n0) 0 0) (T1.setTop (mkF m 39 #[.val (.ref a1), .val (.long (adL (adL (adL (0 : Int64) u0) u1) u2)), .second, .val (.ref b), .val (.int (3 : Int32)), .val (.int (3 : Int32)), .val (.int u2)] []))
  refine Gl.go (fun _ k => XS.lloadN X1.here hx rfl (hb hby d3_39) rfl  k) ?_
  show Gl p.tables e below (QQof s (Q_ch3 Z a1 b kA u0 u1 u2 h0 n0) 0 0) (T1.setTop (mkF m 40 #[.val (.ref a1), .val (.long (adL (adL (adL (0 : Int64) u0) u1) u2)), .second, .val (.ref b), .val (.int (3 : Int32)), .val (.int (3 : Int32)), .val (.int u2)] [(.long (adL (adL (adL (0 : Int64) u0) u1) u2))]))
  refine leafL X1 hx hlk Bd.returns (hb hby d3_40) ?_ (by decide) (by decide)
  exact ⟨rfl, N0, e1⟩
def Q_ch4 (Z : State) (a1 b : Addr) (kA : ClassId) (u0 u1 u2 u3 : Int32) (h0 : Heap) (n0 : Nat) (v : Option Value) (h : Heap) (L : List Loc) : Prop := v = some (.long (adL (adL (adL (adL (0 : Int64) u0) u1) u2) u3)) ∧ Fr n0 L ∧ h = h0
set_option maxRecDepth 65536 in
set_option maxHeartbeats 40000000 in
theorem rm_ch4 (l : Launch) (Z : State) (a0 : Array Value) (hw : ∀ d ∈ tables_1, d.before a0 Z = true) (ws : List Jvm.Cond) (a1 b : Addr) (kA : ClassId) (u0 u1 u2 u3 : Int32) (h0 : Heap) (n0 : Nat) (Z0 : n0 ≤ h0.size) (Fc : Fld Z h0 a1 "com/example/berthwise/berthwise/model/Placement" "cranes" "[I" (.ref b)) (V0 : Arv Z h0 b kA .int (4 : Int32) [(.int u0), (.int u1), (.int u2), (.int u3)] (.int (0 : Int32))) :
    MetFree l (⟨"com/example/berthwise/berthwise/model/Placement", "craneHours", "()J"⟩ : MethodName) (head1 (Jvm.Cond.code (⟨"com/example/berthwise/berthwise/model/Placement", "craneHours", "()J"⟩ : MethodName) prog_23_method_8_code 7 (some .long) :: ws) ({ frames := 0, cells := 0, slots := 0, locals := 0 } : Room)) (fun aa U => aa = #[(.ref a1)] ∧ Z.Warmed39 U.vm ∧ U.heap = h0) (fun _ _ _ _ _ => True) (fun _ U o U' => ∃ v L, o = .returned v ∧ Q_ch4 Z a1 b kA u0 u1 u2 u3 h0 n0 v U'.heap L ∧ FrameEnd U o U' L ({ frames := 0, cells := 0, slots := 0, locals := 0 } : Room).cells ({ frames := 0, cells := 0, slots := 0, locals := 0 } : Room).slots) := by
  refine MetFree.of_bodySF (plainFor_of_name pn_0) hisR ?_
  intro p e s m args below meth c s₁ Bd hml0 hP hK
  obtain ⟨rfl, hZ, hh⟩ := hP
  have hx := Bd.exec
  have hby := Bd.bytes
  have hml : c.maxLocals = 7 := hml0
  have hown : s.vm.findClass "com/example/berthwise/berthwise/model/Placement" = some m.cls := findClass_of_methodNamed Bd.named
  have hnm := (name_of_methodNamed Bd.named Bd.method).1
  have hlk : meth.locks = false := BodyLoose.notSynchronized Bd
  have X0 : Stand p l e ({ frames := 0, cells := 0, slots := 0, locals := 0 } : Room) s m #[(.ref a1)] below meth c s₁ [] 0 0 := Stand.of_body Bd
  have e0 : s₁.heap = h0 := by rw [← hh, Bd.state]; rfl
  have N0 := Fr.nil n0
  have K0 : Keep h0 h0 [] := Keep.refl _ _
  show Gl p.tables e below (QQof s (Q_ch4 Z a1 b kA u0 u1 u2 u3 h0 n0) 0 0) (s₁.setTop (entryFrame m #[(.ref a1)] 7))
  refine Gl.go (fun t k => castTop (ef_ch4 m a1) k) ?_
  show Gl p.tables e below (QQof s (Q_ch4 Z a1 b kA u0 u1 u2 u3 h0 n0) 0 0) (s₁.setTop (mkF m 0 #[.val (.ref a1), .unset, .unset, .unset, .unset, .unset, .unset] []))
  refine Gl.go (fun _ k => XS.lconst X0.here hx rfl (hb hby d3_0) k) ?_
  show Gl p.tables e below (QQof s (Q_ch4 Z a1 b kA u0 u1 u2 u3 h0 n0) 0 0) (s₁.setTop (mkF m 1 #[.val (.ref a1), .unset, .unset, .unset, .unset, .unset, .unset] [(.long (0 : Int64))]))
  refine Gl.go (fun _ k => XS.lstoreN X0.here hx rfl (hb hby d3_1) rfl (l' := #[.val (.ref a1), .val (.long (0 : Int64)), .second, .unset, .unset, .unset, .unset]) rfl k) ?_
  show Gl p.tables e below (QQof s (Q_ch4 Z a1 b kA u0 u1 u2 u3 h0 n0) 0 0) (s₁.setTop (mkF m 2 #[.val (.ref a1), .val (.long (0 : Int64)), .second, .unset, .unset, .unset, .unset] []))
  refine Gl.go (fun _ k => XS.aloadN X0.here hx rfl (hb hby d3_2) rfl rfl  k) ?_
  show Gl p.tables e below (QQof s (Q_ch4 Z a1 b kA u0 u1 u2 u3 h0 n0) 0 0) (s₁.setTop (mkF m 3 #[.val (.ref a1), .val (.long (0 : Int64)), .second, .unset, .unset, .unset, .unset] [(.ref a1)]))
  obtain ⟨T1, X1, e1, st1⟩ := getF X0 hx hZ hown (host := "") (Or.inl (hw _ (List.mem_of_getElem? (i := 25) rfl))) Via.refl e0 Fc (g := (mkF m 3 #[.val (.ref a1), .val (.long (0 : Int64)), .second, .unset, .unset, .unset, .unset] [(.ref a1)])) rfl rfl (hb hby d3_3)
  refine Gl.go (fun _ k => st1 _ k) ?_
  show Gl p.tables e below (QQof s (Q_ch4 Z a1 b kA u0 u1 u2 u3 h0 n0) 0 0) (T1.setTop (mkF m 6 #[.val (.ref a1), .val (.long (0 : Int64)), .second, .unset, .unset, .unset, .unset] [(.ref b)]))
  refine Gl.go (fun _ k => XS.astoreN X1.here hx rfl (hb hby d3_6) rfl rfl (l' := #[.val (.ref a1), .val (.long (0 : Int64)), .second, .val (.ref b), .unset, .unset, .unset]) rfl k) ?_
  show Gl p.tables e below (QQof s (Q_ch4 Z a1 b kA u0 u1 u2 u3 h0 n0) 0 0) (T1.setTop (mkF m 7 #[.val (.ref a1), .val (.long (0 : Int64)), .second, .val (.ref b), .unset, .unset, .unset] []))
  refine Gl.go (fun _ k => XS.aloadN X1.here hx rfl (hb hby d3_7) rfl rfl  k) ?_
  show Gl p.tables e below (QQof s (Q_ch4 Z a1 b kA u0 u1 u2 u3 h0 n0) 0 0) (T1.setTop (mkF m 8 #[.val (.ref a1), .val (.long (0 : Int64)), .second, .val (.ref b), .unset, .unset, .unset] [(.ref b)]))
  obtain ⟨cl2, Ar2, qA2, SA2, NA2, HA2, GA2⟩ := id V0
  refine Gl.go (fun _ k => X1.arraylength hx (by rw [e1]; exact Ar2.1) (State.isArrayOf_alike hZ.alike Ar2.2.1) (g := (mkF m 8 #[.val (.ref a1), .val (.long (0 : Int64)), .second, .val (.ref b), .unset, .unset, .unset] [(.ref b)])) rfl rfl (hb hby d3_8) _ k) ?_
  rw [len_of SA2 NA2]
  show Gl p.tables e below (QQof s (Q_ch4 Z a1 b kA u0 u1 u2 u3 h0 n0) 0 0) (T1.setTop (mkF m 9 #[.val (.ref a1), .val (.long (0 : Int64)), .second, .val (.ref b), .unset, .unset, .unset] [(.int (4 : Int32))]))
  refine Gl.go (fun _ k => XS.istore X1.here hx rfl (hb hby d3_9) rfl (l' := #[.val (.ref a1), .val (.long (0 : Int64)), .second, .val (.ref b), .val (.int (4 : Int32)), .unset, .unset]) rfl k) ?_
  show Gl p.tables e below (QQof s (Q_ch4 Z a1 b kA u0 u1 u2 u3 h0 n0) 0 0) (T1.setTop (mkF m 11 #[.val (.ref a1), .val (.long (0 : Int64)), .second, .val (.ref b), .val (.int (4 : Int32)), .unset, .unset] []))
  refine Gl.go (fun _ k => XS.iconst X1.here hx rfl (hb hby d3_11) k) ?_
  show Gl p.tables e below (QQof s (Q_ch4 Z a1 b kA u0 u1 u2 u3 h0 n0) 0 0) (T1.setTop (mkF m 12 #[.val (.ref a1), .val (.long (0 : Int64)), .second, .val (.ref b), .val (.int (4 : Int32)), .unset, .unset] [(.int (0 : Int32))]))
  refine Gl.go (fun _ k => XS.istore X1.here hx rfl (hb hby d3_12) rfl (l' := #[.val (.ref a1), .val (.long (0 : Int64)), .second, .val (.ref b), .val (.int (4 : Int32)), .val (.int (0 : Int32)), .unset]) rfl k) ?_
  show Gl p.tables e below (QQof s (Q_ch4 Z a1 b kA u0 u1 u2 u3 h0 n0) 0 0) (T1.setTop (mkF m 14 #[.val (.ref a1), .val (.long (0 : Int64)), .second, .val (.ref b), .val (.int (4 : Int32)), .val (.int (0 : Int32)), .unset] []))
  refine Gl.go (fun _ k => XS.iload X1.here hx rfl (hb hby d3_14) rfl  k) ?_
  show Gl p.tables e below (QQof s (Q_ch4 Z a1 b kA u0 u1 u2 u3 h0 n0) 0 0) (T1.setTop (mkF m 16 #[.val (.ref a1), .val (.long (0 : Int64)), .second, .val (.ref b), .val (.int (4 : Int32)), .val (.int (0 : Int32)), .unset] [(.int (0 : Int32))]))
  refine Gl.go (fun _ k => XS.iload X1.here hx rfl (hb hby d3_16) rfl  k) ?_
  show Gl p.tables e below (QQof s (Q_ch4 Z a1 b kA u0 u1 u2 u3 h0 n0) 0 0) (T1.setTop (mkF m 18 #[.val (.ref a1), .val (.long (0 : Int64)), .second, .val (.ref b), .val (.int (4 : Int32)), .val (.int (0 : Int32)), .unset] [(.int (4 : Int32)), (.int (0 : Int32))]))
  refine Gl.go (fun _ k => XS.icmpNo X1.here hx rfl (hb hby d3_18) rfl (tlt (by decide)).2.1 k) ?_
  show Gl p.tables e below (QQof s (Q_ch4 Z a1 b kA u0 u1 u2 u3 h0 n0) 0 0) (T1.setTop (mkF m 21 #[.val (.ref a1), .val (.long (0 : Int64)), .second, .val (.ref b), .val (.int (4 : Int32)), .val (.int (0 : Int32)), .unset] []))
  refine Gl.go (fun _ k => XS.aloadN X1.here hx rfl (hb hby d3_21) rfl rfl  k) ?_
  show Gl p.tables e below (QQof s (Q_ch4 Z a1 b kA u0 u1 u2 u3 h0 n0) 0 0) (T1.setTop (mkF m 22 #[.val (.ref a1), .val (.long (0 : Int64)), .second, .val (.ref b), .val (.int (4 : Int32)), .val (.int (0 : Int32)), .unset] [(.ref b)]))
  refine Gl.go (fun _ k => XS.iload X1.here hx rfl (hb hby d3_22) rfl  k) ?_
  show Gl p.tables e below (QQof s (Q_ch4 Z a1 b kA u0 u1 u2 u3 h0 n0) 0 0) (T1.setTop (mkF m 24 #[.val (.ref a1), .val (.long (0 : Int64)), .second, .val (.ref b), .val (.int (4 : Int32)), .val (.int (0 : Int32)), .unset] [(.int (0 : Int32)), (.ref b)]))
  obtain ⟨cl3, Ar3, qA3, SA3, NA3, HA3, GA3⟩ := id V0
  have hin3 := inb_of (j := (0 : Int32)) SA3 ⟨by decide, by decide⟩
  have hat3 : cl3.slots[((0 : Int32)).toNatClampNeg]? = some (.int u0) := HA3.at hin3 rfl
  refine Gl.go (fun _ k => X1.iaload hx (j := (0 : Int32)) (v := (.int u0)) (by rw [e1]; exact Ar3.1) (State.isArrayOf_alike hZ.alike Ar3.2.1) Ar3.2.2 hin3 hat3 (g := (mkF m 24 #[.val (.ref a1), .val (.long (0 : Int64)), .second, .val (.ref b), .val (.int (4 : Int32)), .val (.int (0 : Int32)), .unset] [(.int (0 : Int32)), (.ref b)])) rfl rfl (hb hby d3_24) _ k) ?_
  show Gl p.tables e below (QQof s (Q_ch4 Z a1 b kA u0 u1 u2 u3 h0 n0) 0 0) (T1.setTop (mkF m 25 #[.val (.ref a1), .val (.long (0 : Int64)), .second, .val (.ref b), .val (.int (4 : Int32)), .val (.int (0 : Int32)), .unset] [(.int u0)]))
  refine Gl.go (fun _ k => XS.istore X1.here hx rfl (hb hby d3_25) rfl (l' := #[.val (.ref a1), .val (.long (0 : Int64)), .second, .val (.ref b), .val (.int (4 : Int32)), .val (.int (0 : Int32)), .val (.int u0)]) rfl k) ?_
  show Gl p.tables e below (QQof s (Q_ch4 Z a1 b kA u0 u1 u2 u3 h0 n0) 0 0) (T1.setTop (mkF m 27 #[.val (.ref a1), .val (.long (0 : Int64)), .second, .val (.ref b), .val (.int (4 : Int32)), .val (.int (0 : Int32)), .val (.int u0)] []))
  refine Gl.go (fun _ k => XS.lloadN X1.here hx rfl (hb hby d3_27) rfl  k) ?_
  show Gl p.tables e below (QQof s (Q_ch4 Z a1 b kA u0 u1 u2 u3 h0 n0) 0 0) (T1.setTop (mkF m 28 #[.val (.ref a1), .val (.long (0 : Int64)), .second, .val (.ref b), .val (.int (4 : Int32)), .val (.int (0 : Int32)), .val (.int u0)] [(.long (0 : Int64))]))
  refine Gl.go (fun _ k => XS.iload X1.here hx rfl (hb hby d3_28) rfl  k) ?_
  show Gl p.tables e below (QQof s (Q_ch4 Z a1 b kA u0 u1 u2 u3 h0 n0) 0 0) (T1.setTop (mkF m 30 #[.val (.ref a1), .val (.long (0 : Int64)), .second, .val (.ref b), .val (.int (4 : Int32)), .val (.int (0 : Int32)), .val (.int u0)] [(.int u0), (.long (0 : Int64))]))
  refine Gl.go (fun _ k => XS.i2l X1.here hx rfl (hb hby d3_30) rfl k) ?_
  show Gl p.tables e below (QQof s (Q_ch4 Z a1 b kA u0 u1 u2 u3 h0 n0) 0 0) (T1.setTop (mkF m 31 #[.val (.ref a1), .val (.long (0 : Int64)), .second, .val (.ref b), .val (.int (4 : Int32)), .val (.int (0 : Int32)), .val (.int u0)] [(.long (u0.toInt64)), (.long (0 : Int64))]))
  refine Gl.go (fun _ k => XS.ladd X1.here hx rfl (hb hby d3_31) rfl k) ?_
  show Gl p.tables e below (QQof s (Q_ch4 Z a1 b kA u0 u1 u2 u3 h0 n0) 0 0) (T1.setTop (mkF m 32 #[.val (.ref a1), .val (.long (0 : Int64)), .second, .val (.ref b), .val (.int (4 : Int32)), .val (.int (0 : Int32)), .val (.int u0)] [(.long ((0 : Int64) + (u0.toInt64)))]))
  show Gl p.tables e below (QQof s (Q_ch4 Z a1 b kA u0 u1 u2 u3 h0 n0) 0 0) (T1.setTop (mkF m 32 #[.val (.ref a1), .val (.long (0 : Int64)), .second, .val (.ref b), .val (.int (4 : Int32)), .val (.int (0 : Int32)), .val (.int u0)] [(.long (adL (0 : Int64) u0))]))
  refine Gl.go (fun _ k => XS.lstoreN X1.here hx rfl (hb hby d3_32) rfl (l' := #[.val (.ref a1), .val (.long (adL (0 : Int64) u0)), .second, .val (.ref b), .val (.int (4 : Int32)), .val (.int (0 : Int32)), .val (.int u0)]) rfl k) ?_
  show Gl p.tables e below (QQof s (Q_ch4 Z a1 b kA u0 u1 u2 u3 h0 n0) 0 0) (T1.setTop (mkF m 33 #[.val (.ref a1), .val (.long (adL (0 : Int64) u0)), .second, .val (.ref b), .val (.int (4 : Int32)), .val (.int (0 : Int32)), .val (.int u0)] []))
  refine Gl.go (fun _ k => XS.iinc X1.here hx rfl (hb hby d3_33) rfl (l' := #[.val (.ref a1), .val (.long (adL (0 : Int64) u0)), .second, .val (.ref b), .val (.int (4 : Int32)), .val (.int ((0 : Int32) + (1 : Int32))), .val (.int u0)]) rfl k) ?_
  show Gl p.tables e below (QQof s (Q_ch4 Z a1 b kA u0 u1 u2 u3 h0 n0) 0 0) (T1.setTop (mkF m 36 #[.val (.ref a1), .val (.long (adL (0 : Int64) u0)), .second, .val (.ref b), .val (.int (4 : Int32)), .val (.int ((0 : Int32) + (1 : Int32))), .val (.int u0)] []))
  rw [(by decide : ((0 : Int32) + (1 : Int32)) = (1 : Int32))]
  show Gl p.tables e below (QQof s (Q_ch4 Z a1 b kA u0 u1 u2 u3 h0 n0) 0 0) (T1.setTop (mkF m 36 #[.val (.ref a1), .val (.long (adL (0 : Int64) u0)), .second, .val (.ref b), .val (.int (4 : Int32)), .val (.int (1 : Int32)), .val (.int u0)] []))
  refine Gl.go (fun _ k => XS.goto X1.here hx rfl (pc0 := 36) (pc' := 14) rfl (hb hby d3_36) (by decide) (by decide) k) ?_
  show Gl p.tables e below (QQof s (Q_ch4 Z a1 b kA u0 u1 u2 u3 h0 n0) 0 0) (T1.setTop (mkF m 14 #[.val (.ref a1), .val (.long (adL (0 : Int64) u0)), .second, .val (.ref b), .val (.int (4 : Int32)), .val (.int (1 : Int32)), .val (.int u0)] []))
  refine Gl.go (fun _ k => XS.iload X1.here hx rfl (hb hby d3_14) rfl  k) ?_
  show Gl p.tables e below (QQof s (Q_ch4 Z a1 b kA u0 u1 u2 u3 h0 n0) 0 0) (T1.setTop (mkF m 16 #[.val (.ref a1), .val (.long (adL (0 : Int64) u0)), .second, .val (.ref b), .val (.int (4 : Int32)), .val (.int (1 : Int32)), .val (.int u0)] [(.int (1 : Int32))]))
  refine Gl.go (fun _ k => XS.iload X1.here hx rfl (hb hby d3_16) rfl  k) ?_
  show Gl p.tables e below (QQof s (Q_ch4 Z a1 b kA u0 u1 u2 u3 h0 n0) 0 0) (T1.setTop (mkF m 18 #[.val (.ref a1), .val (.long (adL (0 : Int64) u0)), .second, .val (.ref b), .val (.int (4 : Int32)), .val (.int (1 : Int32)), .val (.int u0)] [(.int (4 : Int32)), (.int (1 : Int32))]))
  refine Gl.go (fun _ k => XS.icmpNo X1.here hx rfl (hb hby d3_18) rfl (tlt (by decide)).2.1 k) ?_
  show Gl p.tables e below (QQof s (Q_ch4 Z a1 b kA u0 u1 u2 u3 h0 n0) 0 0) (T1.setTop (mkF m 21 #[.val (.ref a1), .val (.long (adL (0 : Int64) u0)), .second, .val (.ref b), .val (.int (4 : Int32)), .val (.int (1 : Int32)), .val (.int u0)] []))
  refine Gl.go (fun _ k => XS.aloadN X1.here hx rfl (hb hby d3_21) rfl rfl  k) ?_
  show Gl p.tables e below (QQof s (Q_ch4 Z a1 b kA u0 u1 u2 u3 h0 n0) 0 0) (T1.setTop (mkF m 22 #[.val (.ref a1), .val (.long (adL (0 : Int64) u0)), .second, .val (.ref b), .val (.int (4 : Int32)), .val (.int (1 : Int32)), .val (.int u0)] [(.ref b)]))
  refine Gl.go (fun _ k => XS.iload X1.here hx rfl (hb hby d3_22) rfl  k) ?_
  show Gl p.tables e below (QQof s (Q_ch4 Z a1 b kA u0 u1 u2 u3 h0 n0) 0 0) (T1.setTop (mkF m 24 #[.val (.ref a1), .val (.long (adL (0 : Int64) u0)), .second, .val (.ref b), .val (.int (4 : Int32)), .val (.int (1 : Int32)), .val (.int u0)] [(.int (1 : Int32)), (.ref b)]))
  obtain ⟨cl4, Ar4, qA4, SA4, NA4, HA4, GA4⟩ := id V0
  have hin4 := inb_of (j := (1 : Int32)) SA4 ⟨by decide, by decide⟩
  have hat4 : cl4.slots[((1 : Int32)).toNatClampNeg]? = some (.int u1) := HA4.at hin4 rfl
  refine Gl.go (fun _ k => X1.iaload hx (j := (1 : Int32)) (v := (.int u1)) (by rw [e1]; exact Ar4.1) (State.isArrayOf_alike hZ.alike Ar4.2.1) Ar4.2.2 hin4 hat4 (g := (mkF m 24 #[.val (.ref a1), .val (.long (adL (0 : Int64) u0)), .second, .val (.ref b), .val (.int (4 : Int32)), .val (.int (1 : Int32)), .val (.int u0)] [(.int (1 : Int32)), (.ref b)])) rfl rfl (hb hby d3_24) _ k) ?_
  show Gl p.tables e below (QQof s (Q_ch4 Z a1 b kA u0 u1 u2 u3 h0 n0) 0 0) (T1.setTop (mkF m 25 #[.val (.ref a1), .val (.long (adL (0 : Int64) u0)), .second, .val (.ref b), .val (.int (4 : Int32)), .val (.int (1 : Int32)), .val (.int u0)] [(.int u1)]))
  refine Gl.go (fun _ k => XS.istore X1.here hx rfl (hb hby d3_25) rfl (l' := #[.val (.ref a1), .val (.long (adL (0 : Int64) u0)), .second, .val (.ref b), .val (.int (4 : Int32)), .val (.int (1 : Int32)), .val (.int u1)]) rfl k) ?_
  show Gl p.tables e below (QQof s (Q_ch4 Z a1 b kA u0 u1 u2 u3 h0 n0) 0 0) (T1.setTop (mkF m 27 #[.val (.ref a1), .val (.long (adL (0 : Int64) u0)), .second, .val (.ref b), .val (.int (4 : Int32)), .val (.int (1 : Int32)), .val (.int u1)] []))
  refine Gl.go (fun _ k => XS.lloadN X1.here hx rfl (hb hby d3_27) rfl  k) ?_
  show Gl p.tables e below (QQof s (Q_ch4 Z a1 b kA u0 u1 u2 u3 h0 n0) 0 0) (T1.setTop (mkF m 28 #[.val (.ref a1), .val (.long (adL (0 : Int64) u0)), .second, .val (.ref b), .val (.int (4 : Int32)), .val (.int (1 : Int32)), .val (.int u1)] [(.long (adL (0 : Int64) u0))]))
  refine Gl.go (fun _ k => XS.iload X1.here hx rfl (hb hby d3_28) rfl  k) ?_
  show Gl p.tables e below (QQof s (Q_ch4 Z a1 b kA u0 u1 u2 u3 h0 n0) 0 0) (T1.setTop (mkF m 30 #[.val (.ref a1), .val (.long (adL (0 : Int64) u0)), .second, .val (.ref b), .val (.int (4 : Int32)), .val (.int (1 : Int32)), .val (.int u1)] [(.int u1), (.long (adL (0 : Int64) u0))]))
  refine Gl.go (fun _ k => XS.i2l X1.here hx rfl (hb hby d3_30) rfl k) ?_
  show Gl p.tables e below (QQof s (Q_ch4 Z a1 b kA u0 u1 u2 u3 h0 n0) 0 0) (T1.setTop (mkF m 31 #[.val (.ref a1), .val (.long (adL (0 : Int64) u0)), .second, .val (.ref b), .val (.int (4 : Int32)), .val (.int (1 : Int32)), .val (.int u1)] [(.long (u1.toInt64)), (.long (adL (0 : Int64) u0))]))
  refine Gl.go (fun _ k => XS.ladd X1.here hx rfl (hb hby d3_31) rfl k) ?_
  show Gl p.tables e below (QQof s (Q_ch4 Z a1 b kA u0 u1 u2 u3 h0 n0) 0 0) (T1.setTop (mkF m 32 #[.val (.ref a1), .val (.long (adL (0 : Int64) u0)), .second, .val (.ref b), .val (.int (4 : Int32)), .val (.int (1 : Int32)), .val (.int u1)] [(.long ((adL (0 : Int64) u0) + (u1.toInt64)))]))
  show Gl p.tables e below (QQof s (Q_ch4 Z a1 b kA u0 u1 u2 u3 h0 n0) 0 0) (T1.setTop (mkF m 32 #[.val (.ref a1), .val (.long (adL (0 : Int64) u0)), .second, .val (.ref b), .val (.int (4 : Int32)), .val (.int (1 : Int32)), .val (.int u1)] [(.long (adL (adL (0 : Int64) u0) u1))]))
  refine Gl.go (fun _ k => XS.lstoreN X1.here hx rfl (hb hby d3_32) rfl (l' := #[.val (.ref a1), .val (.long (adL (adL (0 : Int64) u0) u1)), .second, .val (.ref b), .val (.int (4 : Int32)), .val (.int (1 : Int32)), .val (.int u1)]) rfl k) ?_
  show Gl p.tables e below (QQof s (Q_ch4 Z a1 b kA u0 u1 u2 u3 h0 n0) 0 0) (T1.setTop (mkF m 33 #[.val (.ref a1), .val (.long (adL (adL (0 : Int64) u0) u1)), .second, .val (.ref b), .val (.int (4 : Int32)), .val (.int (1 : Int32)), .val (.int u1)] []))
  refine Gl.go (fun _ k => XS.iinc X1.here hx rfl (hb hby d3_33) rfl (l' := #[.val (.ref a1), .val (.long (adL (adL (0 : Int64) u0) u1)), .second, .val (.ref b), .val (.int (4 : Int32)), .val (.int ((1 : Int32) + (1 : Int32))), .val (.int u1)]) rfl k) ?_
  show Gl p.tables e below (QQof s (Q_ch4 Z a1 b kA u0 u1 u2 u3 h0 n0) 0 0) (T1.setTop (mkF m 36 #[.val (.ref a1), .val (.long (adL (adL (0 : Int64) u0) u1)), .second, .val (.ref b), .val (.int (4 : Int32)), .val (.int ((1 : Int32) + (1 : Int32))), .val (.int u1)] []))
  rw [(by decide : ((1 : Int32) + (1 : Int32)) = (2 : Int32))]
  show Gl p.tables e below (QQof s (Q_ch4 Z a1 b kA u0 u1 u2 u3 h0 n0) 0 0) (T1.setTop (mkF m 36 #[.val (.ref a1), .val (.long (adL (adL (0 : Int64) u0) u1)), .second, .val (.ref b), .val (.int (4 : Int32)), .val (.int (2 : Int32)), .val (.int u1)] []))
  refine Gl.go (fun _ k => XS.goto X1.here hx rfl (pc0 := 36) (pc' := 14) rfl (hb hby d3_36) (by decide) (by decide) k) ?_
  show Gl p.tables e below (QQof s (Q_ch4 Z a1 b kA u0 u1 u2 u3 h0 n0) 0 0) (T1.setTop (mkF m 14 #[.val (.ref a1), .val (.long (adL (adL (0 : Int64) u0) u1)), .second, .val (.ref b), .val (.int (4 : Int32)), .val (.int (2 : Int32)), .val (.int u1)] []))
  refine Gl.go (fun _ k => XS.iload X1.here hx rfl (hb hby d3_14) rfl  k) ?_
  show Gl p.tables e below (QQof s (Q_ch4 Z a1 b kA u0 u1 u2 u3 h0 n0) 0 0) (T1.setTop (mkF m 16 #[.val (.ref a1), .val (.long (adL (adL (0 : Int64) u0) u1)), .second, .val (.ref b), .val (.int (4 : Int32)), .val (.int (2 : Int32)), .val (.int u1)] [(.int (2 : Int32))]))
  refine Gl.go (fun _ k => XS.iload X1.here hx rfl (hb hby d3_16) rfl  k) ?_
  show Gl p.tables e below (QQof s (Q_ch4 Z a1 b kA u0 u1 u2 u3 h0 n0) 0 0) (T1.setTop (mkF m 18 #[.val (.ref a1), .val (.long (adL (adL (0 : Int64) u0) u1)), .second, .val (.ref b), .val (.int (4 : Int32)), .val (.int (2 : Int32)), .val (.int u1)] [(.int (4 : Int32)), (.int (2 : Int32))]))
  refine Gl.go (fun _ k => XS.icmpNo X1.here hx rfl (hb hby d3_18) rfl (tlt (by decide)).2.1 k) ?_
  show Gl p.tables e below (QQof s (Q_ch4 Z a1 b kA u0 u1 u2 u3 h0 n0) 0 0) (T1.setTop (mkF m 21 #[.val (.ref a1), .val (.long (adL (adL (0 : Int64) u0) u1)), .second, .val (.ref b), .val (.int (4 : Int32)), .val (.int (2 : Int32)), .val (.int u1)] []))
  refine Gl.go (fun _ k => XS.aloadN X1.here hx rfl (hb hby d3_21) rfl rfl  k) ?_
  show Gl p.tables e below (QQof s (Q_ch4 Z a1 b kA u0 u1 u2 u3 h0 n0) 0 0) (T1.setTop (mkF m 22 #[.val (.ref a1), .val (.long (adL (adL (0 : Int64) u0) u1)), .second, .val (.ref b), .val (.int (4 : Int32)), .val (.int (2 : Int32)), .val (.int u1)] [(.ref b)]))
  refine Gl.go (fun _ k => XS.iload X1.here hx rfl (hb hby d3_22) rfl  k) ?_
  show Gl p.tables e below (QQof s (Q_ch4 Z a1 b kA u0 u1 u2 u3 h0 n0) 0 0) (T1.setTop (mkF m 24 #[.val (.ref a1), .val (.long (adL (adL (0 : Int64) u0) u1)), .second, .val (.ref b), .val (.int (4 : Int32)), .val (.int (2 : Int32)), .val (.int u1)] [(.int (2 : Int32)), (.ref b)]))
  obtain ⟨cl5, Ar5, qA5, SA5, NA5, HA5, GA5⟩ := id V0
  have hin5 := inb_of (j := (2 : Int32)) SA5 ⟨by decide, by decide⟩
  have hat5 : cl5.slots[((2 : Int32)).toNatClampNeg]? = some (.int u2) := HA5.at hin5 rfl
  refine Gl.go (fun _ k => X1.iaload hx (j := (2 : Int32)) (v := (.int u2)) (by rw [e1]; exact Ar5.1) (State.isArrayOf_alike hZ.alike Ar5.2.1) Ar5.2.2 hin5 hat5 (g := (mkF m 24 #[.val (.ref a1), .val (.long (adL (adL (0 : Int64) u0) u1)), .second, .val (.ref b), .val (.int (4 : Int32)), .val (.int (2 : Int32)), .val (.int u1)] [(.int (2 : Int32)), (.ref b)])) rfl rfl (hb hby d3_24) _ k) ?_
  show Gl p.tables e below (QQof s (Q_ch4 Z a1 b kA u0 u1 u2 u3 h0 n0) 0 0) (T1.setTop (mkF m 25 #[.val (.ref a1), .val (.long (adL (adL (0 : Int64) u0) u1)), .second, .val (.ref b), .val (.int (4 : Int32)), .val (.int (2 : Int32)), .val (.int u1)] [(.int u2)]))
  refine Gl.go (fun _ k => XS.istore X1.here hx rfl (hb hby d3_25) rfl (l' := #[.val (.ref a1), .val (.long (adL (adL (0 : Int64) u0) u1)), .second, .val (.ref b), .val (.int (4 : Int32)), .val (.int (2 : Int32)), .val (.int u2)]) rfl k) ?_
  show Gl p.tables e below (QQof s (Q_ch4 Z a1 b kA u0 u1 u2 u3 h0 n0) 0 0) (T1.setTop (mkF m 27 #[.val (.ref a1), .val (.long (adL (adL (0 : Int64) u0) u1)), .second, .val (.ref b), .val (.int (4 : Int32)), .val (.int (2 : Int32)), .val (.int u2)] []))
  refine Gl.go (fun _ k => XS.lloadN X1.here hx rfl (hb hby d3_27) rfl  k) ?_
  show Gl p.tables e below (QQof s (Q_ch4 Z a1 b kA u0 u1 u2 u3 h0 n0) 0 0) (T1.setTop (mkF m 28 #[.val (.ref a1), .val (.long (adL (adL (0 : Int64) u0) u1)), .second, .val (.ref b), .val (.int (4 : Int32)), .val (.int (2 : Int32)), .val (.int u2)] [(.long (adL (adL (0 : Int64) u0) u1))]))
  refine Gl.go (fun _ k => XS.iload X1.here hx rfl (hb hby d3_28) rfl  k) ?_
  show Gl p.tables e below (QQof s (Q_ch4 Z a1 b kA u0 u1 u2 u3 h0 n0) 0 0) (T1.setTop (mkF m 30 #[.val (.ref a1), .val (.long (adL (adL (0 : Int64) u0) u1)), .second, .val (.ref b), .val (.int (4 : Int32)), .val (.int (2 : Int32)), .val (.int u2)] [(.int u2), (.long (adL (adL (0 : Int64) u0) u1))]))
  refine Gl.go (fun _ k => XS.i2l X1.here hx rfl (hb hby d3_30) rfl k) ?_
  show Gl p.tables e below (QQof s (Q_ch4 Z a1 b kA u0 u1 u2 u3 h0 n0) 0 0) (T1.setTop (mkF m 31 #[.val (.ref a1), .val (.long (adL (adL (0 : Int64) u0) u1)), .second, .val (.ref b), .val (.int (4 : Int32)), .val (.int (2 : Int32)), .val (.int u2)] [(.long (u2.toInt64)), (.long (adL (adL (0 : Int64) u0) u1))]))
  refine Gl.go (fun _ k => XS.ladd X1.here hx rfl (hb hby d3_31) rfl k) ?_
  show Gl p.tables e below (QQof s (Q_ch4 Z a1 b kA u0 u1 u2 u3 h0 n0) 0 0) (T1.setTop (mkF m 32 #[.val (.ref a1), .val (.long (adL (adL (0 : Int64) u0) u1)), .second, .val (.ref b), .val (.int (4 : Int32)), .val (.int (2 : Int32)), .val (.int u2)] [(.long ((adL (adL (0 : Int64) u0) u1) + (u2.toInt64)))]))
  show Gl p.tables e below (QQof s (Q_ch4 Z a1 b kA u0 u1 u2 u3 h0 n0) 0 0) (T1.setTop (mkF m 32 #[.val (.ref a1), .val (.long (adL (adL (0 : Int64) u0) u1)), .second, .val (.ref b), .val (.int (4 : Int32)), .val (.int (2 : Int32)), .val (.int u2)] [(.long (adL (adL (adL (0 : Int64) u0) u1) u2))]))
  refine Gl.go (fun _ k => XS.lstoreN X1.here hx rfl (hb hby d3_32) rfl (l' := #[.val (.ref a1), .val (.long (adL (adL (adL (0 : Int64) u0) u1) u2)), .second, .val (.ref b), .val (.int (4 : Int32)), .val (.int (2 : Int32)), .val (.int u2)]) rfl k) ?_
  show Gl p.tables e below (QQof s (Q_ch4 Z a1 b kA u0 u1 u2 u3 h0 n0) 0 0) (T1.setTop (mkF m 33 #[.val (.ref a1), .val (.long (adL (adL (adL (0 : Int64) u0) u1) u2)), .second, .val (.ref b), .val (.int (4 : Int32)), .val (.int (2 : Int32)), .val (.int u2)] []))
  refine Gl.go (fun _ k => XS.iinc X1.here hx rfl (hb hby d3_33) rfl (l' := #[.val (.ref a1), .val (.long (adL (adL (adL (0 : Int64) u0) u1) u2)), .second, .val (.ref b), .val (.int (4 : Int32)), .val (.int ((2 : Int32) + (1 : Int32))), .val (.int u2)]) rfl k) ?_
  show Gl p.tables e below (QQof s (Q_ch4 Z a1 b kA u0 u1 u2 u3 h0 n0) 0 0) (T1.setTop (mkF m 36 #[.val (.ref a1), .val (.long (adL (adL (adL (0 : Int64) u0) u1) u2)), .second, .val (.ref b), .val (.int (4 : Int32)), .val (.int ((2 : Int32) + (1 : Int32))), .val (.int u2)] []))
  rw [(by decide : ((2 : Int32) + (1 : Int32)) = (3 : Int32))]
  show Gl p.tables e below (QQof s (Q_ch4 Z a1 b kA u0 u1 u2 u3 h0 n0) 0 0) (T1.setTop (mkF m 36 #[.val (.ref a1), .val (.long (adL (adL (adL (0 : Int64) u0) u1) u2)), .second, .val (.ref b), .val (.int (4 : Int32)), .val (.int (3 : Int32)), .val (.int u2)] []))
  refine Gl.go (fun _ k => XS.goto X1.here hx rfl (pc0 := 36) (pc' := 14) rfl (hb hby d3_36) (by decide) (by decide) k) ?_
  show Gl p.tables e below (QQof s (Q_ch4 Z a1 b kA u0 u1 u2 u3 h0 n0) 0 0) (T1.setTop (mkF m 14 #[.val (.ref a1), .val (.long (adL (adL (adL (0 : Int64) u0) u1) u2)), .second, .val (.ref b), .val (.int (4 : Int32)), .val (.int (3 : Int32)), .val (.int u2)] []))
  refine Gl.go (fun _ k => XS.iload X1.here hx rfl (hb hby d3_14) rfl  k) ?_
  show Gl p.tables e below (QQof s (Q_ch4 Z a1 b kA u0 u1 u2 u3 h0 n0) 0 0) (T1.setTop (mkF m 16 #[.val (.ref a1), .val (.long (adL (adL (adL (0 : Int64) u0) u1) u2)), .second, .val (.ref b), .val (.int (4 : Int32)), .val (.int (3 : Int32)), .val (.int u2)] [(.int (3 : Int32))]))
  refine Gl.go (fun _ k => XS.iload X1.here hx rfl (hb hby d3_16) rfl  k) ?_
  show Gl p.tables e below (QQof s (Q_ch4 Z a1 b kA u0 u1 u2 u3 h0 n0) 0 0) (T1.setTop (mkF m 18 #[.val (.ref a1), .val (.long (adL (adL (adL (0 : Int64) u0) u1) u2)), .second, .val (.ref b), .val (.int (4 : Int32)), .val (.int (3 : Int32)), .val (.int u2)] [(.int (4 : Int32)), (.int (3 : Int32))]))
  refine Gl.go (fun _ k => XS.icmpNo X1.here hx rfl (hb hby d3_18) rfl (tlt (by decide)).2.1 k) ?_
  show Gl p.tables e below (QQof s (Q_ch4 Z a1 b kA u0 u1 u2 u3 h0 n0) 0 0) (T1.setTop (mkF m 21 #[.val (.ref a1), .val (.long (adL (adL (adL (0 : Int64) u0) u1) u2)), .second, .val (.ref b), .val (.int (4 : Int32)), .val (.int (3 : Int32)), .val (.int u2)] []))
  refine Gl.go (fun _ k => XS.aloadN X1.here hx rfl (hb hby d3_21) rfl rfl  k) ?_
  show Gl p.tables e below (QQof s (Q_ch4 Z a1 b kA u0 u1 u2 u3 h0 n0) 0 0) (T1.setTop (mkF m 22 #[.val (.ref a1), .val (.long (adL (adL (adL (0 : Int64) u0) u1) u2)), .second, .val (.ref b), .val (.int (4 : Int32)), .val (.int (3 : Int32)), .val (.int u2)] [(.ref b)]))
  refine Gl.go (fun _ k => XS.iload X1.here hx rfl (hb hby d3_22) rfl  k) ?_
  show Gl p.tables e below (QQof s (Q_ch4 Z a1 b kA u0 u1 u2 u3 h0 n0) 0 0) (T1.setTop (mkF m 24 #[.val (.ref a1), .val (.long (adL (adL (adL (0 : Int64) u0) u1) u2)), .second, .val (.ref b), .val (.int (4 : Int32)), .val (.int (3 : Int32)), .val (.int u2)] [(.int (3 : Int32)), (.ref b)]))
  obtain ⟨cl6, Ar6, qA6, SA6, NA6, HA6, GA6⟩ := id V0
  have hin6 := inb_of (j := (3 : Int32)) SA6 ⟨by decide, by decide⟩
  have hat6 : cl6.slots[((3 : Int32)).toNatClampNeg]? = some (.int u3) := HA6.at hin6 rfl
  refine Gl.go (fun _ k => X1.iaload hx (j := (3 : Int32)) (v := (.int u3)) (by rw [e1]; exact Ar6.1) (State.isArrayOf_alike hZ.alike Ar6.2.1) Ar6.2.2 hin6 hat6 (g := (mkF m 24 #[.val (.ref a1), .val (.long (adL (adL (adL (0 : Int64) u0) u1) u2)), .second, .val (.ref b), .val (.int (4 : Int32)), .val (.int (3 : Int32)), .val (.int u2)] [(.int (3 : Int32)), (.ref b)])) rfl rfl (hb hby d3_24) _ k) ?_
  show Gl p.tables e below (QQof s (Q_ch4 Z a1 b kA u0 u1 u2 u3 h0 n0) 0 0) (T1.setTop (mkF m 25 #[.val (.ref a1), .val (.long (adL (adL (adL (0 : Int64) u0) u1) u2)), .second, .val (.ref b), .val (.int (4 : Int32)), .val (.int (3 : Int32)), .val (.int u2)] [(.int u3)]))
  refine Gl.go (fun _ k => XS.istore X1.here hx rfl (hb hby d3_25) rfl (l' := #[.val (.ref a1), .val (.long (adL (adL (adL (0 : Int64) u0) u1) u2)), .second, .val (.ref b), .val (.int (4 : Int32)), .val (.int (3 : Int32)), .val (.int u3)]) rfl k) ?_
  show Gl p.tables e below (QQof s (Q_ch4 Z a1 b kA u0 u1 u2 u3 h0 n0) 0 0) (T1.setTop (mkF m 27 #[.val (.ref a1), .val (.long (adL (adL (adL (0 : Int64) u0) u1) u2)), .second, .val (.ref b), .val (.int (4 : Int32)), .val (.int (3 : Int32)), .val (.int u3)] []))
  refine Gl.go (fun _ k => XS.lloadN X1.here hx rfl (hb hby d3_27) rfl  k) ?_
  show Gl p.tables e below (QQof s (Q_ch4 Z a1 b kA u0 u1 u2 u3 h0 n0) 0 0) (T1.setTop (mkF m 28 #[.val (.ref a1), .val (.long (adL (adL (adL (0 : Int64) u0) u1) u2)), .second, .val (.ref b), .val (.int (4 : Int32)), .val (.int (3 : Int32)), .val (.int u3)] [(.long (adL (adL (adL (0 : Int64) u0) u1) u2))]))
  refine Gl.go (fun _ k => XS.iload X1.here hx rfl (hb hby d3_28) rfl  k) ?_
  show Gl p.tables e below (QQof s (Q_ch4 Z a1 b kA u0 u1 u2 u3 h0 n0) 0 0) (T1.setTop (mkF m 30 #[.val (.ref a1), .val (.long (adL (adL (adL (0 : Int64) u0) u1) u2)), .second, .val (.ref b), .val (.int (4 : Int32)), .val (.int (3 : Int32)), .val (.int u3)] [(.int u3), (.long (adL (adL (adL (0 : Int64) u0) u1) u2))]))
  refine Gl.go (fun _ k => XS.i2l X1.here hx rfl (hb hby d3_30) rfl k) ?_
  show Gl p.tables e below (QQof s (Q_ch4 Z a1 b kA u0 u1 u2 u3 h0 n0) 0 0) (T1.setTop (mkF m 31 #[.val (.ref a1), .val (.long (adL (adL (adL (0 : Int64) u0) u1) u2)), .second, .val (.ref b), .val (.int (4 : Int32)), .val (.int (3 : Int32)), .val (.int u3)] [(.long (u3.toInt64)), (.long (adL (adL (adL (0 : Int64) u0) u1) u2))]))
  refine Gl.go (fun _ k => XS.ladd X1.here hx rfl (hb hby d3_31) rfl k) ?_
  show Gl p.tables e below (QQof s (Q_ch4 Z a1 b kA u0 u1 u2 u3 h0 n0) 0 0) (T1.setTop (mkF m 32 #[.val (.ref a1), .val (.long (adL (adL (adL (0 : Int64) u0) u1) u2)), .second, .val (.ref b), .val (.int (4 : Int32)), .val (.int (3 : Int32)), .val (.int u3)] [(.long ((adL (adL (adL (0 : Int64) u0) u1) u2) + (u3.toInt64)))]))
  show Gl p.tables e below (QQof s (Q_ch4 Z a1 b kA u0 u1 u2 u3 h0 n0) 0 0) (T1.setTop (mkF m 32 #[.val (.ref a1), .val (.long (adL (adL (adL (0 : Int64) u0) u1) u2)), .second, .val (.ref b), .val (.int (4 : Int32)), .val (.int (3 : Int32)), .val (.int u3)] [(.long (adL (adL (adL (adL (0 : Int64) u0) u1) u2) u3))]))
  refine Gl.go (fun _ k => XS.lstoreN X1.here hx rfl (hb hby d3_32) rfl (l' := #[.val (.ref a1), .val (.long (adL (adL (adL (adL (0 : Int64) u0) u1) u2) u3)), .second, .val (.ref b), .val (.int (4 : Int32)), .val (.int (3 : Int32)), .val (.int u3)]) rfl k) ?_
  show Gl p.tables e below (QQof s (Q_ch4 Z a1 b kA u0 u1 u2 u3 h0 n0) 0 0) (T1.setTop (mkF m 33 #[.val (.ref a1), .val (.long (adL (adL (adL (adL (0 : Int64) u0) u1) u2) u3)), .second, .val (.ref b), .val (.int (4 : Int32)), .val (.int (3 : Int32)), .val (.int u3)] []))
  refine Gl.go (fun _ k => XS.iinc X1.here hx rfl (hb hby d3_33) rfl (l' := #[.val (.ref a1), .val (.long (adL (adL (adL (adL (0 : Int64) u0) u1) u2) u3)), .second, .val (.ref b), .val (.int (4 : Int32)), .val (.int ((3 : Int32) + (1 : Int32))), .val (.int u3)]) rfl k) ?_
  show Gl p.tables e below (QQof s (Q_ch4 Z a1 b kA u0 u1 u2 u3 h0 n0) 0 0) (T1.setTop (mkF m 36 #[.val (.ref a1), .val (.long (adL (adL (adL (adL (0 : Int64) u0) u1) u2) u3)), .second, .val (.ref b), .val (.int (4 : Int32)), .val (.int ((3 : Int32) + (1 : Int32))), .val (.int u3)] []))
  rw [(by decide : ((3 : Int32) + (1 : Int32)) = (4 : Int32))]
  show Gl p.tables e below (QQof s (Q_ch4 Z a1 b kA u0 u1 u2 u3 h0 n0) 0 0) (T1.setTop (mkF m 36 #[.val (.ref a1), .val (.long (adL (adL (adL (adL (0 : Int64) u0) u1) u2) u3)), .second, .val (.ref b), .val (.int (4 : Int32)), .val (.int (4 : Int32)), .val (.int u3)] []))
  refine Gl.go (fun _ k => XS.goto X1.here hx rfl (pc0 := 36) (pc' := 14) rfl (hb hby d3_36) (by decide) (by decide) k) ?_
  show Gl p.tables e below (QQof s (Q_ch4 Z a1 b kA u0 u1 u2 u3 h0 n0) 0 0) (T1.setTop (mkF m 14 #[.val (.ref a1), .val (.long (adL (adL (adL (adL (0 : Int64) u0) u1) u2) u3)), .second, .val (.ref b), .val (.int (4 : Int32)), .val (.int (4 : Int32)), .val (.int u3)] []))
  refine Gl.go (fun _ k => XS.iload X1.here hx rfl (hb hby d3_14) rfl  k) ?_
  show Gl p.tables e below (QQof s (Q_ch4 Z a1 b kA u0 u1 u2 u3 h0 n0) 0 0) (T1.setTop (mkF m 16 #[.val (.ref a1), .val (.long (adL (adL (adL (adL (0 : Int64) u0) u1) u2) u3)), .second, .val (.ref b), .val (.int (4 : Int32)), .val (.int (4 : Int32)), .val (.int u3)] [(.int (4 : Int32))]))
  refine Gl.go (fun _ k => XS.iload X1.here hx rfl (hb hby d3_16) rfl  k) ?_
  show Gl p.tables e below (QQof s (Q_ch4 Z a1 b kA u0 u1 u2 u3 h0 n0) 0 0) (T1.setTop (mkF m 18 #[.val (.ref a1), .val (.long (adL (adL (adL (adL (0 : Int64) u0) u1) u2) u3)), .second, .val (.ref b), .val (.int (4 : Int32)), .val (.int (4 : Int32)), .val (.int u3)] [(.int (4 : Int32)), (.int (4 : Int32))]))
  refine Gl.go (fun _ k => XS.icmpYes X1.here hx rfl (pc0 := 18) (pc' := 39) rfl (hb hby d3_18) rfl (flt (by decide)).2.1 (by decide) (by decide) k) ?_
  show Gl p.tables e below (QQof s (Q_ch4 Z a1 b kA u0 u1 u2 u3 h0 n0) 0 0) (T1.setTop (mkF m 39 #[.val (.ref a1), .val (.long (adL (adL (adL (adL (0 : Int64) u0) u1) u2) u3)), .second, .val (.ref b), .val (.int (4 : Int32)), .val (.int (4 : Int32)), .val (.int u3)] []))
  refine Gl.go (fun _ k => XS.lloadN X1.here hx rfl (hb hby d3_39) rfl  k) ?_
  show Gl p.tables e below (QQof s (Q_ch4 Z a1 b kA u0 u1 u2 u3 h0 n0) 0 0) (T1.setTop (mkF m 40 #[.val (.ref a1), .val (.long (adL (adL (adL (adL (0 : Int64) u0) u1) u2) u3)), .second, .val (.ref b), .val (.int (4 : Int32)), .val (.int (4 : Int32)), .val (.int u3)] [(.long (adL (adL (adL (adL (0 : Int64) u0) u1) u2) u3))]))
  refine leafL X1 hx hlk Bd.returns (hb hby d3_40) ?_ (by decide) (by decide)
  exact ⟨rfl, N0, e1⟩
def Q_law (Z : State) (n_ a b c_ d : Int32) (h0 : Heap) (n0 : Nat) (v : Option Value) (h : Heap) (L : List Loc) : Prop := v = some (.int 1) ∧ Fr n0 L
set_option maxRecDepth 65536 in
set_option maxHeartbeats 40000000 in
theorem rm_law (l : Launch) (Z : State) (a0 : Array Value) (hw : ∀ d ∈ tables_1, d.before a0 Z = true) (ws : List Jvm.Cond) (n_ a b c_ d : Int32) (h0 : Heap) (n0 : Nat) (Z0 : n0 ≤ h0.size)  :
    MetFree l x (head1 (Jvm.Cond.code x code maxLocals ret :: ws) room_1) (fun aa U => aa = #[(.int n_), (.int a), (.int b), (.int c_), (.int d)] ∧ Z.Warmed39 U.vm ∧ U.heap = h0) (fun _ _ _ _ _ => True) (fun _ U o U' => ∃ v L, o = .returned v ∧ Q_law Z n_ a b c_ d h0 n0 v U'.heap L ∧ FrameEnd U o U' L 3 12) := by
  refine MetFree.of_bodySF (plainFor_of_name pn_1) hisR ?_
  intro p e s m args below meth c s₁ Bd hml0 hP hK
  obtain ⟨rfl, hZ, hh⟩ := hP
  have hx := Bd.exec
  have hby := Bd.bytes
  have hml : c.maxLocals = 10 := hml0
  have hown : s.vm.findClass "com/example/berthwise/berthwise/model/PlacementCraneHoursPinLaw" = some m.cls := findClass_of_methodNamed Bd.named
  have hnm := (name_of_methodNamed Bd.named Bd.method).1
  have hlk : meth.locks = false := BodyLoose.notSynchronized Bd
  have X0 : Stand p l e room_1 s m #[(.int n_), (.int a), (.int b), (.int c_), (.int d)] below meth c s₁ [] 0 0 := Stand.of_body Bd
  have e0 : s₁.heap = h0 := by rw [← hh, Bd.state]; rfl
  have N0 := Fr.nil n0
  have K0 : Keep h0 h0 [] := Keep.refl _ _
  show Gl p.tables e below (QQof s (Q_law Z n_ a b c_ d h0 n0) 3 12) (s₁.setTop (entryFrame m #[(.int n_), (.int a), (.int b), (.int c_), (.int d)] maxLocals))
  refine Gl.go (fun t k => castTop (ef_law m n_ a b c_ d) k) ?_
  show Gl p.tables e below (QQof s (Q_law Z n_ a b c_ d h0 n0) 3 12) (s₁.setTop (mkF m 0 #[.val (.int n_), .val (.int a), .val (.int b), .val (.int c_), .val (.int d), .unset, .unset, .unset, .unset, .unset] []))
  refine Gl.go (fun _ k => XS.iloadN X0.here hx rfl (hb hby at_0) rfl  k) ?_
  show Gl p.tables e below (QQof s (Q_law Z n_ a b c_ d h0 n0) 3 12) (s₁.setTop (mkF m 1 #[.val (.int n_), .val (.int a), .val (.int b), .val (.int c_), .val (.int d), .unset, .unset, .unset, .unset, .unset] [(.int n_)]))
  refine Gl.go (fun _ k => XS.iconst X0.here hx rfl (hb hby at_1) k) ?_
  show Gl p.tables e below (QQof s (Q_law Z n_ a b c_ d h0 n0) 3 12) (s₁.setTop (mkF m 2 #[.val (.int n_), .val (.int a), .val (.int b), .val (.int c_), .val (.int d), .unset, .unset, .unset, .unset, .unset] [(.int (3 : Int32)), (.int n_)]))
  refine Gl.go (fun _ k => XS.iand X0.here hx rfl (hb hby at_2) rfl k) ?_
  show Gl p.tables e below (QQof s (Q_law Z n_ a b c_ d h0 n0) 3 12) (s₁.setTop (mkF m 3 #[.val (.int n_), .val (.int a), .val (.int b), .val (.int c_), .val (.int d), .unset, .unset, .unset, .unset, .unset] [(.int (n_ &&& (3 : Int32)))]))
  refine Gl.go (fun _ k => XS.iconst X0.here hx rfl (hb hby at_3) k) ?_
  show Gl p.tables e below (QQof s (Q_law Z n_ a b c_ d h0 n0) 3 12) (s₁.setTop (mkF m 4 #[.val (.int n_), .val (.int a), .val (.int b), .val (.int c_), .val (.int d), .unset, .unset, .unset, .unset, .unset] [(.int (1 : Int32)), (.int (n_ &&& (3 : Int32)))]))
  refine Gl.go (fun _ k => XS.iadd X0.here hx rfl (hb hby at_4) rfl k) ?_
  show Gl p.tables e below (QQof s (Q_law Z n_ a b c_ d h0 n0) 3 12) (s₁.setTop (mkF m 5 #[.val (.int n_), .val (.int a), .val (.int b), .val (.int c_), .val (.int d), .unset, .unset, .unset, .unset, .unset] [(.int ((n_ &&& (3 : Int32)) + (1 : Int32)))]))
  rcases own_len n_ with hl | hl | hl | hl
  · skip
    rw [(hl : ((n_ &&& (3 : Int32)) + (1 : Int32)) = (1 : Int32))]
    show Gl p.tables e below (QQof s (Q_law Z n_ a b c_ d h0 n0) 3 12) (s₁.setTop (mkF m 5 #[.val (.int n_), .val (.int a), .val (.int b), .val (.int c_), .val (.int d), .unset, .unset, .unset, .unset, .unset] [(.int (1 : Int32))]))
    refine Gl.go (fun _ k => XS.istore X0.here hx rfl (hb hby at_5) rfl (l' := #[.val (.int n_), .val (.int a), .val (.int b), .val (.int c_), .val (.int d), .val (.int (1 : Int32)), .unset, .unset, .unset, .unset]) rfl k) ?_
    show Gl p.tables e below (QQof s (Q_law Z n_ a b c_ d h0 n0) 3 12) (s₁.setTop (mkF m 7 #[.val (.int n_), .val (.int a), .val (.int b), .val (.int c_), .val (.int d), .val (.int (1 : Int32)), .unset, .unset, .unset, .unset] []))
    refine Gl.go (fun _ k => XS.iload X0.here hx rfl (hb hby at_7) rfl  k) ?_
    show Gl p.tables e below (QQof s (Q_law Z n_ a b c_ d h0 n0) 3 12) (s₁.setTop (mkF m 9 #[.val (.int n_), .val (.int a), .val (.int b), .val (.int c_), .val (.int d), .val (.int (1 : Int32)), .unset, .unset, .unset, .unset] [(.int (1 : Int32))]))
    obtain ⟨T1, h1, cA1, X1, e1, E1, A1, Y1, st1⟩ := newPE X0 hx hZ (hw _ (List.mem_of_getElem? (i := 0) rfl)) e0 (g := (mkF m 9 #[.val (.int n_), .val (.int a), .val (.int b), .val (.int c_), .val (.int d), .val (.int (1 : Int32)), .unset, .unset, .unset, .unset] [(.int (1 : Int32))])) rfl (hb hby at_9) rfl (by decide) (cap := 1) (by decide) (by decide) (by decide) (by decide) (ad := "[I") (by decide)
    obtain ⟨b1, g1⟩ : ∃ z, z = h0.size := ⟨_, rfl⟩
    rw [← g1] at A1 Y1 st1
    have g_b1 : n0 ≤ b1 := Nat.le_trans Z0 (Nat.le_of_eq g1.symm)
    have sz_b1 : h0.size ≤ b1 := Nat.le_trans K0.1 (Nat.le_of_eq g1.symm)
    have SZ1 : n0 ≤ h1.size := Nat.le_trans Z0 E1.1
    have K1 : Keep h0 h1 [] := K0.ext E1
    have V_b1_1 : Arv Z h1 b1 cA1 .int (1 : Int32) [(.int (0 : Int32))] (.int (0 : Int32)) := (Arv.new A1 (by decide)).pad (pad_rep [] _ 1)
    refine Gl.go (fun _ k => st1 _ k) ?_
    show Gl p.tables e below (QQof s (Q_law Z n_ a b c_ d h0 n0) 3 12) (T1.setTop (mkF m 11 #[.val (.int n_), .val (.int a), .val (.int b), .val (.int c_), .val (.int d), .val (.int (1 : Int32)), .unset, .unset, .unset, .unset] [(.ref b1)]))
    refine Gl.go (fun _ k => XS.astore X1.here hx rfl (hb hby at_11) rfl rfl (l' := #[.val (.int n_), .val (.int a), .val (.int b), .val (.int c_), .val (.int d), .val (.int (1 : Int32)), .val (.ref b1), .unset, .unset, .unset]) rfl k) ?_
    show Gl p.tables e below (QQof s (Q_law Z n_ a b c_ d h0 n0) 3 12) (T1.setTop (mkF m 13 #[.val (.int n_), .val (.int a), .val (.int b), .val (.int c_), .val (.int d), .val (.int (1 : Int32)), .val (.ref b1), .unset, .unset, .unset] []))
    refine Gl.go (fun _ k => XS.aload X1.here hx rfl (hb hby at_13) rfl rfl  k) ?_
    show Gl p.tables e below (QQof s (Q_law Z n_ a b c_ d h0 n0) 3 12) (T1.setTop (mkF m 15 #[.val (.int n_), .val (.int a), .val (.int b), .val (.int c_), .val (.int d), .val (.int (1 : Int32)), .val (.ref b1), .unset, .unset, .unset] [(.ref b1)]))
    refine Gl.go (fun _ k => XS.iconst X1.here hx rfl (hb hby at_15) k) ?_
    show Gl p.tables e below (QQof s (Q_law Z n_ a b c_ d h0 n0) 3 12) (T1.setTop (mkF m 16 #[.val (.int n_), .val (.int a), .val (.int b), .val (.int c_), .val (.int d), .val (.int (1 : Int32)), .val (.ref b1), .unset, .unset, .unset] [(.int (0 : Int32)), (.ref b1)]))
    refine Gl.go (fun _ k => XS.iloadN X1.here hx rfl (hb hby at_16) rfl  k) ?_
    show Gl p.tables e below (QQof s (Q_law Z n_ a b c_ d h0 n0) 3 12) (T1.setTop (mkF m 17 #[.val (.int n_), .val (.int a), .val (.int b), .val (.int c_), .val (.int d), .val (.int (1 : Int32)), .val (.ref b1), .unset, .unset, .unset] [(.int a), (.int (0 : Int32)), (.ref b1)]))
    obtain ⟨cl2, Ar2, qA2, SA2, NA2, HA2, GA2⟩ := id V_b1_1
    obtain ⟨T2, h2, X2, e2, W2, st2⟩ := stI X1 hx hZ e1 Ar2 (j := (0 : Int32)) (inb_of SA2 ⟨by decide, by decide⟩) (g := (mkF m 17 #[.val (.int n_), .val (.int a), .val (.int b), .val (.int c_), .val (.int d), .val (.int (1 : Int32)), .val (.ref b1), .unset, .unset, .unset] [(.int a), (.int (0 : Int32)), (.ref b1)])) rfl rfl (hb hby at_17)
    have E_b1_2 : Exa Z h2 b1 "[I" := Y1.wr W2
    have SZ2 : n0 ≤ h2.size := by rw [Wr.size W2]; exact SZ1
    have K2 : Keep h0 h2 [] := K1.wr W2 (Or.inr sz_b1)
    have N2 := Fr.snoc X2 N0 g_b1
    have V_b1_2 : Arv Z h2 b1 cA1 .int (1 : Int32) [(.int a)] (.int (0 : Int32)) := Arv.set Ar2 qA2 SA2 NA2 HA2 GA2 rfl W2 0 rfl (Nat.le_of_ble_eq_true rfl)
    refine Gl.go (fun _ k => st2 _ k) ?_
    show Gl p.tables e below (QQof s (Q_law Z n_ a b c_ d h0 n0) 3 12) (T2.setTop (mkF m 18 #[.val (.int n_), .val (.int a), .val (.int b), .val (.int c_), .val (.int d), .val (.int (1 : Int32)), .val (.ref b1), .unset, .unset, .unset] []))
    refine Gl.go (fun _ k => XS.iload X2.here hx rfl (hb hby at_18) rfl  k) ?_
    show Gl p.tables e below (QQof s (Q_law Z n_ a b c_ d h0 n0) 3 12) (T2.setTop (mkF m 20 #[.val (.int n_), .val (.int a), .val (.int b), .val (.int c_), .val (.int d), .val (.int (1 : Int32)), .val (.ref b1), .unset, .unset, .unset] [(.int (1 : Int32))]))
    refine Gl.go (fun _ k => XS.iconst X2.here hx rfl (hb hby at_20) k) ?_
    show Gl p.tables e below (QQof s (Q_law Z n_ a b c_ d h0 n0) 3 12) (T2.setTop (mkF m 21 #[.val (.int n_), .val (.int a), .val (.int b), .val (.int c_), .val (.int d), .val (.int (1 : Int32)), .val (.ref b1), .unset, .unset, .unset] [(.int (2 : Int32)), (.int (1 : Int32))]))
    refine Gl.go (fun _ k => XS.icmpYes X2.here hx rfl (pc0 := 21) (pc' := 29) rfl (hb hby at_21) rfl (tlt (by decide)).1 (by decide) (by decide) k) ?_
    show Gl p.tables e below (QQof s (Q_law Z n_ a b c_ d h0 n0) 3 12) (T2.setTop (mkF m 29 #[.val (.int n_), .val (.int a), .val (.int b), .val (.int c_), .val (.int d), .val (.int (1 : Int32)), .val (.ref b1), .unset, .unset, .unset] []))
    refine Gl.go (fun _ k => XS.iload X2.here hx rfl (hb hby at_29) rfl  k) ?_
    show Gl p.tables e below (QQof s (Q_law Z n_ a b c_ d h0 n0) 3 12) (T2.setTop (mkF m 31 #[.val (.int n_), .val (.int a), .val (.int b), .val (.int c_), .val (.int d), .val (.int (1 : Int32)), .val (.ref b1), .unset, .unset, .unset] [(.int (1 : Int32))]))
    refine Gl.go (fun _ k => XS.iconst X2.here hx rfl (hb hby at_31) k) ?_
    show Gl p.tables e below (QQof s (Q_law Z n_ a b c_ d h0 n0) 3 12) (T2.setTop (mkF m 32 #[.val (.int n_), .val (.int a), .val (.int b), .val (.int c_), .val (.int d), .val (.int (1 : Int32)), .val (.ref b1), .unset, .unset, .unset] [(.int (3 : Int32)), (.int (1 : Int32))]))
    refine Gl.go (fun _ k => XS.icmpYes X2.here hx rfl (pc0 := 32) (pc' := 40) rfl (hb hby at_32) rfl (tlt (by decide)).1 (by decide) (by decide) k) ?_
    show Gl p.tables e below (QQof s (Q_law Z n_ a b c_ d h0 n0) 3 12) (T2.setTop (mkF m 40 #[.val (.int n_), .val (.int a), .val (.int b), .val (.int c_), .val (.int d), .val (.int (1 : Int32)), .val (.ref b1), .unset, .unset, .unset] []))
    refine Gl.go (fun _ k => XS.iload X2.here hx rfl (hb hby at_40) rfl  k) ?_
    show Gl p.tables e below (QQof s (Q_law Z n_ a b c_ d h0 n0) 3 12) (T2.setTop (mkF m 42 #[.val (.int n_), .val (.int a), .val (.int b), .val (.int c_), .val (.int d), .val (.int (1 : Int32)), .val (.ref b1), .unset, .unset, .unset] [(.int (1 : Int32))]))
    refine Gl.go (fun _ k => XS.iconst X2.here hx rfl (hb hby at_42) k) ?_
    show Gl p.tables e below (QQof s (Q_law Z n_ a b c_ d h0 n0) 3 12) (T2.setTop (mkF m 43 #[.val (.int n_), .val (.int a), .val (.int b), .val (.int c_), .val (.int d), .val (.int (1 : Int32)), .val (.ref b1), .unset, .unset, .unset] [(.int (4 : Int32)), (.int (1 : Int32))]))
    refine Gl.go (fun _ k => XS.icmpYes X2.here hx rfl (pc0 := 43) (pc' := 52) rfl (hb hby at_43) rfl (tlt (by decide)).1 (by decide) (by decide) k) ?_
    show Gl p.tables e below (QQof s (Q_law Z n_ a b c_ d h0 n0) 3 12) (T2.setTop (mkF m 52 #[.val (.int n_), .val (.int a), .val (.int b), .val (.int c_), .val (.int d), .val (.int (1 : Int32)), .val (.ref b1), .unset, .unset, .unset] []))
    obtain ⟨T3, h3, X3, e3, E3, A3, D3, -, st3⟩ := newO X2 hx hZ hown (hw _ (List.mem_of_getElem? (i := 1) rfl)) (hw _ (List.mem_of_getElem? (i := 2) rfl)) (hw _ (List.mem_of_getElem? (i := 3) rfl)) e2 (g := (mkF m 52 #[.val (.int n_), .val (.int a), .val (.int b), .val (.int c_), .val (.int d), .val (.int (1 : Int32)), .val (.ref b1), .unset, .unset, .unset] [])) rfl (hb hby at_52) (by decide) (by decide)
    obtain ⟨b3, g3⟩ : ∃ z, z = h2.size := ⟨_, rfl⟩
    rw [← g3] at A3 D3 st3
    have g_b3 : n0 ≤ b3 := Nat.le_trans SZ2 (Nat.le_of_eq g3.symm)
    have sz_b3 : h0.size ≤ b3 := Nat.le_trans K2.1 (Nat.le_of_eq g3.symm)
    have ne_b1_b3 : b1 ≠ b3 := Nat.ne_of_lt (Nat.lt_of_lt_of_le E_b1_2.lt (Nat.le_of_eq g3.symm))
    have E_b1_3 : Exa Z h3 b1 "[I" := E_b1_2.ext E3
    have V_b1_3 : Arv Z h3 b1 cA1 .int (1 : Int32) [(.int a)] (.int (0 : Int32)) := V_b1_2.ext E3
    have SZ3 : n0 ≤ h3.size := Nat.le_trans SZ2 E3.1
    have K3 : Keep h0 h3 [] := K2.ext E3
    have F_b3_vessel_3 : Fld Z h3 b3 "com/example/berthwise/berthwise/model/Placement" "vessel" "Lcom/example/berthwise/berthwise/model/Vessel;" .null := D3 (Or.inr (hw _ (List.mem_of_getElem? (i := 11) rfl))) (ty := (.object "com/example/berthwise/berthwise/model/Vessel")) (by decide)
    have F_b3_start_3 : Fld Z h3 b3 "com/example/berthwise/berthwise/model/Placement" "start" "I" (.int (0 : Int32)) := D3 (Or.inr (hw _ (List.mem_of_getElem? (i := 13) rfl))) (ty := .int) (by decide)
    have F_b3_position_3 : Fld Z h3 b3 "com/example/berthwise/berthwise/model/Placement" "position" "I" (.int (0 : Int32)) := D3 (Or.inr (hw _ (List.mem_of_getElem? (i := 15) rfl))) (ty := .int) (by decide)
    have F_b3_cranes_3 : Fld Z h3 b3 "com/example/berthwise/berthwise/model/Placement" "cranes" "[I" .null := D3 (Or.inr (hw _ (List.mem_of_getElem? (i := 26) rfl))) (ty := (.array .int)) (by decide)
    refine Gl.go (fun _ k => st3 _ k) ?_
    show Gl p.tables e below (QQof s (Q_law Z n_ a b c_ d h0 n0) 3 12) (T3.setTop (mkF m 55 #[.val (.int n_), .val (.int a), .val (.int b), .val (.int c_), .val (.int d), .val (.int (1 : Int32)), .val (.ref b1), .unset, .unset, .unset] [(.ref b3)]))
    refine Gl.go (fun _ k => XS.dup X3.here hx rfl (hb hby at_55) rfl rfl k) ?_
    show Gl p.tables e below (QQof s (Q_law Z n_ a b c_ d h0 n0) 3 12) (T3.setTop (mkF m 56 #[.val (.int n_), .val (.int a), .val (.int b), .val (.int c_), .val (.int d), .val (.int (1 : Int32)), .val (.ref b1), .unset, .unset, .unset] [(.ref b3), (.ref b3)]))
    refine Gl.go (fun _ k => XS.aconstNull X3.here hx rfl (hb hby at_56) k) ?_
    show Gl p.tables e below (QQof s (Q_law Z n_ a b c_ d h0 n0) 3 12) (T3.setTop (mkF m 57 #[.val (.int n_), .val (.int a), .val (.int b), .val (.int c_), .val (.int d), .val (.int (1 : Int32)), .val (.ref b1), .unset, .unset, .unset] [.null, (.ref b3), (.ref b3)]))
    refine Gl.go (fun _ k => XS.iloadN X3.here hx rfl (hb hby at_57) rfl  k) ?_
    show Gl p.tables e below (QQof s (Q_law Z n_ a b c_ d h0 n0) 3 12) (T3.setTop (mkF m 58 #[.val (.int n_), .val (.int a), .val (.int b), .val (.int c_), .val (.int d), .val (.int (1 : Int32)), .val (.ref b1), .unset, .unset, .unset] [(.int n_), .null, (.ref b3), (.ref b3)]))
    refine Gl.go (fun _ k => XS.iloadN X3.here hx rfl (hb hby at_58) rfl  k) ?_
    show Gl p.tables e below (QQof s (Q_law Z n_ a b c_ d h0 n0) 3 12) (T3.setTop (mkF m 59 #[.val (.int n_), .val (.int a), .val (.int b), .val (.int c_), .val (.int d), .val (.int (1 : Int32)), .val (.ref b1), .unset, .unset, .unset] [(.int a), (.int n_), .null, (.ref b3), (.ref b3)]))
    refine Gl.go (fun _ k => XS.aload X3.here hx rfl (hb hby at_59) rfl rfl  k) ?_
    show Gl p.tables e below (QQof s (Q_law Z n_ a b c_ d h0 n0) 3 12) (T3.setTop (mkF m 61 #[.val (.int n_), .val (.int a), .val (.int b), .val (.int c_), .val (.int d), .val (.int (1 : Int32)), .val (.ref b1), .unset, .unset, .unset] [(.ref b1), (.int a), (.int n_), .null, (.ref b3), (.ref b3)]))
    obtain ⟨_, _, ⟨T4, L4, k4, n4⟩, -, X4, ⟨Lc4, hQ4, l4, y4, z4⟩, st4⟩ := X3.specialBack hx (y := (⟨"com/example/berthwise/berthwise/model/Placement", "<init>", "(Lcom/example/berthwise/berthwise/model/Vessel;II[I)V"⟩ : MethodName)) rfl hown (mvT hZ (hw _ (List.mem_of_getElem? (i := 4) rfl))) (mvT hZ (hw _ (List.mem_of_getElem? (i := 5) rfl))) (mvT hZ (hw _ (List.mem_of_getElem? (i := 6) rfl))) (by decide) (backOf (W := 1) (rm_ini l Z a0 hw [] b3 b1 n_ a cA1 (1 : Int32) [(.int a)] .null (.int 0) (.int 0) .null h3 n0 SZ3 (by decide) (by decide) A3 F_b3_vessel_3 F_b3_start_3 F_b3_position_3 F_b3_cranes_3 g_b3 V_b1_3 E_b1_3 ne_b1_b3) hZ (hw _ (List.mem_of_getElem? (i := 6) rfl)) (hw _ (List.mem_of_getElem? (i := 3) rfl)) (by decide) (by decide)) (g := (mkF m 61 #[.val (.int n_), .val (.int a), .val (.int b), .val (.int c_), .val (.int d), .val (.int (1 : Int32)), .val (.ref b1), .unset, .unset, .unset] [(.ref b1), (.int a), (.int n_), .null, (.ref b3), (.ref b3)])) rfl (by rw [hml]; rfl) (Steps.refl _) (a := b3) (argsL := [.null, (.int n_), (.int a), (.ref b1)]) (rest := [(.ref b3)]) (lenOf pd_0 rfl) rfl (by show 2 * 0 + _ ≤ _; exact Nat.le_of_eq rfl) (hb hby at_61) (fun _ _ => ⟨rfl, e3, (by decide : 2 + 1 ≤ _), (by decide : 5 + 4 ≤ _)⟩)
    dsimp only [Pt.U, Pt.locs, Pt.cells, Pt.slots] at X4 l4 y4 z4 st4 hQ4
    subst l4 y4 z4
    obtain ⟨cb4, rfl, Nq4, Kc4, gz4, Ec4, Fc4, Vc4⟩ := hQ4
    have N4 := Fr.app N2 Nq4
    refine Gl.go (fun _ k => st4.trans k) ?_
    have E_b1_4 : Exa Z T4.heap b1 "[I" := E_b1_3.keep Kc4
    have V_b1_4 : Arv Z T4.heap b1 cA1 .int (1 : Int32) [(.int a)] (.int (0 : Int32)) := V_b1_3.keep Kc4 (ninS ne_b1_b3 nin0)
    have E_b3_4 : Exa Z T4.heap b3 "com/example/berthwise/berthwise/model/Placement" := A3.keep Kc4
    have SZ4 : n0 ≤ T4.heap.size := Nat.le_trans SZ3 Kc4.1
    have K4 : Keep h0 T4.heap [] := K3.trans Kc4 (allS (Or.inr sz_b3) all0)
    show Gl p.tables e below (QQof s (Q_law Z n_ a b c_ d h0 n0) 3 12) (T4.setTop (mkF m 64 #[.val (.int n_), .val (.int a), .val (.int b), .val (.int c_), .val (.int d), .val (.int (1 : Int32)), .val (.ref b1), .unset, .unset, .unset] [(.ref b3)]))
    have ne_cb4 : b1 ≠ cb4 := Nat.ne_of_lt (Nat.lt_of_lt_of_le V_b1_3.lt gz4)
    have ne_cc4 : b3 ≠ cb4 := Nat.ne_of_lt (Nat.lt_of_lt_of_le A3.lt gz4)
    refine Gl.go (fun _ k => XS.astore X4.here hx rfl (hb hby at_64) rfl rfl (l' := #[.val (.int n_), .val (.int a), .val (.int b), .val (.int c_), .val (.int d), .val (.int (1 : Int32)), .val (.ref b1), .val (.ref b3), .unset, .unset]) rfl k) ?_
    show Gl p.tables e below (QQof s (Q_law Z n_ a b c_ d h0 n0) 3 12) (T4.setTop (mkF m 66 #[.val (.int n_), .val (.int a), .val (.int b), .val (.int c_), .val (.int d), .val (.int (1 : Int32)), .val (.ref b1), .val (.ref b3), .unset, .unset] []))
    refine Gl.go (fun _ k => XS.aload X4.here hx rfl (hb hby at_66) rfl rfl  k) ?_
    show Gl p.tables e below (QQof s (Q_law Z n_ a b c_ d h0 n0) 3 12) (T4.setTop (mkF m 68 #[.val (.int n_), .val (.int a), .val (.int b), .val (.int c_), .val (.int d), .val (.int (1 : Int32)), .val (.ref b1), .val (.ref b3), .unset, .unset] [(.ref b1)]))
    refine Gl.go (fun _ k => XS.iconst X4.here hx rfl (hb hby at_68) k) ?_
    show Gl p.tables e below (QQof s (Q_law Z n_ a b c_ d h0 n0) 3 12) (T4.setTop (mkF m 69 #[.val (.int n_), .val (.int a), .val (.int b), .val (.int c_), .val (.int d), .val (.int (1 : Int32)), .val (.ref b1), .val (.ref b3), .unset, .unset] [(.int (0 : Int32)), (.ref b1)]))
    refine Gl.go (fun _ k => XS.iloadN X4.here hx rfl (hb hby at_69) rfl  k) ?_
    show Gl p.tables e below (QQof s (Q_law Z n_ a b c_ d h0 n0) 3 12) (T4.setTop (mkF m 70 #[.val (.int n_), .val (.int a), .val (.int b), .val (.int c_), .val (.int d), .val (.int (1 : Int32)), .val (.ref b1), .val (.ref b3), .unset, .unset] [(.int a), (.int (0 : Int32)), (.ref b1)]))
    refine Gl.go (fun _ k => XS.iconst X4.here hx rfl (hb hby at_70) k) ?_
    show Gl p.tables e below (QQof s (Q_law Z n_ a b c_ d h0 n0) 3 12) (T4.setTop (mkF m 71 #[.val (.int n_), .val (.int a), .val (.int b), .val (.int c_), .val (.int d), .val (.int (1 : Int32)), .val (.ref b1), .val (.ref b3), .unset, .unset] [(.int (-1 : Int32)), (.int a), (.int (0 : Int32)), (.ref b1)]))
    refine Gl.go (fun _ k => XS.ixor X4.here hx rfl (hb hby at_71) rfl k) ?_
    show Gl p.tables e below (QQof s (Q_law Z n_ a b c_ d h0 n0) 3 12) (T4.setTop (mkF m 72 #[.val (.int n_), .val (.int a), .val (.int b), .val (.int c_), .val (.int d), .val (.int (1 : Int32)), .val (.ref b1), .val (.ref b3), .unset, .unset] [(.int (a ^^^ (-1 : Int32))), (.int (0 : Int32)), (.ref b1)]))
    obtain ⟨cl5, Ar5, qA5, SA5, NA5, HA5, GA5⟩ := id V_b1_4
    obtain ⟨T5, h5, X5, e5, W5, st5⟩ := stI X4 hx hZ rfl Ar5 (j := (0 : Int32)) (inb_of SA5 ⟨by decide, by decide⟩) (g := (mkF m 72 #[.val (.int n_), .val (.int a), .val (.int b), .val (.int c_), .val (.int d), .val (.int (1 : Int32)), .val (.ref b1), .val (.ref b3), .unset, .unset] [(.int (a ^^^ (-1 : Int32))), (.int (0 : Int32)), (.ref b1)])) rfl rfl (hb hby at_72)
    have E_b1_5 : Exa Z h5 b1 "[I" := E_b1_4.wr W5
    have E_b3_5 : Exa Z h5 b3 "com/example/berthwise/berthwise/model/Placement" := E_b3_4.wr W5
    have F_b3_cranes_5 : Fld Z h5 b3 "com/example/berthwise/berthwise/model/Placement" "cranes" "[I" (.ref cb4) := Fc4.other W5 (Or.inl (Ne.symm ne_b1_b3))
    have V_cb4_5 : Arv Z h5 cb4 cA1 .int (1 : Int32) [(.int a)] (.int (0 : Int32)) := Vc4.other W5 (Ne.symm ne_cb4)
    have SZ5 : n0 ≤ h5.size := by rw [Wr.size W5]; exact SZ4
    have K5 : Keep h0 h5 [] := K4.wr W5 (Or.inr sz_b1)
    have N5 := Fr.snoc X5 N4 g_b1
    have V_b1_5 : Arv Z h5 b1 cA1 .int (1 : Int32) [(.int (a ^^^ (-1 : Int32)))] (.int (0 : Int32)) := Arv.set Ar5 qA5 SA5 NA5 HA5 GA5 rfl W5 0 rfl (Nat.le_of_ble_eq_true rfl)
    refine Gl.go (fun _ k => st5 _ k) ?_
    show Gl p.tables e below (QQof s (Q_law Z n_ a b c_ d h0 n0) 3 12) (T5.setTop (mkF m 73 #[.val (.int n_), .val (.int a), .val (.int b), .val (.int c_), .val (.int d), .val (.int (1 : Int32)), .val (.ref b1), .val (.ref b3), .unset, .unset] []))
    refine Gl.go (fun _ k => XS.iloadN X5.here hx rfl (hb hby at_73) rfl  k) ?_
    show Gl p.tables e below (QQof s (Q_law Z n_ a b c_ d h0 n0) 3 12) (T5.setTop (mkF m 74 #[.val (.int n_), .val (.int a), .val (.int b), .val (.int c_), .val (.int d), .val (.int (1 : Int32)), .val (.ref b1), .val (.ref b3), .unset, .unset] [(.int a)]))
    refine Gl.go (fun _ k => XS.i2l X5.here hx rfl (hb hby at_74) rfl k) ?_
    show Gl p.tables e below (QQof s (Q_law Z n_ a b c_ d h0 n0) 3 12) (T5.setTop (mkF m 75 #[.val (.int n_), .val (.int a), .val (.int b), .val (.int c_), .val (.int d), .val (.int (1 : Int32)), .val (.ref b1), .val (.ref b3), .unset, .unset] [(.long (a.toInt64))]))
    refine Gl.go (fun _ k => XS.lstore X5.here hx rfl (hb hby at_75) rfl (l' := #[.val (.int n_), .val (.int a), .val (.int b), .val (.int c_), .val (.int d), .val (.int (1 : Int32)), .val (.ref b1), .val (.ref b3), .val (.long (a.toInt64)), .second]) rfl k) ?_
    show Gl p.tables e below (QQof s (Q_law Z n_ a b c_ d h0 n0) 3 12) (T5.setTop (mkF m 77 #[.val (.int n_), .val (.int a), .val (.int b), .val (.int c_), .val (.int d), .val (.int (1 : Int32)), .val (.ref b1), .val (.ref b3), .val (.long (a.toInt64)), .second] []))
    refine Gl.go (fun _ k => XS.iload X5.here hx rfl (hb hby at_77) rfl  k) ?_
    show Gl p.tables e below (QQof s (Q_law Z n_ a b c_ d h0 n0) 3 12) (T5.setTop (mkF m 79 #[.val (.int n_), .val (.int a), .val (.int b), .val (.int c_), .val (.int d), .val (.int (1 : Int32)), .val (.ref b1), .val (.ref b3), .val (.long (a.toInt64)), .second] [(.int (1 : Int32))]))
    refine Gl.go (fun _ k => XS.iconst X5.here hx rfl (hb hby at_79) k) ?_
    show Gl p.tables e below (QQof s (Q_law Z n_ a b c_ d h0 n0) 3 12) (T5.setTop (mkF m 80 #[.val (.int n_), .val (.int a), .val (.int b), .val (.int c_), .val (.int d), .val (.int (1 : Int32)), .val (.ref b1), .val (.ref b3), .val (.long (a.toInt64)), .second] [(.int (2 : Int32)), (.int (1 : Int32))]))
    refine Gl.go (fun _ k => XS.icmpYes X5.here hx rfl (pc0 := 80) (pc' := 90) rfl (hb hby at_80) rfl (tlt (by decide)).1 (by decide) (by decide) k) ?_
    show Gl p.tables e below (QQof s (Q_law Z n_ a b c_ d h0 n0) 3 12) (T5.setTop (mkF m 90 #[.val (.int n_), .val (.int a), .val (.int b), .val (.int c_), .val (.int d), .val (.int (1 : Int32)), .val (.ref b1), .val (.ref b3), .val (.long (a.toInt64)), .second] []))
    refine Gl.go (fun _ k => XS.iload X5.here hx rfl (hb hby at_90) rfl  k) ?_
    show Gl p.tables e below (QQof s (Q_law Z n_ a b c_ d h0 n0) 3 12) (T5.setTop (mkF m 92 #[.val (.int n_), .val (.int a), .val (.int b), .val (.int c_), .val (.int d), .val (.int (1 : Int32)), .val (.ref b1), .val (.ref b3), .val (.long (a.toInt64)), .second] [(.int (1 : Int32))]))
    refine Gl.go (fun _ k => XS.iconst X5.here hx rfl (hb hby at_92) k) ?_
    show Gl p.tables e below (QQof s (Q_law Z n_ a b c_ d h0 n0) 3 12) (T5.setTop (mkF m 93 #[.val (.int n_), .val (.int a), .val (.int b), .val (.int c_), .val (.int d), .val (.int (1 : Int32)), .val (.ref b1), .val (.ref b3), .val (.long (a.toInt64)), .second] [(.int (3 : Int32)), (.int (1 : Int32))]))
    refine Gl.go (fun _ k => XS.icmpYes X5.here hx rfl (pc0 := 93) (pc' := 103) rfl (hb hby at_93) rfl (tlt (by decide)).1 (by decide) (by decide) k) ?_
    show Gl p.tables e below (QQof s (Q_law Z n_ a b c_ d h0 n0) 3 12) (T5.setTop (mkF m 103 #[.val (.int n_), .val (.int a), .val (.int b), .val (.int c_), .val (.int d), .val (.int (1 : Int32)), .val (.ref b1), .val (.ref b3), .val (.long (a.toInt64)), .second] []))
    refine Gl.go (fun _ k => XS.iload X5.here hx rfl (hb hby at_103) rfl  k) ?_
    show Gl p.tables e below (QQof s (Q_law Z n_ a b c_ d h0 n0) 3 12) (T5.setTop (mkF m 105 #[.val (.int n_), .val (.int a), .val (.int b), .val (.int c_), .val (.int d), .val (.int (1 : Int32)), .val (.ref b1), .val (.ref b3), .val (.long (a.toInt64)), .second] [(.int (1 : Int32))]))
    refine Gl.go (fun _ k => XS.iconst X5.here hx rfl (hb hby at_105) k) ?_
    show Gl p.tables e below (QQof s (Q_law Z n_ a b c_ d h0 n0) 3 12) (T5.setTop (mkF m 106 #[.val (.int n_), .val (.int a), .val (.int b), .val (.int c_), .val (.int d), .val (.int (1 : Int32)), .val (.ref b1), .val (.ref b3), .val (.long (a.toInt64)), .second] [(.int (4 : Int32)), (.int (1 : Int32))]))
    refine Gl.go (fun _ k => XS.icmpYes X5.here hx rfl (pc0 := 106) (pc' := 117) rfl (hb hby at_106) rfl (tlt (by decide)).1 (by decide) (by decide) k) ?_
    show Gl p.tables e below (QQof s (Q_law Z n_ a b c_ d h0 n0) 3 12) (T5.setTop (mkF m 117 #[.val (.int n_), .val (.int a), .val (.int b), .val (.int c_), .val (.int d), .val (.int (1 : Int32)), .val (.ref b1), .val (.ref b3), .val (.long (a.toInt64)), .second] []))
    refine Gl.go (fun _ k => XS.aload X5.here hx rfl (hb hby at_117) rfl rfl  k) ?_
    show Gl p.tables e below (QQof s (Q_law Z n_ a b c_ d h0 n0) 3 12) (T5.setTop (mkF m 119 #[.val (.int n_), .val (.int a), .val (.int b), .val (.int c_), .val (.int d), .val (.int (1 : Int32)), .val (.ref b1), .val (.ref b3), .val (.long (a.toInt64)), .second] [(.ref b3)]))
    obtain ⟨cq6, kq6, q6a, q6b, q6c⟩ := isOf hZ e5 E_b3_5
    obtain ⟨_, _, ⟨T6, L6, k6, n6⟩, -, X6, ⟨Lc6, hQ6, l6, y6, z6⟩, st6⟩ := X5.virtualBack hx (y := (⟨"com/example/berthwise/berthwise/model/Placement", "craneHours", "()J"⟩ : MethodName)) (z := (⟨"com/example/berthwise/berthwise/model/Placement", "craneHours", "()J"⟩ : MethodName)) hown (mvT hZ (hw _ (List.mem_of_getElem? (i := 27) rfl))) (mvT hZ (hw _ (List.mem_of_getElem? (i := 28) rfl))) (notFace_of_selects (args := #[]) (mvT hZ (hw _ (List.mem_of_getElem? (i := 30) rfl)))) (mvT hZ (hw _ (List.mem_of_getElem? (i := 30) rfl))) (mvT hZ (hw _ (List.mem_of_getElem? (i := 29) rfl))) (by decide) (backOf (W := 0) (rm_ch1 l Z a0 hw [] b3 cb4 cA1 a h5 n0 SZ5 F_b3_cranes_5 V_cb4_5) hZ (hw _ (List.mem_of_getElem? (i := 31) rfl)) (hw _ (List.mem_of_getElem? (i := 3) rfl)) (by decide) (by decide)) q6a q6c (g := (mkF m 119 #[.val (.int n_), .val (.int a), .val (.int b), .val (.int c_), .val (.int d), .val (.int (1 : Int32)), .val (.ref b1), .val (.ref b3), .val (.long (a.toInt64)), .second] [(.ref b3)])) rfl (by rw [hml]; rfl) (Steps.refl _) (argsL := []) (rest := []) (lenOf pd_1 rfl) rfl (by show 2 * 0 + _ ≤ _; exact Nat.le_of_eq rfl) (hb hby at_119) (fun _ _ => ⟨rfl, e5, (by decide : 3 + 0 ≤ _), (by decide : 9 + 0 ≤ _)⟩)
    dsimp only [Pt.U, Pt.locs, Pt.cells, Pt.slots] at X6 l6 y6 z6 st6 hQ6
    subst l6 y6 z6
    obtain ⟨rfl, Nq6, e6⟩ := hQ6
    have N6 := Fr.app N5 Nq6
    refine Gl.go (fun _ k => st6.trans k) ?_
    show Gl p.tables e below (QQof s (Q_law Z n_ a b c_ d h0 n0) 3 12) (T6.setTop (mkF m 122 #[.val (.int n_), .val (.int a), .val (.int b), .val (.int c_), .val (.int d), .val (.int (1 : Int32)), .val (.ref b1), .val (.ref b3), .val (.long (a.toInt64)), .second] [(.long (adL (0 : Int64) a))]))
    refine Gl.go (fun _ k => XS.lload X6.here hx rfl (hb hby at_122) rfl  k) ?_
    show Gl p.tables e below (QQof s (Q_law Z n_ a b c_ d h0 n0) 3 12) (T6.setTop (mkF m 124 #[.val (.int n_), .val (.int a), .val (.int b), .val (.int c_), .val (.int d), .val (.int (1 : Int32)), .val (.ref b1), .val (.ref b3), .val (.long (a.toInt64)), .second] [(.long (a.toInt64)), (.long (adL (0 : Int64) a))]))
    refine Gl.go (fun _ k => XS.lcmp X6.here hx rfl (hb hby at_124) rfl k) ?_
    show Gl p.tables e below (QQof s (Q_law Z n_ a b c_ d h0 n0) 3 12) (T6.setTop (mkF m 125 #[.val (.int n_), .val (.int a), .val (.int b), .val (.int c_), .val (.int d), .val (.int (1 : Int32)), .val (.ref b1), .val (.ref b3), .val (.long (a.toInt64)), .second] [(.int (lcmpW (adL (0 : Int64) a) (a.toInt64)))]))
    refine Gl.go (fun _ k => XS.ifNo X6.here hx rfl (hb hby at_125) rfl ((if0 _ _).trans (teq (by rw [lcW, lc_eq, own_z] <;> rfl)).2) k) ?_
    show Gl p.tables e below (QQof s (Q_law Z n_ a b c_ d h0 n0) 3 12) (T6.setTop (mkF m 128 #[.val (.int n_), .val (.int a), .val (.int b), .val (.int c_), .val (.int d), .val (.int (1 : Int32)), .val (.ref b1), .val (.ref b3), .val (.long (a.toInt64)), .second] []))
    refine Gl.go (fun _ k => XS.iconst X6.here hx rfl (hb hby at_128) k) ?_
    show Gl p.tables e below (QQof s (Q_law Z n_ a b c_ d h0 n0) 3 12) (T6.setTop (mkF m 129 #[.val (.int n_), .val (.int a), .val (.int b), .val (.int c_), .val (.int d), .val (.int (1 : Int32)), .val (.ref b1), .val (.ref b3), .val (.long (a.toInt64)), .second] [(.int (1 : Int32))]))
    refine Gl.go (fun _ k => XS.goto X6.here hx rfl (pc0 := 129) (pc' := 133) rfl (hb hby at_129) (by decide) (by decide) k) ?_
    show Gl p.tables e below (QQof s (Q_law Z n_ a b c_ d h0 n0) 3 12) (T6.setTop (mkF m 133 #[.val (.int n_), .val (.int a), .val (.int b), .val (.int c_), .val (.int d), .val (.int (1 : Int32)), .val (.ref b1), .val (.ref b3), .val (.long (a.toInt64)), .second] [(.int (1 : Int32))]))
    refine leafN X6 hx hlk (t := .boolean) Bd.returns (by simp) (hb hby at_133) ?_ (by decide) (by decide)
    exact ⟨rfl, N6⟩
  · skip
    rw [(hl : ((n_ &&& (3 : Int32)) + (1 : Int32)) = (2 : Int32))]
    show Gl p.tables e below (QQof s (Q_law Z n_ a b c_ d h0 n0) 3 12) (s₁.setTop (mkF m 5 #[.val (.int n_), .val (.int a), .val (.int b), .val (.int c_), .val (.int d), .unset, .unset, .unset, .unset, .unset] [(.int (2 : Int32))]))
    refine Gl.go (fun _ k => XS.istore X0.here hx rfl (hb hby at_5) rfl (l' := #[.val (.int n_), .val (.int a), .val (.int b), .val (.int c_), .val (.int d), .val (.int (2 : Int32)), .unset, .unset, .unset, .unset]) rfl k) ?_
    show Gl p.tables e below (QQof s (Q_law Z n_ a b c_ d h0 n0) 3 12) (s₁.setTop (mkF m 7 #[.val (.int n_), .val (.int a), .val (.int b), .val (.int c_), .val (.int d), .val (.int (2 : Int32)), .unset, .unset, .unset, .unset] []))
    refine Gl.go (fun _ k => XS.iload X0.here hx rfl (hb hby at_7) rfl  k) ?_
    show Gl p.tables e below (QQof s (Q_law Z n_ a b c_ d h0 n0) 3 12) (s₁.setTop (mkF m 9 #[.val (.int n_), .val (.int a), .val (.int b), .val (.int c_), .val (.int d), .val (.int (2 : Int32)), .unset, .unset, .unset, .unset] [(.int (2 : Int32))]))
    obtain ⟨T7, h7, cA7, X7, e7, E7, A7, Y7, st7⟩ := newPE X0 hx hZ (hw _ (List.mem_of_getElem? (i := 0) rfl)) e0 (g := (mkF m 9 #[.val (.int n_), .val (.int a), .val (.int b), .val (.int c_), .val (.int d), .val (.int (2 : Int32)), .unset, .unset, .unset, .unset] [(.int (2 : Int32))])) rfl (hb hby at_9) rfl (by decide) (cap := 2) (by decide) (by decide) (by decide) (by decide) (ad := "[I") (by decide)
    obtain ⟨b7, g7⟩ : ∃ z, z = h0.size := ⟨_, rfl⟩
    rw [← g7] at A7 Y7 st7
    have g_b7 : n0 ≤ b7 := Nat.le_trans Z0 (Nat.le_of_eq g7.symm)
    have sz_b7 : h0.size ≤ b7 := Nat.le_trans K0.1 (Nat.le_of_eq g7.symm)
    have SZ7 : n0 ≤ h7.size := Nat.le_trans Z0 E7.1
    have K7 : Keep h0 h7 [] := K0.ext E7
    have V_b7_7 : Arv Z h7 b7 cA7 .int (2 : Int32) [(.int (0 : Int32)), (.int (0 : Int32))] (.int (0 : Int32)) := (Arv.new A7 (by decide)).pad (pad_rep [] _ 2)
    refine Gl.go (fun _ k => st7 _ k) ?_
    show Gl p.tables e below (QQof s (Q_law Z n_ a b c_ d h0 n0) 3 12) (T7.setTop (mkF m 11 #[.val (.int n_), .val (.int a), .val (.int b), .val (.int c_), .val (.int d), .val (.int (2 : Int32)), .unset, .unset, .unset, .unset] [(.ref b7)]))
    refine Gl.go (fun _ k => XS.astore X7.here hx rfl (hb hby at_11) rfl rfl (l' := #[.val (.int n_), .val (.int a), .val (.int b), .val (.int c_), .val (.int d), .val (.int (2 : Int32)), .val (.ref b7), .unset, .unset, .unset]) rfl k) ?_
    show Gl p.tables e below (QQof s (Q_law Z n_ a b c_ d h0 n0) 3 12) (T7.setTop (mkF m 13 #[.val (.int n_), .val (.int a), .val (.int b), .val (.int c_), .val (.int d), .val (.int (2 : Int32)), .val (.ref b7), .unset, .unset, .unset] []))
    refine Gl.go (fun _ k => XS.aload X7.here hx rfl (hb hby at_13) rfl rfl  k) ?_
    show Gl p.tables e below (QQof s (Q_law Z n_ a b c_ d h0 n0) 3 12) (T7.setTop (mkF m 15 #[.val (.int n_), .val (.int a), .val (.int b), .val (.int c_), .val (.int d), .val (.int (2 : Int32)), .val (.ref b7), .unset, .unset, .unset] [(.ref b7)]))
    refine Gl.go (fun _ k => XS.iconst X7.here hx rfl (hb hby at_15) k) ?_
    show Gl p.tables e below (QQof s (Q_law Z n_ a b c_ d h0 n0) 3 12) (T7.setTop (mkF m 16 #[.val (.int n_), .val (.int a), .val (.int b), .val (.int c_), .val (.int d), .val (.int (2 : Int32)), .val (.ref b7), .unset, .unset, .unset] [(.int (0 : Int32)), (.ref b7)]))
    refine Gl.go (fun _ k => XS.iloadN X7.here hx rfl (hb hby at_16) rfl  k) ?_
    show Gl p.tables e below (QQof s (Q_law Z n_ a b c_ d h0 n0) 3 12) (T7.setTop (mkF m 17 #[.val (.int n_), .val (.int a), .val (.int b), .val (.int c_), .val (.int d), .val (.int (2 : Int32)), .val (.ref b7), .unset, .unset, .unset] [(.int a), (.int (0 : Int32)), (.ref b7)]))
    obtain ⟨cl8, Ar8, qA8, SA8, NA8, HA8, GA8⟩ := id V_b7_7
    obtain ⟨T8, h8, X8, e8, W8, st8⟩ := stI X7 hx hZ e7 Ar8 (j := (0 : Int32)) (inb_of SA8 ⟨by decide, by decide⟩) (g := (mkF m 17 #[.val (.int n_), .val (.int a), .val (.int b), .val (.int c_), .val (.int d), .val (.int (2 : Int32)), .val (.ref b7), .unset, .unset, .unset] [(.int a), (.int (0 : Int32)), (.ref b7)])) rfl rfl (hb hby at_17)
    have E_b7_8 : Exa Z h8 b7 "[I" := Y7.wr W8
    have SZ8 : n0 ≤ h8.size := by rw [Wr.size W8]; exact SZ7
    have K8 : Keep h0 h8 [] := K7.wr W8 (Or.inr sz_b7)
    have N8 := Fr.snoc X8 N0 g_b7
    have V_b7_8 : Arv Z h8 b7 cA7 .int (2 : Int32) [(.int a), (.int (0 : Int32))] (.int (0 : Int32)) := Arv.set Ar8 qA8 SA8 NA8 HA8 GA8 rfl W8 0 rfl (Nat.le_of_ble_eq_true rfl)
    refine Gl.go (fun _ k => st8 _ k) ?_
    show Gl p.tables e below (QQof s (Q_law Z n_ a b c_ d h0 n0) 3 12) (T8.setTop (mkF m 18 #[.val (.int n_), .val (.int a), .val (.int b), .val (.int c_), .val (.int d), .val (.int (2 : Int32)), .val (.ref b7), .unset, .unset, .unset] []))
    refine Gl.go (fun _ k => XS.iload X8.here hx rfl (hb hby at_18) rfl  k) ?_
    show Gl p.tables e below (QQof s (Q_law Z n_ a b c_ d h0 n0) 3 12) (T8.setTop (mkF m 20 #[.val (.int n_), .val (.int a), .val (.int b), .val (.int c_), .val (.int d), .val (.int (2 : Int32)), .val (.ref b7), .unset, .unset, .unset] [(.int (2 : Int32))]))
    refine Gl.go (fun _ k => XS.iconst X8.here hx rfl (hb hby at_20) k) ?_
    show Gl p.tables e below (QQof s (Q_law Z n_ a b c_ d h0 n0) 3 12) (T8.setTop (mkF m 21 #[.val (.int n_), .val (.int a), .val (.int b), .val (.int c_), .val (.int d), .val (.int (2 : Int32)), .val (.ref b7), .unset, .unset, .unset] [(.int (2 : Int32)), (.int (2 : Int32))]))
    refine Gl.go (fun _ k => XS.icmpNo X8.here hx rfl (hb hby at_21) rfl (flt (by decide)).1 k) ?_
    show Gl p.tables e below (QQof s (Q_law Z n_ a b c_ d h0 n0) 3 12) (T8.setTop (mkF m 24 #[.val (.int n_), .val (.int a), .val (.int b), .val (.int c_), .val (.int d), .val (.int (2 : Int32)), .val (.ref b7), .unset, .unset, .unset] []))
    refine Gl.go (fun _ k => XS.aload X8.here hx rfl (hb hby at_24) rfl rfl  k) ?_
    show Gl p.tables e below (QQof s (Q_law Z n_ a b c_ d h0 n0) 3 12) (T8.setTop (mkF m 26 #[.val (.int n_), .val (.int a), .val (.int b), .val (.int c_), .val (.int d), .val (.int (2 : Int32)), .val (.ref b7), .unset, .unset, .unset] [(.ref b7)]))
    refine Gl.go (fun _ k => XS.iconst X8.here hx rfl (hb hby at_26) k) ?_
    show Gl p.tables e below (QQof s (Q_law Z n_ a b c_ d h0 n0) 3 12) (T8.setTop (mkF m 27 #[.val (.int n_), .val (.int a), .val (.int b), .val (.int c_), .val (.int d), .val (.int (2 : Int32)), .val (.ref b7), .unset, .unset, .unset] [(.int (1 : Int32)), (.ref b7)]))
    refine Gl.go (fun _ k => XS.iloadN X8.here hx rfl (hb hby at_27) rfl  k) ?_
    show Gl p.tables e below (QQof s (Q_law Z n_ a b c_ d h0 n0) 3 12) (T8.setTop (mkF m 28 #[.val (.int n_), .val (.int a), .val (.int b), .val (.int c_), .val (.int d), .val (.int (2 : Int32)), .val (.ref b7), .unset, .unset, .unset] [(.int b), (.int (1 : Int32)), (.ref b7)]))
    obtain ⟨cl9, Ar9, qA9, SA9, NA9, HA9, GA9⟩ := id V_b7_8
    obtain ⟨T9, h9, X9, e9, W9, st9⟩ := stI X8 hx hZ e8 Ar9 (j := (1 : Int32)) (inb_of SA9 ⟨by decide, by decide⟩) (g := (mkF m 28 #[.val (.int n_), .val (.int a), .val (.int b), .val (.int c_), .val (.int d), .val (.int (2 : Int32)), .val (.ref b7), .unset, .unset, .unset] [(.int b), (.int (1 : Int32)), (.ref b7)])) rfl rfl (hb hby at_28)
    have E_b7_9 : Exa Z h9 b7 "[I" := E_b7_8.wr W9
    have SZ9 : n0 ≤ h9.size := by rw [Wr.size W9]; exact SZ8
    have K9 : Keep h0 h9 [] := K8.wr W9 (Or.inr sz_b7)
    have N9 := Fr.snoc X9 N8 g_b7
    have V_b7_9 : Arv Z h9 b7 cA7 .int (2 : Int32) [(.int a), (.int b)] (.int (0 : Int32)) := Arv.set Ar9 qA9 SA9 NA9 HA9 GA9 rfl W9 1 rfl (Nat.le_of_ble_eq_true rfl)
    refine Gl.go (fun _ k => st9 _ k) ?_
    show Gl p.tables e below (QQof s (Q_law Z n_ a b c_ d h0 n0) 3 12) (T9.setTop (mkF m 29 #[.val (.int n_), .val (.int a), .val (.int b), .val (.int c_), .val (.int d), .val (.int (2 : Int32)), .val (.ref b7), .unset, .unset, .unset] []))
    refine Gl.go (fun _ k => XS.iload X9.here hx rfl (hb hby at_29) rfl  k) ?_
    show Gl p.tables e below (QQof s (Q_law Z n_ a b c_ d h0 n0) 3 12) (T9.setTop (mkF m 31 #[.val (.int n_), .val (.int a), .val (.int b), .val (.int c_), .val (.int d), .val (.int (2 : Int32)), .val (.ref b7), .unset, .unset, .unset] [(.int (2 : Int32))]))
    refine Gl.go (fun _ k => XS.iconst X9.here hx rfl (hb hby at_31) k) ?_
    show Gl p.tables e below (QQof s (Q_law Z n_ a b c_ d h0 n0) 3 12) (T9.setTop (mkF m 32 #[.val (.int n_), .val (.int a), .val (.int b), .val (.int c_), .val (.int d), .val (.int (2 : Int32)), .val (.ref b7), .unset, .unset, .unset] [(.int (3 : Int32)), (.int (2 : Int32))]))
    refine Gl.go (fun _ k => XS.icmpYes X9.here hx rfl (pc0 := 32) (pc' := 40) rfl (hb hby at_32) rfl (tlt (by decide)).1 (by decide) (by decide) k) ?_
    show Gl p.tables e below (QQof s (Q_law Z n_ a b c_ d h0 n0) 3 12) (T9.setTop (mkF m 40 #[.val (.int n_), .val (.int a), .val (.int b), .val (.int c_), .val (.int d), .val (.int (2 : Int32)), .val (.ref b7), .unset, .unset, .unset] []))
    refine Gl.go (fun _ k => XS.iload X9.here hx rfl (hb hby at_40) rfl  k) ?_
    show Gl p.tables e below (QQof s (Q_law Z n_ a b c_ d h0 n0) 3 12) (T9.setTop (mkF m 42 #[.val (.int n_), .val (.int a), .val (.int b), .val (.int c_), .val (.int d), .val (.int (2 : Int32)), .val (.ref b7), .unset, .unset, .unset] [(.int (2 : Int32))]))
    refine Gl.go (fun _ k => XS.iconst X9.here hx rfl (hb hby at_42) k) ?_
    show Gl p.tables e below (QQof s (Q_law Z n_ a b c_ d h0 n0) 3 12) (T9.setTop (mkF m 43 #[.val (.int n_), .val (.int a), .val (.int b), .val (.int c_), .val (.int d), .val (.int (2 : Int32)), .val (.ref b7), .unset, .unset, .unset] [(.int (4 : Int32)), (.int (2 : Int32))]))
    refine Gl.go (fun _ k => XS.icmpYes X9.here hx rfl (pc0 := 43) (pc' := 52) rfl (hb hby at_43) rfl (tlt (by decide)).1 (by decide) (by decide) k) ?_
    show Gl p.tables e below (QQof s (Q_law Z n_ a b c_ d h0 n0) 3 12) (T9.setTop (mkF m 52 #[.val (.int n_), .val (.int a), .val (.int b), .val (.int c_), .val (.int d), .val (.int (2 : Int32)), .val (.ref b7), .unset, .unset, .unset] []))
    obtain ⟨T10, h10, X10, e10, E10, A10, D10, -, st10⟩ := newO X9 hx hZ hown (hw _ (List.mem_of_getElem? (i := 1) rfl)) (hw _ (List.mem_of_getElem? (i := 2) rfl)) (hw _ (List.mem_of_getElem? (i := 3) rfl)) e9 (g := (mkF m 52 #[.val (.int n_), .val (.int a), .val (.int b), .val (.int c_), .val (.int d), .val (.int (2 : Int32)), .val (.ref b7), .unset, .unset, .unset] [])) rfl (hb hby at_52) (by decide) (by decide)
    obtain ⟨b10, g10⟩ : ∃ z, z = h9.size := ⟨_, rfl⟩
    rw [← g10] at A10 D10 st10
    have g_b10 : n0 ≤ b10 := Nat.le_trans SZ9 (Nat.le_of_eq g10.symm)
    have sz_b10 : h0.size ≤ b10 := Nat.le_trans K9.1 (Nat.le_of_eq g10.symm)
    have ne_b7_b10 : b7 ≠ b10 := Nat.ne_of_lt (Nat.lt_of_lt_of_le E_b7_9.lt (Nat.le_of_eq g10.symm))
    have E_b7_10 : Exa Z h10 b7 "[I" := E_b7_9.ext E10
    have V_b7_10 : Arv Z h10 b7 cA7 .int (2 : Int32) [(.int a), (.int b)] (.int (0 : Int32)) := V_b7_9.ext E10
    have SZ10 : n0 ≤ h10.size := Nat.le_trans SZ9 E10.1
    have K10 : Keep h0 h10 [] := K9.ext E10
    have F_b10_vessel_10 : Fld Z h10 b10 "com/example/berthwise/berthwise/model/Placement" "vessel" "Lcom/example/berthwise/berthwise/model/Vessel;" .null := D10 (Or.inr (hw _ (List.mem_of_getElem? (i := 11) rfl))) (ty := (.object "com/example/berthwise/berthwise/model/Vessel")) (by decide)
    have F_b10_start_10 : Fld Z h10 b10 "com/example/berthwise/berthwise/model/Placement" "start" "I" (.int (0 : Int32)) := D10 (Or.inr (hw _ (List.mem_of_getElem? (i := 13) rfl))) (ty := .int) (by decide)
    have F_b10_position_10 : Fld Z h10 b10 "com/example/berthwise/berthwise/model/Placement" "position" "I" (.int (0 : Int32)) := D10 (Or.inr (hw _ (List.mem_of_getElem? (i := 15) rfl))) (ty := .int) (by decide)
    have F_b10_cranes_10 : Fld Z h10 b10 "com/example/berthwise/berthwise/model/Placement" "cranes" "[I" .null := D10 (Or.inr (hw _ (List.mem_of_getElem? (i := 26) rfl))) (ty := (.array .int)) (by decide)
    refine Gl.go (fun _ k => st10 _ k) ?_
    show Gl p.tables e below (QQof s (Q_law Z n_ a b c_ d h0 n0) 3 12) (T10.setTop (mkF m 55 #[.val (.int n_), .val (.int a), .val (.int b), .val (.int c_), .val (.int d), .val (.int (2 : Int32)), .val (.ref b7), .unset, .unset, .unset] [(.ref b10)]))
    refine Gl.go (fun _ k => XS.dup X10.here hx rfl (hb hby at_55) rfl rfl k) ?_
    show Gl p.tables e below (QQof s (Q_law Z n_ a b c_ d h0 n0) 3 12) (T10.setTop (mkF m 56 #[.val (.int n_), .val (.int a), .val (.int b), .val (.int c_), .val (.int d), .val (.int (2 : Int32)), .val (.ref b7), .unset, .unset, .unset] [(.ref b10), (.ref b10)]))
    refine Gl.go (fun _ k => XS.aconstNull X10.here hx rfl (hb hby at_56) k) ?_
    show Gl p.tables e below (QQof s (Q_law Z n_ a b c_ d h0 n0) 3 12) (T10.setTop (mkF m 57 #[.val (.int n_), .val (.int a), .val (.int b), .val (.int c_), .val (.int d), .val (.int (2 : Int32)), .val (.ref b7), .unset, .unset, .unset] [.null, (.ref b10), (.ref b10)]))
    refine Gl.go (fun _ k => XS.iloadN X10.here hx rfl (hb hby at_57) rfl  k) ?_
    show Gl p.tables e below (QQof s (Q_law Z n_ a b c_ d h0 n0) 3 12) (T10.setTop (mkF m 58 #[.val (.int n_), .val (.int a), .val (.int b), .val (.int c_), .val (.int d), .val (.int (2 : Int32)), .val (.ref b7), .unset, .unset, .unset] [(.int n_), .null, (.ref b10), (.ref b10)]))
    refine Gl.go (fun _ k => XS.iloadN X10.here hx rfl (hb hby at_58) rfl  k) ?_
    show Gl p.tables e below (QQof s (Q_law Z n_ a b c_ d h0 n0) 3 12) (T10.setTop (mkF m 59 #[.val (.int n_), .val (.int a), .val (.int b), .val (.int c_), .val (.int d), .val (.int (2 : Int32)), .val (.ref b7), .unset, .unset, .unset] [(.int a), (.int n_), .null, (.ref b10), (.ref b10)]))
    refine Gl.go (fun _ k => XS.aload X10.here hx rfl (hb hby at_59) rfl rfl  k) ?_
    show Gl p.tables e below (QQof s (Q_law Z n_ a b c_ d h0 n0) 3 12) (T10.setTop (mkF m 61 #[.val (.int n_), .val (.int a), .val (.int b), .val (.int c_), .val (.int d), .val (.int (2 : Int32)), .val (.ref b7), .unset, .unset, .unset] [(.ref b7), (.int a), (.int n_), .null, (.ref b10), (.ref b10)]))
    obtain ⟨_, _, ⟨T11, L11, k11, n11⟩, -, X11, ⟨Lc11, hQ11, l11, y11, z11⟩, st11⟩ := X10.specialBack hx (y := (⟨"com/example/berthwise/berthwise/model/Placement", "<init>", "(Lcom/example/berthwise/berthwise/model/Vessel;II[I)V"⟩ : MethodName)) rfl hown (mvT hZ (hw _ (List.mem_of_getElem? (i := 4) rfl))) (mvT hZ (hw _ (List.mem_of_getElem? (i := 5) rfl))) (mvT hZ (hw _ (List.mem_of_getElem? (i := 6) rfl))) (by decide) (backOf (W := 1) (rm_ini l Z a0 hw [] b10 b7 n_ a cA7 (2 : Int32) [(.int a), (.int b)] .null (.int 0) (.int 0) .null h10 n0 SZ10 (by decide) (by decide) A10 F_b10_vessel_10 F_b10_start_10 F_b10_position_10 F_b10_cranes_10 g_b10 V_b7_10 E_b7_10 ne_b7_b10) hZ (hw _ (List.mem_of_getElem? (i := 6) rfl)) (hw _ (List.mem_of_getElem? (i := 3) rfl)) (by decide) (by decide)) (g := (mkF m 61 #[.val (.int n_), .val (.int a), .val (.int b), .val (.int c_), .val (.int d), .val (.int (2 : Int32)), .val (.ref b7), .unset, .unset, .unset] [(.ref b7), (.int a), (.int n_), .null, (.ref b10), (.ref b10)])) rfl (by rw [hml]; rfl) (Steps.refl _) (a := b10) (argsL := [.null, (.int n_), (.int a), (.ref b7)]) (rest := [(.ref b10)]) (lenOf pd_0 rfl) rfl (by show 2 * 0 + _ ≤ _; exact Nat.le_of_eq rfl) (hb hby at_61) (fun _ _ => ⟨rfl, e10, (by decide : 2 + 1 ≤ _), (by decide : 6 + 4 ≤ _)⟩)
    dsimp only [Pt.U, Pt.locs, Pt.cells, Pt.slots] at X11 l11 y11 z11 st11 hQ11
    subst l11 y11 z11
    obtain ⟨cb11, rfl, Nq11, Kc11, gz11, Ec11, Fc11, Vc11⟩ := hQ11
    have N11 := Fr.app N9 Nq11
    refine Gl.go (fun _ k => st11.trans k) ?_
    have E_b7_11 : Exa Z T11.heap b7 "[I" := E_b7_10.keep Kc11
    have V_b7_11 : Arv Z T11.heap b7 cA7 .int (2 : Int32) [(.int a), (.int b)] (.int (0 : Int32)) := V_b7_10.keep Kc11 (ninS ne_b7_b10 nin0)
    have E_b10_11 : Exa Z T11.heap b10 "com/example/berthwise/berthwise/model/Placement" := A10.keep Kc11
    have SZ11 : n0 ≤ T11.heap.size := Nat.le_trans SZ10 Kc11.1
    have K11 : Keep h0 T11.heap [] := K10.trans Kc11 (allS (Or.inr sz_b10) all0)
    show Gl p.tables e below (QQof s (Q_law Z n_ a b c_ d h0 n0) 3 12) (T11.setTop (mkF m 64 #[.val (.int n_), .val (.int a), .val (.int b), .val (.int c_), .val (.int d), .val (.int (2 : Int32)), .val (.ref b7), .unset, .unset, .unset] [(.ref b10)]))
    have ne_cb11 : b7 ≠ cb11 := Nat.ne_of_lt (Nat.lt_of_lt_of_le V_b7_10.lt gz11)
    have ne_cc11 : b10 ≠ cb11 := Nat.ne_of_lt (Nat.lt_of_lt_of_le A10.lt gz11)
    refine Gl.go (fun _ k => XS.astore X11.here hx rfl (hb hby at_64) rfl rfl (l' := #[.val (.int n_), .val (.int a), .val (.int b), .val (.int c_), .val (.int d), .val (.int (2 : Int32)), .val (.ref b7), .val (.ref b10), .unset, .unset]) rfl k) ?_
    show Gl p.tables e below (QQof s (Q_law Z n_ a b c_ d h0 n0) 3 12) (T11.setTop (mkF m 66 #[.val (.int n_), .val (.int a), .val (.int b), .val (.int c_), .val (.int d), .val (.int (2 : Int32)), .val (.ref b7), .val (.ref b10), .unset, .unset] []))
    refine Gl.go (fun _ k => XS.aload X11.here hx rfl (hb hby at_66) rfl rfl  k) ?_
    show Gl p.tables e below (QQof s (Q_law Z n_ a b c_ d h0 n0) 3 12) (T11.setTop (mkF m 68 #[.val (.int n_), .val (.int a), .val (.int b), .val (.int c_), .val (.int d), .val (.int (2 : Int32)), .val (.ref b7), .val (.ref b10), .unset, .unset] [(.ref b7)]))
    refine Gl.go (fun _ k => XS.iconst X11.here hx rfl (hb hby at_68) k) ?_
    show Gl p.tables e below (QQof s (Q_law Z n_ a b c_ d h0 n0) 3 12) (T11.setTop (mkF m 69 #[.val (.int n_), .val (.int a), .val (.int b), .val (.int c_), .val (.int d), .val (.int (2 : Int32)), .val (.ref b7), .val (.ref b10), .unset, .unset] [(.int (0 : Int32)), (.ref b7)]))
    refine Gl.go (fun _ k => XS.iloadN X11.here hx rfl (hb hby at_69) rfl  k) ?_
    show Gl p.tables e below (QQof s (Q_law Z n_ a b c_ d h0 n0) 3 12) (T11.setTop (mkF m 70 #[.val (.int n_), .val (.int a), .val (.int b), .val (.int c_), .val (.int d), .val (.int (2 : Int32)), .val (.ref b7), .val (.ref b10), .unset, .unset] [(.int a), (.int (0 : Int32)), (.ref b7)]))
    refine Gl.go (fun _ k => XS.iconst X11.here hx rfl (hb hby at_70) k) ?_
    show Gl p.tables e below (QQof s (Q_law Z n_ a b c_ d h0 n0) 3 12) (T11.setTop (mkF m 71 #[.val (.int n_), .val (.int a), .val (.int b), .val (.int c_), .val (.int d), .val (.int (2 : Int32)), .val (.ref b7), .val (.ref b10), .unset, .unset] [(.int (-1 : Int32)), (.int a), (.int (0 : Int32)), (.ref b7)]))
    refine Gl.go (fun _ k => XS.ixor X11.here hx rfl (hb hby at_71) rfl k) ?_
    show Gl p.tables e below (QQof s (Q_law Z n_ a b c_ d h0 n0) 3 12) (T11.setTop (mkF m 72 #[.val (.int n_), .val (.int a), .val (.int b), .val (.int c_), .val (.int d), .val (.int (2 : Int32)), .val (.ref b7), .val (.ref b10), .unset, .unset] [(.int (a ^^^ (-1 : Int32))), (.int (0 : Int32)), (.ref b7)]))
    obtain ⟨cl12, Ar12, qA12, SA12, NA12, HA12, GA12⟩ := id V_b7_11
    obtain ⟨T12, h12, X12, e12, W12, st12⟩ := stI X11 hx hZ rfl Ar12 (j := (0 : Int32)) (inb_of SA12 ⟨by decide, by decide⟩) (g := (mkF m 72 #[.val (.int n_), .val (.int a), .val (.int b), .val (.int c_), .val (.int d), .val (.int (2 : Int32)), .val (.ref b7), .val (.ref b10), .unset, .unset] [(.int (a ^^^ (-1 : Int32))), (.int (0 : Int32)), (.ref b7)])) rfl rfl (hb hby at_72)
    have E_b7_12 : Exa Z h12 b7 "[I" := E_b7_11.wr W12
    have E_b10_12 : Exa Z h12 b10 "com/example/berthwise/berthwise/model/Placement" := E_b10_11.wr W12
    have F_b10_cranes_12 : Fld Z h12 b10 "com/example/berthwise/berthwise/model/Placement" "cranes" "[I" (.ref cb11) := Fc11.other W12 (Or.inl (Ne.symm ne_b7_b10))
    have V_cb11_12 : Arv Z h12 cb11 cA7 .int (2 : Int32) [(.int a), (.int b)] (.int (0 : Int32)) := Vc11.other W12 (Ne.symm ne_cb11)
    have SZ12 : n0 ≤ h12.size := by rw [Wr.size W12]; exact SZ11
    have K12 : Keep h0 h12 [] := K11.wr W12 (Or.inr sz_b7)
    have N12 := Fr.snoc X12 N11 g_b7
    have V_b7_12 : Arv Z h12 b7 cA7 .int (2 : Int32) [(.int (a ^^^ (-1 : Int32))), (.int b)] (.int (0 : Int32)) := Arv.set Ar12 qA12 SA12 NA12 HA12 GA12 rfl W12 0 rfl (Nat.le_of_ble_eq_true rfl)
    refine Gl.go (fun _ k => st12 _ k) ?_
    show Gl p.tables e below (QQof s (Q_law Z n_ a b c_ d h0 n0) 3 12) (T12.setTop (mkF m 73 #[.val (.int n_), .val (.int a), .val (.int b), .val (.int c_), .val (.int d), .val (.int (2 : Int32)), .val (.ref b7), .val (.ref b10), .unset, .unset] []))
    refine Gl.go (fun _ k => XS.iloadN X12.here hx rfl (hb hby at_73) rfl  k) ?_
    show Gl p.tables e below (QQof s (Q_law Z n_ a b c_ d h0 n0) 3 12) (T12.setTop (mkF m 74 #[.val (.int n_), .val (.int a), .val (.int b), .val (.int c_), .val (.int d), .val (.int (2 : Int32)), .val (.ref b7), .val (.ref b10), .unset, .unset] [(.int a)]))
    refine Gl.go (fun _ k => XS.i2l X12.here hx rfl (hb hby at_74) rfl k) ?_
    show Gl p.tables e below (QQof s (Q_law Z n_ a b c_ d h0 n0) 3 12) (T12.setTop (mkF m 75 #[.val (.int n_), .val (.int a), .val (.int b), .val (.int c_), .val (.int d), .val (.int (2 : Int32)), .val (.ref b7), .val (.ref b10), .unset, .unset] [(.long (a.toInt64))]))
    refine Gl.go (fun _ k => XS.lstore X12.here hx rfl (hb hby at_75) rfl (l' := #[.val (.int n_), .val (.int a), .val (.int b), .val (.int c_), .val (.int d), .val (.int (2 : Int32)), .val (.ref b7), .val (.ref b10), .val (.long (a.toInt64)), .second]) rfl k) ?_
    show Gl p.tables e below (QQof s (Q_law Z n_ a b c_ d h0 n0) 3 12) (T12.setTop (mkF m 77 #[.val (.int n_), .val (.int a), .val (.int b), .val (.int c_), .val (.int d), .val (.int (2 : Int32)), .val (.ref b7), .val (.ref b10), .val (.long (a.toInt64)), .second] []))
    refine Gl.go (fun _ k => XS.iload X12.here hx rfl (hb hby at_77) rfl  k) ?_
    show Gl p.tables e below (QQof s (Q_law Z n_ a b c_ d h0 n0) 3 12) (T12.setTop (mkF m 79 #[.val (.int n_), .val (.int a), .val (.int b), .val (.int c_), .val (.int d), .val (.int (2 : Int32)), .val (.ref b7), .val (.ref b10), .val (.long (a.toInt64)), .second] [(.int (2 : Int32))]))
    refine Gl.go (fun _ k => XS.iconst X12.here hx rfl (hb hby at_79) k) ?_
    show Gl p.tables e below (QQof s (Q_law Z n_ a b c_ d h0 n0) 3 12) (T12.setTop (mkF m 80 #[.val (.int n_), .val (.int a), .val (.int b), .val (.int c_), .val (.int d), .val (.int (2 : Int32)), .val (.ref b7), .val (.ref b10), .val (.long (a.toInt64)), .second] [(.int (2 : Int32)), (.int (2 : Int32))]))
    refine Gl.go (fun _ k => XS.icmpNo X12.here hx rfl (hb hby at_80) rfl (flt (by decide)).1 k) ?_
    show Gl p.tables e below (QQof s (Q_law Z n_ a b c_ d h0 n0) 3 12) (T12.setTop (mkF m 83 #[.val (.int n_), .val (.int a), .val (.int b), .val (.int c_), .val (.int d), .val (.int (2 : Int32)), .val (.ref b7), .val (.ref b10), .val (.long (a.toInt64)), .second] []))
    refine Gl.go (fun _ k => XS.lload X12.here hx rfl (hb hby at_83) rfl  k) ?_
    show Gl p.tables e below (QQof s (Q_law Z n_ a b c_ d h0 n0) 3 12) (T12.setTop (mkF m 85 #[.val (.int n_), .val (.int a), .val (.int b), .val (.int c_), .val (.int d), .val (.int (2 : Int32)), .val (.ref b7), .val (.ref b10), .val (.long (a.toInt64)), .second] [(.long (a.toInt64))]))
    refine Gl.go (fun _ k => XS.iloadN X12.here hx rfl (hb hby at_85) rfl  k) ?_
    show Gl p.tables e below (QQof s (Q_law Z n_ a b c_ d h0 n0) 3 12) (T12.setTop (mkF m 86 #[.val (.int n_), .val (.int a), .val (.int b), .val (.int c_), .val (.int d), .val (.int (2 : Int32)), .val (.ref b7), .val (.ref b10), .val (.long (a.toInt64)), .second] [(.int b), (.long (a.toInt64))]))
    refine Gl.go (fun _ k => XS.i2l X12.here hx rfl (hb hby at_86) rfl k) ?_
    show Gl p.tables e below (QQof s (Q_law Z n_ a b c_ d h0 n0) 3 12) (T12.setTop (mkF m 87 #[.val (.int n_), .val (.int a), .val (.int b), .val (.int c_), .val (.int d), .val (.int (2 : Int32)), .val (.ref b7), .val (.ref b10), .val (.long (a.toInt64)), .second] [(.long (b.toInt64)), (.long (a.toInt64))]))
    refine Gl.go (fun _ k => XS.ladd X12.here hx rfl (hb hby at_87) rfl k) ?_
    show Gl p.tables e below (QQof s (Q_law Z n_ a b c_ d h0 n0) 3 12) (T12.setTop (mkF m 88 #[.val (.int n_), .val (.int a), .val (.int b), .val (.int c_), .val (.int d), .val (.int (2 : Int32)), .val (.ref b7), .val (.ref b10), .val (.long (a.toInt64)), .second] [(.long ((a.toInt64) + (b.toInt64)))]))
    refine Gl.go (fun _ k => XS.lstore X12.here hx rfl (hb hby at_88) rfl (l' := #[.val (.int n_), .val (.int a), .val (.int b), .val (.int c_), .val (.int d), .val (.int (2 : Int32)), .val (.ref b7), .val (.ref b10), .val (.long ((a.toInt64) + (b.toInt64))), .second]) rfl k) ?_
    show Gl p.tables e below (QQof s (Q_law Z n_ a b c_ d h0 n0) 3 12) (T12.setTop (mkF m 90 #[.val (.int n_), .val (.int a), .val (.int b), .val (.int c_), .val (.int d), .val (.int (2 : Int32)), .val (.ref b7), .val (.ref b10), .val (.long ((a.toInt64) + (b.toInt64))), .second] []))
    refine Gl.go (fun _ k => XS.iload X12.here hx rfl (hb hby at_90) rfl  k) ?_
    show Gl p.tables e below (QQof s (Q_law Z n_ a b c_ d h0 n0) 3 12) (T12.setTop (mkF m 92 #[.val (.int n_), .val (.int a), .val (.int b), .val (.int c_), .val (.int d), .val (.int (2 : Int32)), .val (.ref b7), .val (.ref b10), .val (.long ((a.toInt64) + (b.toInt64))), .second] [(.int (2 : Int32))]))
    refine Gl.go (fun _ k => XS.iconst X12.here hx rfl (hb hby at_92) k) ?_
    show Gl p.tables e below (QQof s (Q_law Z n_ a b c_ d h0 n0) 3 12) (T12.setTop (mkF m 93 #[.val (.int n_), .val (.int a), .val (.int b), .val (.int c_), .val (.int d), .val (.int (2 : Int32)), .val (.ref b7), .val (.ref b10), .val (.long ((a.toInt64) + (b.toInt64))), .second] [(.int (3 : Int32)), (.int (2 : Int32))]))
    refine Gl.go (fun _ k => XS.icmpYes X12.here hx rfl (pc0 := 93) (pc' := 103) rfl (hb hby at_93) rfl (tlt (by decide)).1 (by decide) (by decide) k) ?_
    show Gl p.tables e below (QQof s (Q_law Z n_ a b c_ d h0 n0) 3 12) (T12.setTop (mkF m 103 #[.val (.int n_), .val (.int a), .val (.int b), .val (.int c_), .val (.int d), .val (.int (2 : Int32)), .val (.ref b7), .val (.ref b10), .val (.long ((a.toInt64) + (b.toInt64))), .second] []))
    refine Gl.go (fun _ k => XS.iload X12.here hx rfl (hb hby at_103) rfl  k) ?_
    show Gl p.tables e below (QQof s (Q_law Z n_ a b c_ d h0 n0) 3 12) (T12.setTop (mkF m 105 #[.val (.int n_), .val (.int a), .val (.int b), .val (.int c_), .val (.int d), .val (.int (2 : Int32)), .val (.ref b7), .val (.ref b10), .val (.long ((a.toInt64) + (b.toInt64))), .second] [(.int (2 : Int32))]))
    refine Gl.go (fun _ k => XS.iconst X12.here hx rfl (hb hby at_105) k) ?_
    show Gl p.tables e below (QQof s (Q_law Z n_ a b c_ d h0 n0) 3 12) (T12.setTop (mkF m 106 #[.val (.int n_), .val (.int a), .val (.int b), .val (.int c_), .val (.int d), .val (.int (2 : Int32)), .val (.ref b7), .val (.ref b10), .val (.long ((a.toInt64) + (b.toInt64))), .second] [(.int (4 : Int32)), (.int (2 : Int32))]))
    refine Gl.go (fun _ k => XS.icmpYes X12.here hx rfl (pc0 := 106) (pc' := 117) rfl (hb hby at_106) rfl (tlt (by decide)).1 (by decide) (by decide) k) ?_
    show Gl p.tables e below (QQof s (Q_law Z n_ a b c_ d h0 n0) 3 12) (T12.setTop (mkF m 117 #[.val (.int n_), .val (.int a), .val (.int b), .val (.int c_), .val (.int d), .val (.int (2 : Int32)), .val (.ref b7), .val (.ref b10), .val (.long ((a.toInt64) + (b.toInt64))), .second] []))
    refine Gl.go (fun _ k => XS.aload X12.here hx rfl (hb hby at_117) rfl rfl  k) ?_
    show Gl p.tables e below (QQof s (Q_law Z n_ a b c_ d h0 n0) 3 12) (T12.setTop (mkF m 119 #[.val (.int n_), .val (.int a), .val (.int b), .val (.int c_), .val (.int d), .val (.int (2 : Int32)), .val (.ref b7), .val (.ref b10), .val (.long ((a.toInt64) + (b.toInt64))), .second] [(.ref b10)]))
    obtain ⟨cq13, kq13, q13a, q13b, q13c⟩ := isOf hZ e12 E_b10_12
    obtain ⟨_, _, ⟨T13, L13, k13, n13⟩, -, X13, ⟨Lc13, hQ13, l13, y13, z13⟩, st13⟩ := X12.virtualBack hx (y := (⟨"com/example/berthwise/berthwise/model/Placement", "craneHours", "()J"⟩ : MethodName)) (z := (⟨"com/example/berthwise/berthwise/model/Placement", "craneHours", "()J"⟩ : MethodName)) hown (mvT hZ (hw _ (List.mem_of_getElem? (i := 27) rfl))) (mvT hZ (hw _ (List.mem_of_getElem? (i := 28) rfl))) (notFace_of_selects (args := #[]) (mvT hZ (hw _ (List.mem_of_getElem? (i := 30) rfl)))) (mvT hZ (hw _ (List.mem_of_getElem? (i := 30) rfl))) (mvT hZ (hw _ (List.mem_of_getElem? (i := 29) rfl))) (by decide) (backOf (W := 0) (rm_ch2 l Z a0 hw [] b10 cb11 cA7 a b h12 n0 SZ12 F_b10_cranes_12 V_cb11_12) hZ (hw _ (List.mem_of_getElem? (i := 31) rfl)) (hw _ (List.mem_of_getElem? (i := 3) rfl)) (by decide) (by decide)) q13a q13c (g := (mkF m 119 #[.val (.int n_), .val (.int a), .val (.int b), .val (.int c_), .val (.int d), .val (.int (2 : Int32)), .val (.ref b7), .val (.ref b10), .val (.long ((a.toInt64) + (b.toInt64))), .second] [(.ref b10)])) rfl (by rw [hml]; rfl) (Steps.refl _) (argsL := []) (rest := []) (lenOf pd_1 rfl) rfl (by show 2 * 0 + _ ≤ _; exact Nat.le_of_eq rfl) (hb hby at_119) (fun _ _ => ⟨rfl, e12, (by decide : 3 + 0 ≤ _), (by decide : 10 + 0 ≤ _)⟩)
    dsimp only [Pt.U, Pt.locs, Pt.cells, Pt.slots] at X13 l13 y13 z13 st13 hQ13
    subst l13 y13 z13
    obtain ⟨rfl, Nq13, e13⟩ := hQ13
    have N13 := Fr.app N12 Nq13
    refine Gl.go (fun _ k => st13.trans k) ?_
    show Gl p.tables e below (QQof s (Q_law Z n_ a b c_ d h0 n0) 3 12) (T13.setTop (mkF m 122 #[.val (.int n_), .val (.int a), .val (.int b), .val (.int c_), .val (.int d), .val (.int (2 : Int32)), .val (.ref b7), .val (.ref b10), .val (.long ((a.toInt64) + (b.toInt64))), .second] [(.long (adL (adL (0 : Int64) a) b))]))
    refine Gl.go (fun _ k => XS.lload X13.here hx rfl (hb hby at_122) rfl  k) ?_
    show Gl p.tables e below (QQof s (Q_law Z n_ a b c_ d h0 n0) 3 12) (T13.setTop (mkF m 124 #[.val (.int n_), .val (.int a), .val (.int b), .val (.int c_), .val (.int d), .val (.int (2 : Int32)), .val (.ref b7), .val (.ref b10), .val (.long ((a.toInt64) + (b.toInt64))), .second] [(.long ((a.toInt64) + (b.toInt64))), (.long (adL (adL (0 : Int64) a) b))]))
    refine Gl.go (fun _ k => XS.lcmp X13.here hx rfl (hb hby at_124) rfl k) ?_
    show Gl p.tables e below (QQof s (Q_law Z n_ a b c_ d h0 n0) 3 12) (T13.setTop (mkF m 125 #[.val (.int n_), .val (.int a), .val (.int b), .val (.int c_), .val (.int d), .val (.int (2 : Int32)), .val (.ref b7), .val (.ref b10), .val (.long ((a.toInt64) + (b.toInt64))), .second] [(.int (lcmpW (adL (adL (0 : Int64) a) b) ((a.toInt64) + (b.toInt64))))]))
    refine Gl.go (fun _ k => XS.ifNo X13.here hx rfl (hb hby at_125) rfl ((if0 _ _).trans (teq (by rw [lcW, lc_eq, own_z] <;> rfl)).2) k) ?_
    show Gl p.tables e below (QQof s (Q_law Z n_ a b c_ d h0 n0) 3 12) (T13.setTop (mkF m 128 #[.val (.int n_), .val (.int a), .val (.int b), .val (.int c_), .val (.int d), .val (.int (2 : Int32)), .val (.ref b7), .val (.ref b10), .val (.long ((a.toInt64) + (b.toInt64))), .second] []))
    refine Gl.go (fun _ k => XS.iconst X13.here hx rfl (hb hby at_128) k) ?_
    show Gl p.tables e below (QQof s (Q_law Z n_ a b c_ d h0 n0) 3 12) (T13.setTop (mkF m 129 #[.val (.int n_), .val (.int a), .val (.int b), .val (.int c_), .val (.int d), .val (.int (2 : Int32)), .val (.ref b7), .val (.ref b10), .val (.long ((a.toInt64) + (b.toInt64))), .second] [(.int (1 : Int32))]))
    refine Gl.go (fun _ k => XS.goto X13.here hx rfl (pc0 := 129) (pc' := 133) rfl (hb hby at_129) (by decide) (by decide) k) ?_
    show Gl p.tables e below (QQof s (Q_law Z n_ a b c_ d h0 n0) 3 12) (T13.setTop (mkF m 133 #[.val (.int n_), .val (.int a), .val (.int b), .val (.int c_), .val (.int d), .val (.int (2 : Int32)), .val (.ref b7), .val (.ref b10), .val (.long ((a.toInt64) + (b.toInt64))), .second] [(.int (1 : Int32))]))
    refine leafN X13 hx hlk (t := .boolean) Bd.returns (by simp) (hb hby at_133) ?_ (by decide) (by decide)
    exact ⟨rfl, N13⟩
  · skip
    rw [(hl : ((n_ &&& (3 : Int32)) + (1 : Int32)) = (3 : Int32))]
    show Gl p.tables e below (QQof s (Q_law Z n_ a b c_ d h0 n0) 3 12) (s₁.setTop (mkF m 5 #[.val (.int n_), .val (.int a), .val (.int b), .val (.int c_), .val (.int d), .unset, .unset, .unset, .unset, .unset] [(.int (3 : Int32))]))
    refine Gl.go (fun _ k => XS.istore X0.here hx rfl (hb hby at_5) rfl (l' := #[.val (.int n_), .val (.int a), .val (.int b), .val (.int c_), .val (.int d), .val (.int (3 : Int32)), .unset, .unset, .unset, .unset]) rfl k) ?_
    show Gl p.tables e below (QQof s (Q_law Z n_ a b c_ d h0 n0) 3 12) (s₁.setTop (mkF m 7 #[.val (.int n_), .val (.int a), .val (.int b), .val (.int c_), .val (.int d), .val (.int (3 : Int32)), .unset, .unset, .unset, .unset] []))
    refine Gl.go (fun _ k => XS.iload X0.here hx rfl (hb hby at_7) rfl  k) ?_
    show Gl p.tables e below (QQof s (Q_law Z n_ a b c_ d h0 n0) 3 12) (s₁.setTop (mkF m 9 #[.val (.int n_), .val (.int a), .val (.int b), .val (.int c_), .val (.int d), .val (.int (3 : Int32)), .unset, .unset, .unset, .unset] [(.int (3 : Int32))]))
    obtain ⟨T14, h14, cA14, X14, e14, E14, A14, Y14, st14⟩ := newPE X0 hx hZ (hw _ (List.mem_of_getElem? (i := 0) rfl)) e0 (g := (mkF m 9 #[.val (.int n_), .val (.int a), .val (.int b), .val (.int c_), .val (.int d), .val (.int (3 : Int32)), .unset, .unset, .unset, .unset] [(.int (3 : Int32))])) rfl (hb hby at_9) rfl (by decide) (cap := 3) (by decide) (by decide) (by decide) (by decide) (ad := "[I") (by decide)
    obtain ⟨b14, g14⟩ : ∃ z, z = h0.size := ⟨_, rfl⟩
    rw [← g14] at A14 Y14 st14
    have g_b14 : n0 ≤ b14 := Nat.le_trans Z0 (Nat.le_of_eq g14.symm)
    have sz_b14 : h0.size ≤ b14 := Nat.le_trans K0.1 (Nat.le_of_eq g14.symm)
    have SZ14 : n0 ≤ h14.size := Nat.le_trans Z0 E14.1
    have K14 : Keep h0 h14 [] := K0.ext E14
    have V_b14_14 : Arv Z h14 b14 cA14 .int (3 : Int32) [(.int (0 : Int32)), (.int (0 : Int32)), (.int (0 : Int32))] (.int (0 : Int32)) := (Arv.new A14 (by decide)).pad (pad_rep [] _ 3)
    refine Gl.go (fun _ k => st14 _ k) ?_
    show Gl p.tables e below (QQof s (Q_law Z n_ a b c_ d h0 n0) 3 12) (T14.setTop (mkF m 11 #[.val (.int n_), .val (.int a), .val (.int b), .val (.int c_), .val (.int d), .val (.int (3 : Int32)), .unset, .unset, .unset, .unset] [(.ref b14)]))
    refine Gl.go (fun _ k => XS.astore X14.here hx rfl (hb hby at_11) rfl rfl (l' := #[.val (.int n_), .val (.int a), .val (.int b), .val (.int c_), .val (.int d), .val (.int (3 : Int32)), .val (.ref b14), .unset, .unset, .unset]) rfl k) ?_
    show Gl p.tables e below (QQof s (Q_law Z n_ a b c_ d h0 n0) 3 12) (T14.setTop (mkF m 13 #[.val (.int n_), .val (.int a), .val (.int b), .val (.int c_), .val (.int d), .val (.int (3 : Int32)), .val (.ref b14), .unset, .unset, .unset] []))
    refine Gl.go (fun _ k => XS.aload X14.here hx rfl (hb hby at_13) rfl rfl  k) ?_
    show Gl p.tables e below (QQof s (Q_law Z n_ a b c_ d h0 n0) 3 12) (T14.setTop (mkF m 15 #[.val (.int n_), .val (.int a), .val (.int b), .val (.int c_), .val (.int d), .val (.int (3 : Int32)), .val (.ref b14), .unset, .unset, .unset] [(.ref b14)]))
    refine Gl.go (fun _ k => XS.iconst X14.here hx rfl (hb hby at_15) k) ?_
    show Gl p.tables e below (QQof s (Q_law Z n_ a b c_ d h0 n0) 3 12) (T14.setTop (mkF m 16 #[.val (.int n_), .val (.int a), .val (.int b), .val (.int c_), .val (.int d), .val (.int (3 : Int32)), .val (.ref b14), .unset, .unset, .unset] [(.int (0 : Int32)), (.ref b14)]))
    refine Gl.go (fun _ k => XS.iloadN X14.here hx rfl (hb hby at_16) rfl  k) ?_
    show Gl p.tables e below (QQof s (Q_law Z n_ a b c_ d h0 n0) 3 12) (T14.setTop (mkF m 17 #[.val (.int n_), .val (.int a), .val (.int b), .val (.int c_), .val (.int d), .val (.int (3 : Int32)), .val (.ref b14), .unset, .unset, .unset] [(.int a), (.int (0 : Int32)), (.ref b14)]))
    obtain ⟨cl15, Ar15, qA15, SA15, NA15, HA15, GA15⟩ := id V_b14_14
    obtain ⟨T15, h15, X15, e15, W15, st15⟩ := stI X14 hx hZ e14 Ar15 (j := (0 : Int32)) (inb_of SA15 ⟨by decide, by decide⟩) (g := (mkF m 17 #[.val (.int n_), .val (.int a), .val (.int b), .val (.int c_), .val (.int d), .val (.int (3 : Int32)), .val (.ref b14), .unset, .unset, .unset] [(.int a), (.int (0 : Int32)), (.ref b14)])) rfl rfl (hb hby at_17)
    have E_b14_15 : Exa Z h15 b14 "[I" := Y14.wr W15
    have SZ15 : n0 ≤ h15.size := by rw [Wr.size W15]; exact SZ14
    have K15 : Keep h0 h15 [] := K14.wr W15 (Or.inr sz_b14)
    have N15 := Fr.snoc X15 N0 g_b14
    have V_b14_15 : Arv Z h15 b14 cA14 .int (3 : Int32) [(.int a), (.int (0 : Int32)), (.int (0 : Int32))] (.int (0 : Int32)) := Arv.set Ar15 qA15 SA15 NA15 HA15 GA15 rfl W15 0 rfl (Nat.le_of_ble_eq_true rfl)
    refine Gl.go (fun _ k => st15 _ k) ?_
    show Gl p.tables e below (QQof s (Q_law Z n_ a b c_ d h0 n0) 3 12) (T15.setTop (mkF m 18 #[.val (.int n_), .val (.int a), .val (.int b), .val (.int c_), .val (.int d), .val (.int (3 : Int32)), .val (.ref b14), .unset, .unset, .unset] []))
    refine Gl.go (fun _ k => XS.iload X15.here hx rfl (hb hby at_18) rfl  k) ?_
    show Gl p.tables e below (QQof s (Q_law Z n_ a b c_ d h0 n0) 3 12) (T15.setTop (mkF m 20 #[.val (.int n_), .val (.int a), .val (.int b), .val (.int c_), .val (.int d), .val (.int (3 : Int32)), .val (.ref b14), .unset, .unset, .unset] [(.int (3 : Int32))]))
    refine Gl.go (fun _ k => XS.iconst X15.here hx rfl (hb hby at_20) k) ?_
    show Gl p.tables e below (QQof s (Q_law Z n_ a b c_ d h0 n0) 3 12) (T15.setTop (mkF m 21 #[.val (.int n_), .val (.int a), .val (.int b), .val (.int c_), .val (.int d), .val (.int (3 : Int32)), .val (.ref b14), .unset, .unset, .unset] [(.int (2 : Int32)), (.int (3 : Int32))]))
    refine Gl.go (fun _ k => XS.icmpNo X15.here hx rfl (hb hby at_21) rfl (flt (by decide)).1 k) ?_
    show Gl p.tables e below (QQof s (Q_law Z n_ a b c_ d h0 n0) 3 12) (T15.setTop (mkF m 24 #[.val (.int n_), .val (.int a), .val (.int b), .val (.int c_), .val (.int d), .val (.int (3 : Int32)), .val (.ref b14), .unset, .unset, .unset] []))
    refine Gl.go (fun _ k => XS.aload X15.here hx rfl (hb hby at_24) rfl rfl  k) ?_
    show Gl p.tables e below (QQof s (Q_law Z n_ a b c_ d h0 n0) 3 12) (T15.setTop (mkF m 26 #[.val (.int n_), .val (.int a), .val (.int b), .val (.int c_), .val (.int d), .val (.int (3 : Int32)), .val (.ref b14), .unset, .unset, .unset] [(.ref b14)]))
    refine Gl.go (fun _ k => XS.iconst X15.here hx rfl (hb hby at_26) k) ?_
    show Gl p.tables e below (QQof s (Q_law Z n_ a b c_ d h0 n0) 3 12) (T15.setTop (mkF m 27 #[.val (.int n_), .val (.int a), .val (.int b), .val (.int c_), .val (.int d), .val (.int (3 : Int32)), .val (.ref b14), .unset, .unset, .unset] [(.int (1 : Int32)), (.ref b14)]))
    refine Gl.go (fun _ k => XS.iloadN X15.here hx rfl (hb hby at_27) rfl  k) ?_
    show Gl p.tables e below (QQof s (Q_law Z n_ a b c_ d h0 n0) 3 12) (T15.setTop (mkF m 28 #[.val (.int n_), .val (.int a), .val (.int b), .val (.int c_), .val (.int d), .val (.int (3 : Int32)), .val (.ref b14), .unset, .unset, .unset] [(.int b), (.int (1 : Int32)), (.ref b14)]))
    obtain ⟨cl16, Ar16, qA16, SA16, NA16, HA16, GA16⟩ := id V_b14_15
    obtain ⟨T16, h16, X16, e16, W16, st16⟩ := stI X15 hx hZ e15 Ar16 (j := (1 : Int32)) (inb_of SA16 ⟨by decide, by decide⟩) (g := (mkF m 28 #[.val (.int n_), .val (.int a), .val (.int b), .val (.int c_), .val (.int d), .val (.int (3 : Int32)), .val (.ref b14), .unset, .unset, .unset] [(.int b), (.int (1 : Int32)), (.ref b14)])) rfl rfl (hb hby at_28)
    have E_b14_16 : Exa Z h16 b14 "[I" := E_b14_15.wr W16
    have SZ16 : n0 ≤ h16.size := by rw [Wr.size W16]; exact SZ15
    have K16 : Keep h0 h16 [] := K15.wr W16 (Or.inr sz_b14)
    have N16 := Fr.snoc X16 N15 g_b14
    have V_b14_16 : Arv Z h16 b14 cA14 .int (3 : Int32) [(.int a), (.int b), (.int (0 : Int32))] (.int (0 : Int32)) := Arv.set Ar16 qA16 SA16 NA16 HA16 GA16 rfl W16 1 rfl (Nat.le_of_ble_eq_true rfl)
    refine Gl.go (fun _ k => st16 _ k) ?_
    show Gl p.tables e below (QQof s (Q_law Z n_ a b c_ d h0 n0) 3 12) (T16.setTop (mkF m 29 #[.val (.int n_), .val (.int a), .val (.int b), .val (.int c_), .val (.int d), .val (.int (3 : Int32)), .val (.ref b14), .unset, .unset, .unset] []))
    refine Gl.go (fun _ k => XS.iload X16.here hx rfl (hb hby at_29) rfl  k) ?_
    show Gl p.tables e below (QQof s (Q_law Z n_ a b c_ d h0 n0) 3 12) (T16.setTop (mkF m 31 #[.val (.int n_), .val (.int a), .val (.int b), .val (.int c_), .val (.int d), .val (.int (3 : Int32)), .val (.ref b14), .unset, .unset, .unset] [(.int (3 : Int32))]))
    refine Gl.go (fun _ k => XS.iconst X16.here hx rfl (hb hby at_31) k) ?_
    show Gl p.tables e below (QQof s (Q_law Z n_ a b c_ d h0 n0) 3 12) (T16.setTop (mkF m 32 #[.val (.int n_), .val (.int a), .val (.int b), .val (.int c_), .val (.int d), .val (.int (3 : Int32)), .val (.ref b14), .unset, .unset, .unset] [(.int (3 : Int32)), (.int (3 : Int32))]))
    refine Gl.go (fun _ k => XS.icmpNo X16.here hx rfl (hb hby at_32) rfl (flt (by decide)).1 k) ?_
    show Gl p.tables e below (QQof s (Q_law Z n_ a b c_ d h0 n0) 3 12) (T16.setTop (mkF m 35 #[.val (.int n_), .val (.int a), .val (.int b), .val (.int c_), .val (.int d), .val (.int (3 : Int32)), .val (.ref b14), .unset, .unset, .unset] []))
    refine Gl.go (fun _ k => XS.aload X16.here hx rfl (hb hby at_35) rfl rfl  k) ?_
    show Gl p.tables e below (QQof s (Q_law Z n_ a b c_ d h0 n0) 3 12) (T16.setTop (mkF m 37 #[.val (.int n_), .val (.int a), .val (.int b), .val (.int c_), .val (.int d), .val (.int (3 : Int32)), .val (.ref b14), .unset, .unset, .unset] [(.ref b14)]))
    refine Gl.go (fun _ k => XS.iconst X16.here hx rfl (hb hby at_37) k) ?_
    show Gl p.tables e below (QQof s (Q_law Z n_ a b c_ d h0 n0) 3 12) (T16.setTop (mkF m 38 #[.val (.int n_), .val (.int a), .val (.int b), .val (.int c_), .val (.int d), .val (.int (3 : Int32)), .val (.ref b14), .unset, .unset, .unset] [(.int (2 : Int32)), (.ref b14)]))
    refine Gl.go (fun _ k => XS.iloadN X16.here hx rfl (hb hby at_38) rfl  k) ?_
    show Gl p.tables e below (QQof s (Q_law Z n_ a b c_ d h0 n0) 3 12) (T16.setTop (mkF m 39 #[.val (.int n_), .val (.int a), .val (.int b), .val (.int c_), .val (.int d), .val (.int (3 : Int32)), .val (.ref b14), .unset, .unset, .unset] [(.int c_), (.int (2 : Int32)), (.ref b14)]))
    obtain ⟨cl17, Ar17, qA17, SA17, NA17, HA17, GA17⟩ := id V_b14_16
    obtain ⟨T17, h17, X17, e17, W17, st17⟩ := stI X16 hx hZ e16 Ar17 (j := (2 : Int32)) (inb_of SA17 ⟨by decide, by decide⟩) (g := (mkF m 39 #[.val (.int n_), .val (.int a), .val (.int b), .val (.int c_), .val (.int d), .val (.int (3 : Int32)), .val (.ref b14), .unset, .unset, .unset] [(.int c_), (.int (2 : Int32)), (.ref b14)])) rfl rfl (hb hby at_39)
    have E_b14_17 : Exa Z h17 b14 "[I" := E_b14_16.wr W17
    have SZ17 : n0 ≤ h17.size := by rw [Wr.size W17]; exact SZ16
    have K17 : Keep h0 h17 [] := K16.wr W17 (Or.inr sz_b14)
    have N17 := Fr.snoc X17 N16 g_b14
    have V_b14_17 : Arv Z h17 b14 cA14 .int (3 : Int32) [(.int a), (.int b), (.int c_)] (.int (0 : Int32)) := Arv.set Ar17 qA17 SA17 NA17 HA17 GA17 rfl W17 2 rfl (Nat.le_of_ble_eq_true rfl)
    refine Gl.go (fun _ k => st17 _ k) ?_
    show Gl p.tables e below (QQof s (Q_law Z n_ a b c_ d h0 n0) 3 12) (T17.setTop (mkF m 40 #[.val (.int n_), .val (.int a), .val (.int b), .val (.int c_), .val (.int d), .val (.int (3 : Int32)), .val (.ref b14), .unset, .unset, .unset] []))
    refine Gl.go (fun _ k => XS.iload X17.here hx rfl (hb hby at_40) rfl  k) ?_
    show Gl p.tables e below (QQof s (Q_law Z n_ a b c_ d h0 n0) 3 12) (T17.setTop (mkF m 42 #[.val (.int n_), .val (.int a), .val (.int b), .val (.int c_), .val (.int d), .val (.int (3 : Int32)), .val (.ref b14), .unset, .unset, .unset] [(.int (3 : Int32))]))
    refine Gl.go (fun _ k => XS.iconst X17.here hx rfl (hb hby at_42) k) ?_
    show Gl p.tables e below (QQof s (Q_law Z n_ a b c_ d h0 n0) 3 12) (T17.setTop (mkF m 43 #[.val (.int n_), .val (.int a), .val (.int b), .val (.int c_), .val (.int d), .val (.int (3 : Int32)), .val (.ref b14), .unset, .unset, .unset] [(.int (4 : Int32)), (.int (3 : Int32))]))
    refine Gl.go (fun _ k => XS.icmpYes X17.here hx rfl (pc0 := 43) (pc' := 52) rfl (hb hby at_43) rfl (tlt (by decide)).1 (by decide) (by decide) k) ?_
    show Gl p.tables e below (QQof s (Q_law Z n_ a b c_ d h0 n0) 3 12) (T17.setTop (mkF m 52 #[.val (.int n_), .val (.int a), .val (.int b), .val (.int c_), .val (.int d), .val (.int (3 : Int32)), .val (.ref b14), .unset, .unset, .unset] []))
    obtain ⟨T18, h18, X18, e18, E18, A18, D18, -, st18⟩ := newO X17 hx hZ hown (hw _ (List.mem_of_getElem? (i := 1) rfl)) (hw _ (List.mem_of_getElem? (i := 2) rfl)) (hw _ (List.mem_of_getElem? (i := 3) rfl)) e17 (g := (mkF m 52 #[.val (.int n_), .val (.int a), .val (.int b), .val (.int c_), .val (.int d), .val (.int (3 : Int32)), .val (.ref b14), .unset, .unset, .unset] [])) rfl (hb hby at_52) (by decide) (by decide)
    obtain ⟨b18, g18⟩ : ∃ z, z = h17.size := ⟨_, rfl⟩
    rw [← g18] at A18 D18 st18
    have g_b18 : n0 ≤ b18 := Nat.le_trans SZ17 (Nat.le_of_eq g18.symm)
    have sz_b18 : h0.size ≤ b18 := Nat.le_trans K17.1 (Nat.le_of_eq g18.symm)
    have ne_b14_b18 : b14 ≠ b18 := Nat.ne_of_lt (Nat.lt_of_lt_of_le E_b14_17.lt (Nat.le_of_eq g18.symm))
    have E_b14_18 : Exa Z h18 b14 "[I" := E_b14_17.ext E18
    have V_b14_18 : Arv Z h18 b14 cA14 .int (3 : Int32) [(.int a), (.int b), (.int c_)] (.int (0 : Int32)) := V_b14_17.ext E18
    have SZ18 : n0 ≤ h18.size := Nat.le_trans SZ17 E18.1
    have K18 : Keep h0 h18 [] := K17.ext E18
    have F_b18_vessel_18 : Fld Z h18 b18 "com/example/berthwise/berthwise/model/Placement" "vessel" "Lcom/example/berthwise/berthwise/model/Vessel;" .null := D18 (Or.inr (hw _ (List.mem_of_getElem? (i := 11) rfl))) (ty := (.object "com/example/berthwise/berthwise/model/Vessel")) (by decide)
    have F_b18_start_18 : Fld Z h18 b18 "com/example/berthwise/berthwise/model/Placement" "start" "I" (.int (0 : Int32)) := D18 (Or.inr (hw _ (List.mem_of_getElem? (i := 13) rfl))) (ty := .int) (by decide)
    have F_b18_position_18 : Fld Z h18 b18 "com/example/berthwise/berthwise/model/Placement" "position" "I" (.int (0 : Int32)) := D18 (Or.inr (hw _ (List.mem_of_getElem? (i := 15) rfl))) (ty := .int) (by decide)
    have F_b18_cranes_18 : Fld Z h18 b18 "com/example/berthwise/berthwise/model/Placement" "cranes" "[I" .null := D18 (Or.inr (hw _ (List.mem_of_getElem? (i := 26) rfl))) (ty := (.array .int)) (by decide)
    refine Gl.go (fun _ k => st18 _ k) ?_
    show Gl p.tables e below (QQof s (Q_law Z n_ a b c_ d h0 n0) 3 12) (T18.setTop (mkF m 55 #[.val (.int n_), .val (.int a), .val (.int b), .val (.int c_), .val (.int d), .val (.int (3 : Int32)), .val (.ref b14), .unset, .unset, .unset] [(.ref b18)]))
    refine Gl.go (fun _ k => XS.dup X18.here hx rfl (hb hby at_55) rfl rfl k) ?_
    show Gl p.tables e below (QQof s (Q_law Z n_ a b c_ d h0 n0) 3 12) (T18.setTop (mkF m 56 #[.val (.int n_), .val (.int a), .val (.int b), .val (.int c_), .val (.int d), .val (.int (3 : Int32)), .val (.ref b14), .unset, .unset, .unset] [(.ref b18), (.ref b18)]))
    refine Gl.go (fun _ k => XS.aconstNull X18.here hx rfl (hb hby at_56) k) ?_
    show Gl p.tables e below (QQof s (Q_law Z n_ a b c_ d h0 n0) 3 12) (T18.setTop (mkF m 57 #[.val (.int n_), .val (.int a), .val (.int b), .val (.int c_), .val (.int d), .val (.int (3 : Int32)), .val (.ref b14), .unset, .unset, .unset] [.null, (.ref b18), (.ref b18)]))
    refine Gl.go (fun _ k => XS.iloadN X18.here hx rfl (hb hby at_57) rfl  k) ?_
    show Gl p.tables e below (QQof s (Q_law Z n_ a b c_ d h0 n0) 3 12) (T18.setTop (mkF m 58 #[.val (.int n_), .val (.int a), .val (.int b), .val (.int c_), .val (.int d), .val (.int (3 : Int32)), .val (.ref b14), .unset, .unset, .unset] [(.int n_), .null, (.ref b18), (.ref b18)]))
    refine Gl.go (fun _ k => XS.iloadN X18.here hx rfl (hb hby at_58) rfl  k) ?_
    show Gl p.tables e below (QQof s (Q_law Z n_ a b c_ d h0 n0) 3 12) (T18.setTop (mkF m 59 #[.val (.int n_), .val (.int a), .val (.int b), .val (.int c_), .val (.int d), .val (.int (3 : Int32)), .val (.ref b14), .unset, .unset, .unset] [(.int a), (.int n_), .null, (.ref b18), (.ref b18)]))
    refine Gl.go (fun _ k => XS.aload X18.here hx rfl (hb hby at_59) rfl rfl  k) ?_
    show Gl p.tables e below (QQof s (Q_law Z n_ a b c_ d h0 n0) 3 12) (T18.setTop (mkF m 61 #[.val (.int n_), .val (.int a), .val (.int b), .val (.int c_), .val (.int d), .val (.int (3 : Int32)), .val (.ref b14), .unset, .unset, .unset] [(.ref b14), (.int a), (.int n_), .null, (.ref b18), (.ref b18)]))
    obtain ⟨_, _, ⟨T19, L19, k19, n19⟩, -, X19, ⟨Lc19, hQ19, l19, y19, z19⟩, st19⟩ := X18.specialBack hx (y := (⟨"com/example/berthwise/berthwise/model/Placement", "<init>", "(Lcom/example/berthwise/berthwise/model/Vessel;II[I)V"⟩ : MethodName)) rfl hown (mvT hZ (hw _ (List.mem_of_getElem? (i := 4) rfl))) (mvT hZ (hw _ (List.mem_of_getElem? (i := 5) rfl))) (mvT hZ (hw _ (List.mem_of_getElem? (i := 6) rfl))) (by decide) (backOf (W := 1) (rm_ini l Z a0 hw [] b18 b14 n_ a cA14 (3 : Int32) [(.int a), (.int b), (.int c_)] .null (.int 0) (.int 0) .null h18 n0 SZ18 (by decide) (by decide) A18 F_b18_vessel_18 F_b18_start_18 F_b18_position_18 F_b18_cranes_18 g_b18 V_b14_18 E_b14_18 ne_b14_b18) hZ (hw _ (List.mem_of_getElem? (i := 6) rfl)) (hw _ (List.mem_of_getElem? (i := 3) rfl)) (by decide) (by decide)) (g := (mkF m 61 #[.val (.int n_), .val (.int a), .val (.int b), .val (.int c_), .val (.int d), .val (.int (3 : Int32)), .val (.ref b14), .unset, .unset, .unset] [(.ref b14), (.int a), (.int n_), .null, (.ref b18), (.ref b18)])) rfl (by rw [hml]; rfl) (Steps.refl _) (a := b18) (argsL := [.null, (.int n_), (.int a), (.ref b14)]) (rest := [(.ref b18)]) (lenOf pd_0 rfl) rfl (by show 2 * 0 + _ ≤ _; exact Nat.le_of_eq rfl) (hb hby at_61) (fun _ _ => ⟨rfl, e18, (by decide : 2 + 1 ≤ _), (by decide : 7 + 4 ≤ _)⟩)
    dsimp only [Pt.U, Pt.locs, Pt.cells, Pt.slots] at X19 l19 y19 z19 st19 hQ19
    subst l19 y19 z19
    obtain ⟨cb19, rfl, Nq19, Kc19, gz19, Ec19, Fc19, Vc19⟩ := hQ19
    have N19 := Fr.app N17 Nq19
    refine Gl.go (fun _ k => st19.trans k) ?_
    have E_b14_19 : Exa Z T19.heap b14 "[I" := E_b14_18.keep Kc19
    have V_b14_19 : Arv Z T19.heap b14 cA14 .int (3 : Int32) [(.int a), (.int b), (.int c_)] (.int (0 : Int32)) := V_b14_18.keep Kc19 (ninS ne_b14_b18 nin0)
    have E_b18_19 : Exa Z T19.heap b18 "com/example/berthwise/berthwise/model/Placement" := A18.keep Kc19
    have SZ19 : n0 ≤ T19.heap.size := Nat.le_trans SZ18 Kc19.1
    have K19 : Keep h0 T19.heap [] := K18.trans Kc19 (allS (Or.inr sz_b18) all0)
    show Gl p.tables e below (QQof s (Q_law Z n_ a b c_ d h0 n0) 3 12) (T19.setTop (mkF m 64 #[.val (.int n_), .val (.int a), .val (.int b), .val (.int c_), .val (.int d), .val (.int (3 : Int32)), .val (.ref b14), .unset, .unset, .unset] [(.ref b18)]))
    have ne_cb19 : b14 ≠ cb19 := Nat.ne_of_lt (Nat.lt_of_lt_of_le V_b14_18.lt gz19)
    have ne_cc19 : b18 ≠ cb19 := Nat.ne_of_lt (Nat.lt_of_lt_of_le A18.lt gz19)
    refine Gl.go (fun _ k => XS.astore X19.here hx rfl (hb hby at_64) rfl rfl (l' := #[.val (.int n_), .val (.int a), .val (.int b), .val (.int c_), .val (.int d), .val (.int (3 : Int32)), .val (.ref b14), .val (.ref b18), .unset, .unset]) rfl k) ?_
    show Gl p.tables e below (QQof s (Q_law Z n_ a b c_ d h0 n0) 3 12) (T19.setTop (mkF m 66 #[.val (.int n_), .val (.int a), .val (.int b), .val (.int c_), .val (.int d), .val (.int (3 : Int32)), .val (.ref b14), .val (.ref b18), .unset, .unset] []))
    refine Gl.go (fun _ k => XS.aload X19.here hx rfl (hb hby at_66) rfl rfl  k) ?_
    show Gl p.tables e below (QQof s (Q_law Z n_ a b c_ d h0 n0) 3 12) (T19.setTop (mkF m 68 #[.val (.int n_), .val (.int a), .val (.int b), .val (.int c_), .val (.int d), .val (.int (3 : Int32)), .val (.ref b14), .val (.ref b18), .unset, .unset] [(.ref b14)]))
    refine Gl.go (fun _ k => XS.iconst X19.here hx rfl (hb hby at_68) k) ?_
    show Gl p.tables e below (QQof s (Q_law Z n_ a b c_ d h0 n0) 3 12) (T19.setTop (mkF m 69 #[.val (.int n_), .val (.int a), .val (.int b), .val (.int c_), .val (.int d), .val (.int (3 : Int32)), .val (.ref b14), .val (.ref b18), .unset, .unset] [(.int (0 : Int32)), (.ref b14)]))
    refine Gl.go (fun _ k => XS.iloadN X19.here hx rfl (hb hby at_69) rfl  k) ?_
    show Gl p.tables e below (QQof s (Q_law Z n_ a b c_ d h0 n0) 3 12) (T19.setTop (mkF m 70 #[.val (.int n_), .val (.int a), .val (.int b), .val (.int c_), .val (.int d), .val (.int (3 : Int32)), .val (.ref b14), .val (.ref b18), .unset, .unset] [(.int a), (.int (0 : Int32)), (.ref b14)]))
    refine Gl.go (fun _ k => XS.iconst X19.here hx rfl (hb hby at_70) k) ?_
    show Gl p.tables e below (QQof s (Q_law Z n_ a b c_ d h0 n0) 3 12) (T19.setTop (mkF m 71 #[.val (.int n_), .val (.int a), .val (.int b), .val (.int c_), .val (.int d), .val (.int (3 : Int32)), .val (.ref b14), .val (.ref b18), .unset, .unset] [(.int (-1 : Int32)), (.int a), (.int (0 : Int32)), (.ref b14)]))
    refine Gl.go (fun _ k => XS.ixor X19.here hx rfl (hb hby at_71) rfl k) ?_
    show Gl p.tables e below (QQof s (Q_law Z n_ a b c_ d h0 n0) 3 12) (T19.setTop (mkF m 72 #[.val (.int n_), .val (.int a), .val (.int b), .val (.int c_), .val (.int d), .val (.int (3 : Int32)), .val (.ref b14), .val (.ref b18), .unset, .unset] [(.int (a ^^^ (-1 : Int32))), (.int (0 : Int32)), (.ref b14)]))
    obtain ⟨cl20, Ar20, qA20, SA20, NA20, HA20, GA20⟩ := id V_b14_19
    obtain ⟨T20, h20, X20, e20, W20, st20⟩ := stI X19 hx hZ rfl Ar20 (j := (0 : Int32)) (inb_of SA20 ⟨by decide, by decide⟩) (g := (mkF m 72 #[.val (.int n_), .val (.int a), .val (.int b), .val (.int c_), .val (.int d), .val (.int (3 : Int32)), .val (.ref b14), .val (.ref b18), .unset, .unset] [(.int (a ^^^ (-1 : Int32))), (.int (0 : Int32)), (.ref b14)])) rfl rfl (hb hby at_72)
    have E_b14_20 : Exa Z h20 b14 "[I" := E_b14_19.wr W20
    have E_b18_20 : Exa Z h20 b18 "com/example/berthwise/berthwise/model/Placement" := E_b18_19.wr W20
    have F_b18_cranes_20 : Fld Z h20 b18 "com/example/berthwise/berthwise/model/Placement" "cranes" "[I" (.ref cb19) := Fc19.other W20 (Or.inl (Ne.symm ne_b14_b18))
    have V_cb19_20 : Arv Z h20 cb19 cA14 .int (3 : Int32) [(.int a), (.int b), (.int c_)] (.int (0 : Int32)) := Vc19.other W20 (Ne.symm ne_cb19)
    have SZ20 : n0 ≤ h20.size := by rw [Wr.size W20]; exact SZ19
    have K20 : Keep h0 h20 [] := K19.wr W20 (Or.inr sz_b14)
    have N20 := Fr.snoc X20 N19 g_b14
    have V_b14_20 : Arv Z h20 b14 cA14 .int (3 : Int32) [(.int (a ^^^ (-1 : Int32))), (.int b), (.int c_)] (.int (0 : Int32)) := Arv.set Ar20 qA20 SA20 NA20 HA20 GA20 rfl W20 0 rfl (Nat.le_of_ble_eq_true rfl)
    refine Gl.go (fun _ k => st20 _ k) ?_
    show Gl p.tables e below (QQof s (Q_law Z n_ a b c_ d h0 n0) 3 12) (T20.setTop (mkF m 73 #[.val (.int n_), .val (.int a), .val (.int b), .val (.int c_), .val (.int d), .val (.int (3 : Int32)), .val (.ref b14), .val (.ref b18), .unset, .unset] []))
    refine Gl.go (fun _ k => XS.iloadN X20.here hx rfl (hb hby at_73) rfl  k) ?_
    show Gl p.tables e below (QQof s (Q_law Z n_ a b c_ d h0 n0) 3 12) (T20.setTop (mkF m 74 #[.val (.int n_), .val (.int a), .val (.int b), .val (.int c_), .val (.int d), .val (.int (3 : Int32)), .val (.ref b14), .val (.ref b18), .unset, .unset] [(.int a)]))
    refine Gl.go (fun _ k => XS.i2l X20.here hx rfl (hb hby at_74) rfl k) ?_
    show Gl p.tables e below (QQof s (Q_law Z n_ a b c_ d h0 n0) 3 12) (T20.setTop (mkF m 75 #[.val (.int n_), .val (.int a), .val (.int b), .val (.int c_), .val (.int d), .val (.int (3 : Int32)), .val (.ref b14), .val (.ref b18), .unset, .unset] [(.long (a.toInt64))]))
    refine Gl.go (fun _ k => XS.lstore X20.here hx rfl (hb hby at_75) rfl (l' := #[.val (.int n_), .val (.int a), .val (.int b), .val (.int c_), .val (.int d), .val (.int (3 : Int32)), .val (.ref b14), .val (.ref b18), .val (.long (a.toInt64)), .second]) rfl k) ?_
    show Gl p.tables e below (QQof s (Q_law Z n_ a b c_ d h0 n0) 3 12) (T20.setTop (mkF m 77 #[.val (.int n_), .val (.int a), .val (.int b), .val (.int c_), .val (.int d), .val (.int (3 : Int32)), .val (.ref b14), .val (.ref b18), .val (.long (a.toInt64)), .second] []))
    refine Gl.go (fun _ k => XS.iload X20.here hx rfl (hb hby at_77) rfl  k) ?_
    show Gl p.tables e below (QQof s (Q_law Z n_ a b c_ d h0 n0) 3 12) (T20.setTop (mkF m 79 #[.val (.int n_), .val (.int a), .val (.int b), .val (.int c_), .val (.int d), .val (.int (3 : Int32)), .val (.ref b14), .val (.ref b18), .val (.long (a.toInt64)), .second] [(.int (3 : Int32))]))
    refine Gl.go (fun _ k => XS.iconst X20.here hx rfl (hb hby at_79) k) ?_
    show Gl p.tables e below (QQof s (Q_law Z n_ a b c_ d h0 n0) 3 12) (T20.setTop (mkF m 80 #[.val (.int n_), .val (.int a), .val (.int b), .val (.int c_), .val (.int d), .val (.int (3 : Int32)), .val (.ref b14), .val (.ref b18), .val (.long (a.toInt64)), .second] [(.int (2 : Int32)), (.int (3 : Int32))]))
    refine Gl.go (fun _ k => XS.icmpNo X20.here hx rfl (hb hby at_80) rfl (flt (by decide)).1 k) ?_
    show Gl p.tables e below (QQof s (Q_law Z n_ a b c_ d h0 n0) 3 12) (T20.setTop (mkF m 83 #[.val (.int n_), .val (.int a), .val (.int b), .val (.int c_), .val (.int d), .val (.int (3 : Int32)), .val (.ref b14), .val (.ref b18), .val (.long (a.toInt64)), .second] []))
    refine Gl.go (fun _ k => XS.lload X20.here hx rfl (hb hby at_83) rfl  k) ?_
    show Gl p.tables e below (QQof s (Q_law Z n_ a b c_ d h0 n0) 3 12) (T20.setTop (mkF m 85 #[.val (.int n_), .val (.int a), .val (.int b), .val (.int c_), .val (.int d), .val (.int (3 : Int32)), .val (.ref b14), .val (.ref b18), .val (.long (a.toInt64)), .second] [(.long (a.toInt64))]))
    refine Gl.go (fun _ k => XS.iloadN X20.here hx rfl (hb hby at_85) rfl  k) ?_
    show Gl p.tables e below (QQof s (Q_law Z n_ a b c_ d h0 n0) 3 12) (T20.setTop (mkF m 86 #[.val (.int n_), .val (.int a), .val (.int b), .val (.int c_), .val (.int d), .val (.int (3 : Int32)), .val (.ref b14), .val (.ref b18), .val (.long (a.toInt64)), .second] [(.int b), (.long (a.toInt64))]))
    refine Gl.go (fun _ k => XS.i2l X20.here hx rfl (hb hby at_86) rfl k) ?_
    show Gl p.tables e below (QQof s (Q_law Z n_ a b c_ d h0 n0) 3 12) (T20.setTop (mkF m 87 #[.val (.int n_), .val (.int a), .val (.int b), .val (.int c_), .val (.int d), .val (.int (3 : Int32)), .val (.ref b14), .val (.ref b18), .val (.long (a.toInt64)), .second] [(.long (b.toInt64)), (.long (a.toInt64))]))
    refine Gl.go (fun _ k => XS.ladd X20.here hx rfl (hb hby at_87) rfl k) ?_
    show Gl p.tables e below (QQof s (Q_law Z n_ a b c_ d h0 n0) 3 12) (T20.setTop (mkF m 88 #[.val (.int n_), .val (.int a), .val (.int b), .val (.int c_), .val (.int d), .val (.int (3 : Int32)), .val (.ref b14), .val (.ref b18), .val (.long (a.toInt64)), .second] [(.long ((a.toInt64) + (b.toInt64)))]))
    refine Gl.go (fun _ k => XS.lstore X20.here hx rfl (hb hby at_88) rfl (l' := #[.val (.int n_), .val (.int a), .val (.int b), .val (.int c_), .val (.int d), .val (.int (3 : Int32)), .val (.ref b14), .val (.ref b18), .val (.long ((a.toInt64) + (b.toInt64))), .second]) rfl k) ?_
    show Gl p.tables e below (QQof s (Q_law Z n_ a b c_ d h0 n0) 3 12) (T20.setTop (mkF m 90 #[.val (.int n_), .val (.int a), .val (.int b), .val (.int c_), .val (.int d), .val (.int (3 : Int32)), .val (.ref b14), .val (.ref b18), .val (.long ((a.toInt64) + (b.toInt64))), .second] []))
    refine Gl.go (fun _ k => XS.iload X20.here hx rfl (hb hby at_90) rfl  k) ?_
    show Gl p.tables e below (QQof s (Q_law Z n_ a b c_ d h0 n0) 3 12) (T20.setTop (mkF m 92 #[.val (.int n_), .val (.int a), .val (.int b), .val (.int c_), .val (.int d), .val (.int (3 : Int32)), .val (.ref b14), .val (.ref b18), .val (.long ((a.toInt64) + (b.toInt64))), .second] [(.int (3 : Int32))]))
    refine Gl.go (fun _ k => XS.iconst X20.here hx rfl (hb hby at_92) k) ?_
    show Gl p.tables e below (QQof s (Q_law Z n_ a b c_ d h0 n0) 3 12) (T20.setTop (mkF m 93 #[.val (.int n_), .val (.int a), .val (.int b), .val (.int c_), .val (.int d), .val (.int (3 : Int32)), .val (.ref b14), .val (.ref b18), .val (.long ((a.toInt64) + (b.toInt64))), .second] [(.int (3 : Int32)), (.int (3 : Int32))]))
    refine Gl.go (fun _ k => XS.icmpNo X20.here hx rfl (hb hby at_93) rfl (flt (by decide)).1 k) ?_
    show Gl p.tables e below (QQof s (Q_law Z n_ a b c_ d h0 n0) 3 12) (T20.setTop (mkF m 96 #[.val (.int n_), .val (.int a), .val (.int b), .val (.int c_), .val (.int d), .val (.int (3 : Int32)), .val (.ref b14), .val (.ref b18), .val (.long ((a.toInt64) + (b.toInt64))), .second] []))
    refine Gl.go (fun _ k => XS.lload X20.here hx rfl (hb hby at_96) rfl  k) ?_
    show Gl p.tables e below (QQof s (Q_law Z n_ a b c_ d h0 n0) 3 12) (T20.setTop (mkF m 98 #[.val (.int n_), .val (.int a), .val (.int b), .val (.int c_), .val (.int d), .val (.int (3 : Int32)), .val (.ref b14), .val (.ref b18), .val (.long ((a.toInt64) + (b.toInt64))), .second] [(.long ((a.toInt64) + (b.toInt64)))]))
    refine Gl.go (fun _ k => XS.iloadN X20.here hx rfl (hb hby at_98) rfl  k) ?_
    show Gl p.tables e below (QQof s (Q_law Z n_ a b c_ d h0 n0) 3 12) (T20.setTop (mkF m 99 #[.val (.int n_), .val (.int a), .val (.int b), .val (.int c_), .val (.int d), .val (.int (3 : Int32)), .val (.ref b14), .val (.ref b18), .val (.long ((a.toInt64) + (b.toInt64))), .second] [(.int c_), (.long ((a.toInt64) + (b.toInt64)))]))
    refine Gl.go (fun _ k => XS.i2l X20.here hx rfl (hb hby at_99) rfl k) ?_
    show Gl p.tables e below (QQof s (Q_law Z n_ a b c_ d h0 n0) 3 12) (T20.setTop (mkF m 100 #[.val (.int n_), .val (.int a), .val (.int b), .val (.int c_), .val (.int d), .val (.int (3 : Int32)), .val (.ref b14), .val (.ref b18), .val (.long ((a.toInt64) + (b.toInt64))), .second] [(.long (c_.toInt64)), (.long ((a.toInt64) + (b.toInt64)))]))
    refine Gl.go (fun _ k => XS.ladd X20.here hx rfl (hb hby at_100) rfl k) ?_
    show Gl p.tables e below (QQof s (Q_law Z n_ a b c_ d h0 n0) 3 12) (T20.setTop (mkF m 101 #[.val (.int n_), .val (.int a), .val (.int b), .val (.int c_), .val (.int d), .val (.int (3 : Int32)), .val (.ref b14), .val (.ref b18), .val (.long ((a.toInt64) + (b.toInt64))), .second] [(.long (((a.toInt64) + (b.toInt64)) + (c_.toInt64)))]))
    refine Gl.go (fun _ k => XS.lstore X20.here hx rfl (hb hby at_101) rfl (l' := #[.val (.int n_), .val (.int a), .val (.int b), .val (.int c_), .val (.int d), .val (.int (3 : Int32)), .val (.ref b14), .val (.ref b18), .val (.long (((a.toInt64) + (b.toInt64)) + (c_.toInt64))), .second]) rfl k) ?_
    show Gl p.tables e below (QQof s (Q_law Z n_ a b c_ d h0 n0) 3 12) (T20.setTop (mkF m 103 #[.val (.int n_), .val (.int a), .val (.int b), .val (.int c_), .val (.int d), .val (.int (3 : Int32)), .val (.ref b14), .val (.ref b18), .val (.long (((a.toInt64) + (b.toInt64)) + (c_.toInt64))), .second] []))
    refine Gl.go (fun _ k => XS.iload X20.here hx rfl (hb hby at_103) rfl  k) ?_
    show Gl p.tables e below (QQof s (Q_law Z n_ a b c_ d h0 n0) 3 12) (T20.setTop (mkF m 105 #[.val (.int n_), .val (.int a), .val (.int b), .val (.int c_), .val (.int d), .val (.int (3 : Int32)), .val (.ref b14), .val (.ref b18), .val (.long (((a.toInt64) + (b.toInt64)) + (c_.toInt64))), .second] [(.int (3 : Int32))]))
    refine Gl.go (fun _ k => XS.iconst X20.here hx rfl (hb hby at_105) k) ?_
    show Gl p.tables e below (QQof s (Q_law Z n_ a b c_ d h0 n0) 3 12) (T20.setTop (mkF m 106 #[.val (.int n_), .val (.int a), .val (.int b), .val (.int c_), .val (.int d), .val (.int (3 : Int32)), .val (.ref b14), .val (.ref b18), .val (.long (((a.toInt64) + (b.toInt64)) + (c_.toInt64))), .second] [(.int (4 : Int32)), (.int (3 : Int32))]))
    refine Gl.go (fun _ k => XS.icmpYes X20.here hx rfl (pc0 := 106) (pc' := 117) rfl (hb hby at_106) rfl (tlt (by decide)).1 (by decide) (by decide) k) ?_
    show Gl p.tables e below (QQof s (Q_law Z n_ a b c_ d h0 n0) 3 12) (T20.setTop (mkF m 117 #[.val (.int n_), .val (.int a), .val (.int b), .val (.int c_), .val (.int d), .val (.int (3 : Int32)), .val (.ref b14), .val (.ref b18), .val (.long (((a.toInt64) + (b.toInt64)) + (c_.toInt64))), .second] []))
    refine Gl.go (fun _ k => XS.aload X20.here hx rfl (hb hby at_117) rfl rfl  k) ?_
    show Gl p.tables e below (QQof s (Q_law Z n_ a b c_ d h0 n0) 3 12) (T20.setTop (mkF m 119 #[.val (.int n_), .val (.int a), .val (.int b), .val (.int c_), .val (.int d), .val (.int (3 : Int32)), .val (.ref b14), .val (.ref b18), .val (.long (((a.toInt64) + (b.toInt64)) + (c_.toInt64))), .second] [(.ref b18)]))
    obtain ⟨cq21, kq21, q21a, q21b, q21c⟩ := isOf hZ e20 E_b18_20
    obtain ⟨_, _, ⟨T21, L21, k21, n21⟩, -, X21, ⟨Lc21, hQ21, l21, y21, z21⟩, st21⟩ := X20.virtualBack hx (y := (⟨"com/example/berthwise/berthwise/model/Placement", "craneHours", "()J"⟩ : MethodName)) (z := (⟨"com/example/berthwise/berthwise/model/Placement", "craneHours", "()J"⟩ : MethodName)) hown (mvT hZ (hw _ (List.mem_of_getElem? (i := 27) rfl))) (mvT hZ (hw _ (List.mem_of_getElem? (i := 28) rfl))) (notFace_of_selects (args := #[]) (mvT hZ (hw _ (List.mem_of_getElem? (i := 30) rfl)))) (mvT hZ (hw _ (List.mem_of_getElem? (i := 30) rfl))) (mvT hZ (hw _ (List.mem_of_getElem? (i := 29) rfl))) (by decide) (backOf (W := 0) (rm_ch3 l Z a0 hw [] b18 cb19 cA14 a b c_ h20 n0 SZ20 F_b18_cranes_20 V_cb19_20) hZ (hw _ (List.mem_of_getElem? (i := 31) rfl)) (hw _ (List.mem_of_getElem? (i := 3) rfl)) (by decide) (by decide)) q21a q21c (g := (mkF m 119 #[.val (.int n_), .val (.int a), .val (.int b), .val (.int c_), .val (.int d), .val (.int (3 : Int32)), .val (.ref b14), .val (.ref b18), .val (.long (((a.toInt64) + (b.toInt64)) + (c_.toInt64))), .second] [(.ref b18)])) rfl (by rw [hml]; rfl) (Steps.refl _) (argsL := []) (rest := []) (lenOf pd_1 rfl) rfl (by show 2 * 0 + _ ≤ _; exact Nat.le_of_eq rfl) (hb hby at_119) (fun _ _ => ⟨rfl, e20, (by decide : 3 + 0 ≤ _), (by decide : 11 + 0 ≤ _)⟩)
    dsimp only [Pt.U, Pt.locs, Pt.cells, Pt.slots] at X21 l21 y21 z21 st21 hQ21
    subst l21 y21 z21
    obtain ⟨rfl, Nq21, e21⟩ := hQ21
    have N21 := Fr.app N20 Nq21
    refine Gl.go (fun _ k => st21.trans k) ?_
    show Gl p.tables e below (QQof s (Q_law Z n_ a b c_ d h0 n0) 3 12) (T21.setTop (mkF m 122 #[.val (.int n_), .val (.int a), .val (.int b), .val (.int c_), .val (.int d), .val (.int (3 : Int32)), .val (.ref b14), .val (.ref b18), .val (.long (((a.toInt64) + (b.toInt64)) + (c_.toInt64))), .second] [(.long (adL (adL (adL (0 : Int64) a) b) c_))]))
    refine Gl.go (fun _ k => XS.lload X21.here hx rfl (hb hby at_122) rfl  k) ?_
    show Gl p.tables e below (QQof s (Q_law Z n_ a b c_ d h0 n0) 3 12) (T21.setTop (mkF m 124 #[.val (.int n_), .val (.int a), .val (.int b), .val (.int c_), .val (.int d), .val (.int (3 : Int32)), .val (.ref b14), .val (.ref b18), .val (.long (((a.toInt64) + (b.toInt64)) + (c_.toInt64))), .second] [(.long (((a.toInt64) + (b.toInt64)) + (c_.toInt64))), (.long (adL (adL (adL (0 : Int64) a) b) c_))]))
    refine Gl.go (fun _ k => XS.lcmp X21.here hx rfl (hb hby at_124) rfl k) ?_
    show Gl p.tables e below (QQof s (Q_law Z n_ a b c_ d h0 n0) 3 12) (T21.setTop (mkF m 125 #[.val (.int n_), .val (.int a), .val (.int b), .val (.int c_), .val (.int d), .val (.int (3 : Int32)), .val (.ref b14), .val (.ref b18), .val (.long (((a.toInt64) + (b.toInt64)) + (c_.toInt64))), .second] [(.int (lcmpW (adL (adL (adL (0 : Int64) a) b) c_) (((a.toInt64) + (b.toInt64)) + (c_.toInt64))))]))
    refine Gl.go (fun _ k => XS.ifNo X21.here hx rfl (hb hby at_125) rfl ((if0 _ _).trans (teq (by rw [lcW, lc_eq, own_z] <;> rfl)).2) k) ?_
    show Gl p.tables e below (QQof s (Q_law Z n_ a b c_ d h0 n0) 3 12) (T21.setTop (mkF m 128 #[.val (.int n_), .val (.int a), .val (.int b), .val (.int c_), .val (.int d), .val (.int (3 : Int32)), .val (.ref b14), .val (.ref b18), .val (.long (((a.toInt64) + (b.toInt64)) + (c_.toInt64))), .second] []))
    refine Gl.go (fun _ k => XS.iconst X21.here hx rfl (hb hby at_128) k) ?_
    show Gl p.tables e below (QQof s (Q_law Z n_ a b c_ d h0 n0) 3 12) (T21.setTop (mkF m 129 #[.val (.int n_), .val (.int a), .val (.int b), .val (.int c_), .val (.int d), .val (.int (3 : Int32)), .val (.ref b14), .val (.ref b18), .val (.long (((a.toInt64) + (b.toInt64)) + (c_.toInt64))), .second] [(.int (1 : Int32))]))
    refine Gl.go (fun _ k => XS.goto X21.here hx rfl (pc0 := 129) (pc' := 133) rfl (hb hby at_129) (by decide) (by decide) k) ?_
    show Gl p.tables e below (QQof s (Q_law Z n_ a b c_ d h0 n0) 3 12) (T21.setTop (mkF m 133 #[.val (.int n_), .val (.int a), .val (.int b), .val (.int c_), .val (.int d), .val (.int (3 : Int32)), .val (.ref b14), .val (.ref b18), .val (.long (((a.toInt64) + (b.toInt64)) + (c_.toInt64))), .second] [(.int (1 : Int32))]))
    refine leafN X21 hx hlk (t := .boolean) Bd.returns (by simp) (hb hby at_133) ?_ (by decide) (by decide)
    exact ⟨rfl, N21⟩
  · skip
    rw [(hl : ((n_ &&& (3 : Int32)) + (1 : Int32)) = (4 : Int32))]
    show Gl p.tables e below (QQof s (Q_law Z n_ a b c_ d h0 n0) 3 12) (s₁.setTop (mkF m 5 #[.val (.int n_), .val (.int a), .val (.int b), .val (.int c_), .val (.int d), .unset, .unset, .unset, .unset, .unset] [(.int (4 : Int32))]))
    refine Gl.go (fun _ k => XS.istore X0.here hx rfl (hb hby at_5) rfl (l' := #[.val (.int n_), .val (.int a), .val (.int b), .val (.int c_), .val (.int d), .val (.int (4 : Int32)), .unset, .unset, .unset, .unset]) rfl k) ?_
    show Gl p.tables e below (QQof s (Q_law Z n_ a b c_ d h0 n0) 3 12) (s₁.setTop (mkF m 7 #[.val (.int n_), .val (.int a), .val (.int b), .val (.int c_), .val (.int d), .val (.int (4 : Int32)), .unset, .unset, .unset, .unset] []))
    refine Gl.go (fun _ k => XS.iload X0.here hx rfl (hb hby at_7) rfl  k) ?_
    show Gl p.tables e below (QQof s (Q_law Z n_ a b c_ d h0 n0) 3 12) (s₁.setTop (mkF m 9 #[.val (.int n_), .val (.int a), .val (.int b), .val (.int c_), .val (.int d), .val (.int (4 : Int32)), .unset, .unset, .unset, .unset] [(.int (4 : Int32))]))
    obtain ⟨T22, h22, cA22, X22, e22, E22, A22, Y22, st22⟩ := newPE X0 hx hZ (hw _ (List.mem_of_getElem? (i := 0) rfl)) e0 (g := (mkF m 9 #[.val (.int n_), .val (.int a), .val (.int b), .val (.int c_), .val (.int d), .val (.int (4 : Int32)), .unset, .unset, .unset, .unset] [(.int (4 : Int32))])) rfl (hb hby at_9) rfl (by decide) (cap := 4) (by decide) (by decide) (by decide) (by decide) (ad := "[I") (by decide)
    obtain ⟨b22, g22⟩ : ∃ z, z = h0.size := ⟨_, rfl⟩
    rw [← g22] at A22 Y22 st22
    have g_b22 : n0 ≤ b22 := Nat.le_trans Z0 (Nat.le_of_eq g22.symm)
    have sz_b22 : h0.size ≤ b22 := Nat.le_trans K0.1 (Nat.le_of_eq g22.symm)
    have SZ22 : n0 ≤ h22.size := Nat.le_trans Z0 E22.1
    have K22 : Keep h0 h22 [] := K0.ext E22
    have V_b22_22 : Arv Z h22 b22 cA22 .int (4 : Int32) [(.int (0 : Int32)), (.int (0 : Int32)), (.int (0 : Int32)), (.int (0 : Int32))] (.int (0 : Int32)) := (Arv.new A22 (by decide)).pad (pad_rep [] _ 4)
    refine Gl.go (fun _ k => st22 _ k) ?_
    show Gl p.tables e below (QQof s (Q_law Z n_ a b c_ d h0 n0) 3 12) (T22.setTop (mkF m 11 #[.val (.int n_), .val (.int a), .val (.int b), .val (.int c_), .val (.int d), .val (.int (4 : Int32)), .unset, .unset, .unset, .unset] [(.ref b22)]))
    refine Gl.go (fun _ k => XS.astore X22.here hx rfl (hb hby at_11) rfl rfl (l' := #[.val (.int n_), .val (.int a), .val (.int b), .val (.int c_), .val (.int d), .val (.int (4 : Int32)), .val (.ref b22), .unset, .unset, .unset]) rfl k) ?_
    show Gl p.tables e below (QQof s (Q_law Z n_ a b c_ d h0 n0) 3 12) (T22.setTop (mkF m 13 #[.val (.int n_), .val (.int a), .val (.int b), .val (.int c_), .val (.int d), .val (.int (4 : Int32)), .val (.ref b22), .unset, .unset, .unset] []))
    refine Gl.go (fun _ k => XS.aload X22.here hx rfl (hb hby at_13) rfl rfl  k) ?_
    show Gl p.tables e below (QQof s (Q_law Z n_ a b c_ d h0 n0) 3 12) (T22.setTop (mkF m 15 #[.val (.int n_), .val (.int a), .val (.int b), .val (.int c_), .val (.int d), .val (.int (4 : Int32)), .val (.ref b22), .unset, .unset, .unset] [(.ref b22)]))
    refine Gl.go (fun _ k => XS.iconst X22.here hx rfl (hb hby at_15) k) ?_
    show Gl p.tables e below (QQof s (Q_law Z n_ a b c_ d h0 n0) 3 12) (T22.setTop (mkF m 16 #[.val (.int n_), .val (.int a), .val (.int b), .val (.int c_), .val (.int d), .val (.int (4 : Int32)), .val (.ref b22), .unset, .unset, .unset] [(.int (0 : Int32)), (.ref b22)]))
    refine Gl.go (fun _ k => XS.iloadN X22.here hx rfl (hb hby at_16) rfl  k) ?_
    show Gl p.tables e below (QQof s (Q_law Z n_ a b c_ d h0 n0) 3 12) (T22.setTop (mkF m 17 #[.val (.int n_), .val (.int a), .val (.int b), .val (.int c_), .val (.int d), .val (.int (4 : Int32)), .val (.ref b22), .unset, .unset, .unset] [(.int a), (.int (0 : Int32)), (.ref b22)]))
    obtain ⟨cl23, Ar23, qA23, SA23, NA23, HA23, GA23⟩ := id V_b22_22
    obtain ⟨T23, h23, X23, e23, W23, st23⟩ := stI X22 hx hZ e22 Ar23 (j := (0 : Int32)) (inb_of SA23 ⟨by decide, by decide⟩) (g := (mkF m 17 #[.val (.int n_), .val (.int a), .val (.int b), .val (.int c_), .val (.int d), .val (.int (4 : Int32)), .val (.ref b22), .unset, .unset, .unset] [(.int a), (.int (0 : Int32)), (.ref b22)])) rfl rfl (hb hby at_17)
    have E_b22_23 : Exa Z h23 b22 "[I" := Y22.wr W23
    have SZ23 : n0 ≤ h23.size := by rw [Wr.size W23]; exact SZ22
    have K23 : Keep h0 h23 [] := K22.wr W23 (Or.inr sz_b22)
    have N23 := Fr.snoc X23 N0 g_b22
    have V_b22_23 : Arv Z h23 b22 cA22 .int (4 : Int32) [(.int a), (.int (0 : Int32)), (.int (0 : Int32)), (.int (0 : Int32))] (.int (0 : Int32)) := Arv.set Ar23 qA23 SA23 NA23 HA23 GA23 rfl W23 0 rfl (Nat.le_of_ble_eq_true rfl)
    refine Gl.go (fun _ k => st23 _ k) ?_
    show Gl p.tables e below (QQof s (Q_law Z n_ a b c_ d h0 n0) 3 12) (T23.setTop (mkF m 18 #[.val (.int n_), .val (.int a), .val (.int b), .val (.int c_), .val (.int d), .val (.int (4 : Int32)), .val (.ref b22), .unset, .unset, .unset] []))
    refine Gl.go (fun _ k => XS.iload X23.here hx rfl (hb hby at_18) rfl  k) ?_
    show Gl p.tables e below (QQof s (Q_law Z n_ a b c_ d h0 n0) 3 12) (T23.setTop (mkF m 20 #[.val (.int n_), .val (.int a), .val (.int b), .val (.int c_), .val (.int d), .val (.int (4 : Int32)), .val (.ref b22), .unset, .unset, .unset] [(.int (4 : Int32))]))
    refine Gl.go (fun _ k => XS.iconst X23.here hx rfl (hb hby at_20) k) ?_
    show Gl p.tables e below (QQof s (Q_law Z n_ a b c_ d h0 n0) 3 12) (T23.setTop (mkF m 21 #[.val (.int n_), .val (.int a), .val (.int b), .val (.int c_), .val (.int d), .val (.int (4 : Int32)), .val (.ref b22), .unset, .unset, .unset] [(.int (2 : Int32)), (.int (4 : Int32))]))
    refine Gl.go (fun _ k => XS.icmpNo X23.here hx rfl (hb hby at_21) rfl (flt (by decide)).1 k) ?_
    show Gl p.tables e below (QQof s (Q_law Z n_ a b c_ d h0 n0) 3 12) (T23.setTop (mkF m 24 #[.val (.int n_), .val (.int a), .val (.int b), .val (.int c_), .val (.int d), .val (.int (4 : Int32)), .val (.ref b22), .unset, .unset, .unset] []))
    refine Gl.go (fun _ k => XS.aload X23.here hx rfl (hb hby at_24) rfl rfl  k) ?_
    show Gl p.tables e below (QQof s (Q_law Z n_ a b c_ d h0 n0) 3 12) (T23.setTop (mkF m 26 #[.val (.int n_), .val (.int a), .val (.int b), .val (.int c_), .val (.int d), .val (.int (4 : Int32)), .val (.ref b22), .unset, .unset, .unset] [(.ref b22)]))
    refine Gl.go (fun _ k => XS.iconst X23.here hx rfl (hb hby at_26) k) ?_
    show Gl p.tables e below (QQof s (Q_law Z n_ a b c_ d h0 n0) 3 12) (T23.setTop (mkF m 27 #[.val (.int n_), .val (.int a), .val (.int b), .val (.int c_), .val (.int d), .val (.int (4 : Int32)), .val (.ref b22), .unset, .unset, .unset] [(.int (1 : Int32)), (.ref b22)]))
    refine Gl.go (fun _ k => XS.iloadN X23.here hx rfl (hb hby at_27) rfl  k) ?_
    show Gl p.tables e below (QQof s (Q_law Z n_ a b c_ d h0 n0) 3 12) (T23.setTop (mkF m 28 #[.val (.int n_), .val (.int a), .val (.int b), .val (.int c_), .val (.int d), .val (.int (4 : Int32)), .val (.ref b22), .unset, .unset, .unset] [(.int b), (.int (1 : Int32)), (.ref b22)]))
    obtain ⟨cl24, Ar24, qA24, SA24, NA24, HA24, GA24⟩ := id V_b22_23
    obtain ⟨T24, h24, X24, e24, W24, st24⟩ := stI X23 hx hZ e23 Ar24 (j := (1 : Int32)) (inb_of SA24 ⟨by decide, by decide⟩) (g := (mkF m 28 #[.val (.int n_), .val (.int a), .val (.int b), .val (.int c_), .val (.int d), .val (.int (4 : Int32)), .val (.ref b22), .unset, .unset, .unset] [(.int b), (.int (1 : Int32)), (.ref b22)])) rfl rfl (hb hby at_28)
    have E_b22_24 : Exa Z h24 b22 "[I" := E_b22_23.wr W24
    have SZ24 : n0 ≤ h24.size := by rw [Wr.size W24]; exact SZ23
    have K24 : Keep h0 h24 [] := K23.wr W24 (Or.inr sz_b22)
    have N24 := Fr.snoc X24 N23 g_b22
    have V_b22_24 : Arv Z h24 b22 cA22 .int (4 : Int32) [(.int a), (.int b), (.int (0 : Int32)), (.int (0 : Int32))] (.int (0 : Int32)) := Arv.set Ar24 qA24 SA24 NA24 HA24 GA24 rfl W24 1 rfl (Nat.le_of_ble_eq_true rfl)
    refine Gl.go (fun _ k => st24 _ k) ?_
    show Gl p.tables e below (QQof s (Q_law Z n_ a b c_ d h0 n0) 3 12) (T24.setTop (mkF m 29 #[.val (.int n_), .val (.int a), .val (.int b), .val (.int c_), .val (.int d), .val (.int (4 : Int32)), .val (.ref b22), .unset, .unset, .unset] []))
    refine Gl.go (fun _ k => XS.iload X24.here hx rfl (hb hby at_29) rfl  k) ?_
    show Gl p.tables e below (QQof s (Q_law Z n_ a b c_ d h0 n0) 3 12) (T24.setTop (mkF m 31 #[.val (.int n_), .val (.int a), .val (.int b), .val (.int c_), .val (.int d), .val (.int (4 : Int32)), .val (.ref b22), .unset, .unset, .unset] [(.int (4 : Int32))]))
    refine Gl.go (fun _ k => XS.iconst X24.here hx rfl (hb hby at_31) k) ?_
    show Gl p.tables e below (QQof s (Q_law Z n_ a b c_ d h0 n0) 3 12) (T24.setTop (mkF m 32 #[.val (.int n_), .val (.int a), .val (.int b), .val (.int c_), .val (.int d), .val (.int (4 : Int32)), .val (.ref b22), .unset, .unset, .unset] [(.int (3 : Int32)), (.int (4 : Int32))]))
    refine Gl.go (fun _ k => XS.icmpNo X24.here hx rfl (hb hby at_32) rfl (flt (by decide)).1 k) ?_
    show Gl p.tables e below (QQof s (Q_law Z n_ a b c_ d h0 n0) 3 12) (T24.setTop (mkF m 35 #[.val (.int n_), .val (.int a), .val (.int b), .val (.int c_), .val (.int d), .val (.int (4 : Int32)), .val (.ref b22), .unset, .unset, .unset] []))
    refine Gl.go (fun _ k => XS.aload X24.here hx rfl (hb hby at_35) rfl rfl  k) ?_
    show Gl p.tables e below (QQof s (Q_law Z n_ a b c_ d h0 n0) 3 12) (T24.setTop (mkF m 37 #[.val (.int n_), .val (.int a), .val (.int b), .val (.int c_), .val (.int d), .val (.int (4 : Int32)), .val (.ref b22), .unset, .unset, .unset] [(.ref b22)]))
    refine Gl.go (fun _ k => XS.iconst X24.here hx rfl (hb hby at_37) k) ?_
    show Gl p.tables e below (QQof s (Q_law Z n_ a b c_ d h0 n0) 3 12) (T24.setTop (mkF m 38 #[.val (.int n_), .val (.int a), .val (.int b), .val (.int c_), .val (.int d), .val (.int (4 : Int32)), .val (.ref b22), .unset, .unset, .unset] [(.int (2 : Int32)), (.ref b22)]))
    refine Gl.go (fun _ k => XS.iloadN X24.here hx rfl (hb hby at_38) rfl  k) ?_
    show Gl p.tables e below (QQof s (Q_law Z n_ a b c_ d h0 n0) 3 12) (T24.setTop (mkF m 39 #[.val (.int n_), .val (.int a), .val (.int b), .val (.int c_), .val (.int d), .val (.int (4 : Int32)), .val (.ref b22), .unset, .unset, .unset] [(.int c_), (.int (2 : Int32)), (.ref b22)]))
    obtain ⟨cl25, Ar25, qA25, SA25, NA25, HA25, GA25⟩ := id V_b22_24
    obtain ⟨T25, h25, X25, e25, W25, st25⟩ := stI X24 hx hZ e24 Ar25 (j := (2 : Int32)) (inb_of SA25 ⟨by decide, by decide⟩) (g := (mkF m 39 #[.val (.int n_), .val (.int a), .val (.int b), .val (.int c_), .val (.int d), .val (.int (4 : Int32)), .val (.ref b22), .unset, .unset, .unset] [(.int c_), (.int (2 : Int32)), (.ref b22)])) rfl rfl (hb hby at_39)
    have E_b22_25 : Exa Z h25 b22 "[I" := E_b22_24.wr W25
    have SZ25 : n0 ≤ h25.size := by rw [Wr.size W25]; exact SZ24
    have K25 : Keep h0 h25 [] := K24.wr W25 (Or.inr sz_b22)
    have N25 := Fr.snoc X25 N24 g_b22
    have V_b22_25 : Arv Z h25 b22 cA22 .int (4 : Int32) [(.int a), (.int b), (.int c_), (.int (0 : Int32))] (.int (0 : Int32)) := Arv.set Ar25 qA25 SA25 NA25 HA25 GA25 rfl W25 2 rfl (Nat.le_of_ble_eq_true rfl)
    refine Gl.go (fun _ k => st25 _ k) ?_
    show Gl p.tables e below (QQof s (Q_law Z n_ a b c_ d h0 n0) 3 12) (T25.setTop (mkF m 40 #[.val (.int n_), .val (.int a), .val (.int b), .val (.int c_), .val (.int d), .val (.int (4 : Int32)), .val (.ref b22), .unset, .unset, .unset] []))
    refine Gl.go (fun _ k => XS.iload X25.here hx rfl (hb hby at_40) rfl  k) ?_
    show Gl p.tables e below (QQof s (Q_law Z n_ a b c_ d h0 n0) 3 12) (T25.setTop (mkF m 42 #[.val (.int n_), .val (.int a), .val (.int b), .val (.int c_), .val (.int d), .val (.int (4 : Int32)), .val (.ref b22), .unset, .unset, .unset] [(.int (4 : Int32))]))
    refine Gl.go (fun _ k => XS.iconst X25.here hx rfl (hb hby at_42) k) ?_
    show Gl p.tables e below (QQof s (Q_law Z n_ a b c_ d h0 n0) 3 12) (T25.setTop (mkF m 43 #[.val (.int n_), .val (.int a), .val (.int b), .val (.int c_), .val (.int d), .val (.int (4 : Int32)), .val (.ref b22), .unset, .unset, .unset] [(.int (4 : Int32)), (.int (4 : Int32))]))
    refine Gl.go (fun _ k => XS.icmpNo X25.here hx rfl (hb hby at_43) rfl (flt (by decide)).1 k) ?_
    show Gl p.tables e below (QQof s (Q_law Z n_ a b c_ d h0 n0) 3 12) (T25.setTop (mkF m 46 #[.val (.int n_), .val (.int a), .val (.int b), .val (.int c_), .val (.int d), .val (.int (4 : Int32)), .val (.ref b22), .unset, .unset, .unset] []))
    refine Gl.go (fun _ k => XS.aload X25.here hx rfl (hb hby at_46) rfl rfl  k) ?_
    show Gl p.tables e below (QQof s (Q_law Z n_ a b c_ d h0 n0) 3 12) (T25.setTop (mkF m 48 #[.val (.int n_), .val (.int a), .val (.int b), .val (.int c_), .val (.int d), .val (.int (4 : Int32)), .val (.ref b22), .unset, .unset, .unset] [(.ref b22)]))
    refine Gl.go (fun _ k => XS.iconst X25.here hx rfl (hb hby at_48) k) ?_
    show Gl p.tables e below (QQof s (Q_law Z n_ a b c_ d h0 n0) 3 12) (T25.setTop (mkF m 49 #[.val (.int n_), .val (.int a), .val (.int b), .val (.int c_), .val (.int d), .val (.int (4 : Int32)), .val (.ref b22), .unset, .unset, .unset] [(.int (3 : Int32)), (.ref b22)]))
    refine Gl.go (fun _ k => XS.iload X25.here hx rfl (hb hby at_49) rfl  k) ?_
    show Gl p.tables e below (QQof s (Q_law Z n_ a b c_ d h0 n0) 3 12) (T25.setTop (mkF m 51 #[.val (.int n_), .val (.int a), .val (.int b), .val (.int c_), .val (.int d), .val (.int (4 : Int32)), .val (.ref b22), .unset, .unset, .unset] [(.int d), (.int (3 : Int32)), (.ref b22)]))
    obtain ⟨cl26, Ar26, qA26, SA26, NA26, HA26, GA26⟩ := id V_b22_25
    obtain ⟨T26, h26, X26, e26, W26, st26⟩ := stI X25 hx hZ e25 Ar26 (j := (3 : Int32)) (inb_of SA26 ⟨by decide, by decide⟩) (g := (mkF m 51 #[.val (.int n_), .val (.int a), .val (.int b), .val (.int c_), .val (.int d), .val (.int (4 : Int32)), .val (.ref b22), .unset, .unset, .unset] [(.int d), (.int (3 : Int32)), (.ref b22)])) rfl rfl (hb hby at_51)
    have E_b22_26 : Exa Z h26 b22 "[I" := E_b22_25.wr W26
    have SZ26 : n0 ≤ h26.size := by rw [Wr.size W26]; exact SZ25
    have K26 : Keep h0 h26 [] := K25.wr W26 (Or.inr sz_b22)
    have N26 := Fr.snoc X26 N25 g_b22
    have V_b22_26 : Arv Z h26 b22 cA22 .int (4 : Int32) [(.int a), (.int b), (.int c_), (.int d)] (.int (0 : Int32)) := Arv.set Ar26 qA26 SA26 NA26 HA26 GA26 rfl W26 3 rfl (Nat.le_of_ble_eq_true rfl)
    refine Gl.go (fun _ k => st26 _ k) ?_
    show Gl p.tables e below (QQof s (Q_law Z n_ a b c_ d h0 n0) 3 12) (T26.setTop (mkF m 52 #[.val (.int n_), .val (.int a), .val (.int b), .val (.int c_), .val (.int d), .val (.int (4 : Int32)), .val (.ref b22), .unset, .unset, .unset] []))
    obtain ⟨T27, h27, X27, e27, E27, A27, D27, -, st27⟩ := newO X26 hx hZ hown (hw _ (List.mem_of_getElem? (i := 1) rfl)) (hw _ (List.mem_of_getElem? (i := 2) rfl)) (hw _ (List.mem_of_getElem? (i := 3) rfl)) e26 (g := (mkF m 52 #[.val (.int n_), .val (.int a), .val (.int b), .val (.int c_), .val (.int d), .val (.int (4 : Int32)), .val (.ref b22), .unset, .unset, .unset] [])) rfl (hb hby at_52) (by decide) (by decide)
    obtain ⟨b27, g27⟩ : ∃ z, z = h26.size := ⟨_, rfl⟩
    rw [← g27] at A27 D27 st27
    have g_b27 : n0 ≤ b27 := Nat.le_trans SZ26 (Nat.le_of_eq g27.symm)
    have sz_b27 : h0.size ≤ b27 := Nat.le_trans K26.1 (Nat.le_of_eq g27.symm)
    have ne_b22_b27 : b22 ≠ b27 := Nat.ne_of_lt (Nat.lt_of_lt_of_le E_b22_26.lt (Nat.le_of_eq g27.symm))
    have E_b22_27 : Exa Z h27 b22 "[I" := E_b22_26.ext E27
    have V_b22_27 : Arv Z h27 b22 cA22 .int (4 : Int32) [(.int a), (.int b), (.int c_), (.int d)] (.int (0 : Int32)) := V_b22_26.ext E27
    have SZ27 : n0 ≤ h27.size := Nat.le_trans SZ26 E27.1
    have K27 : Keep h0 h27 [] := K26.ext E27
    have F_b27_vessel_27 : Fld Z h27 b27 "com/example/berthwise/berthwise/model/Placement" "vessel" "Lcom/example/berthwise/berthwise/model/Vessel;" .null := D27 (Or.inr (hw _ (List.mem_of_getElem? (i := 11) rfl))) (ty := (.object "com/example/berthwise/berthwise/model/Vessel")) (by decide)
    have F_b27_start_27 : Fld Z h27 b27 "com/example/berthwise/berthwise/model/Placement" "start" "I" (.int (0 : Int32)) := D27 (Or.inr (hw _ (List.mem_of_getElem? (i := 13) rfl))) (ty := .int) (by decide)
    have F_b27_position_27 : Fld Z h27 b27 "com/example/berthwise/berthwise/model/Placement" "position" "I" (.int (0 : Int32)) := D27 (Or.inr (hw _ (List.mem_of_getElem? (i := 15) rfl))) (ty := .int) (by decide)
    have F_b27_cranes_27 : Fld Z h27 b27 "com/example/berthwise/berthwise/model/Placement" "cranes" "[I" .null := D27 (Or.inr (hw _ (List.mem_of_getElem? (i := 26) rfl))) (ty := (.array .int)) (by decide)
    refine Gl.go (fun _ k => st27 _ k) ?_
    show Gl p.tables e below (QQof s (Q_law Z n_ a b c_ d h0 n0) 3 12) (T27.setTop (mkF m 55 #[.val (.int n_), .val (.int a), .val (.int b), .val (.int c_), .val (.int d), .val (.int (4 : Int32)), .val (.ref b22), .unset, .unset, .unset] [(.ref b27)]))
    refine Gl.go (fun _ k => XS.dup X27.here hx rfl (hb hby at_55) rfl rfl k) ?_
    show Gl p.tables e below (QQof s (Q_law Z n_ a b c_ d h0 n0) 3 12) (T27.setTop (mkF m 56 #[.val (.int n_), .val (.int a), .val (.int b), .val (.int c_), .val (.int d), .val (.int (4 : Int32)), .val (.ref b22), .unset, .unset, .unset] [(.ref b27), (.ref b27)]))
    refine Gl.go (fun _ k => XS.aconstNull X27.here hx rfl (hb hby at_56) k) ?_
    show Gl p.tables e below (QQof s (Q_law Z n_ a b c_ d h0 n0) 3 12) (T27.setTop (mkF m 57 #[.val (.int n_), .val (.int a), .val (.int b), .val (.int c_), .val (.int d), .val (.int (4 : Int32)), .val (.ref b22), .unset, .unset, .unset] [.null, (.ref b27), (.ref b27)]))
    refine Gl.go (fun _ k => XS.iloadN X27.here hx rfl (hb hby at_57) rfl  k) ?_
    show Gl p.tables e below (QQof s (Q_law Z n_ a b c_ d h0 n0) 3 12) (T27.setTop (mkF m 58 #[.val (.int n_), .val (.int a), .val (.int b), .val (.int c_), .val (.int d), .val (.int (4 : Int32)), .val (.ref b22), .unset, .unset, .unset] [(.int n_), .null, (.ref b27), (.ref b27)]))
    refine Gl.go (fun _ k => XS.iloadN X27.here hx rfl (hb hby at_58) rfl  k) ?_
    show Gl p.tables e below (QQof s (Q_law Z n_ a b c_ d h0 n0) 3 12) (T27.setTop (mkF m 59 #[.val (.int n_), .val (.int a), .val (.int b), .val (.int c_), .val (.int d), .val (.int (4 : Int32)), .val (.ref b22), .unset, .unset, .unset] [(.int a), (.int n_), .null, (.ref b27), (.ref b27)]))
    refine Gl.go (fun _ k => XS.aload X27.here hx rfl (hb hby at_59) rfl rfl  k) ?_
    show Gl p.tables e below (QQof s (Q_law Z n_ a b c_ d h0 n0) 3 12) (T27.setTop (mkF m 61 #[.val (.int n_), .val (.int a), .val (.int b), .val (.int c_), .val (.int d), .val (.int (4 : Int32)), .val (.ref b22), .unset, .unset, .unset] [(.ref b22), (.int a), (.int n_), .null, (.ref b27), (.ref b27)]))
    obtain ⟨_, _, ⟨T28, L28, k28, n28⟩, -, X28, ⟨Lc28, hQ28, l28, y28, z28⟩, st28⟩ := X27.specialBack hx (y := (⟨"com/example/berthwise/berthwise/model/Placement", "<init>", "(Lcom/example/berthwise/berthwise/model/Vessel;II[I)V"⟩ : MethodName)) rfl hown (mvT hZ (hw _ (List.mem_of_getElem? (i := 4) rfl))) (mvT hZ (hw _ (List.mem_of_getElem? (i := 5) rfl))) (mvT hZ (hw _ (List.mem_of_getElem? (i := 6) rfl))) (by decide) (backOf (W := 1) (rm_ini l Z a0 hw [] b27 b22 n_ a cA22 (4 : Int32) [(.int a), (.int b), (.int c_), (.int d)] .null (.int 0) (.int 0) .null h27 n0 SZ27 (by decide) (by decide) A27 F_b27_vessel_27 F_b27_start_27 F_b27_position_27 F_b27_cranes_27 g_b27 V_b22_27 E_b22_27 ne_b22_b27) hZ (hw _ (List.mem_of_getElem? (i := 6) rfl)) (hw _ (List.mem_of_getElem? (i := 3) rfl)) (by decide) (by decide)) (g := (mkF m 61 #[.val (.int n_), .val (.int a), .val (.int b), .val (.int c_), .val (.int d), .val (.int (4 : Int32)), .val (.ref b22), .unset, .unset, .unset] [(.ref b22), (.int a), (.int n_), .null, (.ref b27), (.ref b27)])) rfl (by rw [hml]; rfl) (Steps.refl _) (a := b27) (argsL := [.null, (.int n_), (.int a), (.ref b22)]) (rest := [(.ref b27)]) (lenOf pd_0 rfl) rfl (by show 2 * 0 + _ ≤ _; exact Nat.le_of_eq rfl) (hb hby at_61) (fun _ _ => ⟨rfl, e27, (by decide : 2 + 1 ≤ _), (by decide : 8 + 4 ≤ _)⟩)
    dsimp only [Pt.U, Pt.locs, Pt.cells, Pt.slots] at X28 l28 y28 z28 st28 hQ28
    subst l28 y28 z28
    obtain ⟨cb28, rfl, Nq28, Kc28, gz28, Ec28, Fc28, Vc28⟩ := hQ28
    have N28 := Fr.app N26 Nq28
    refine Gl.go (fun _ k => st28.trans k) ?_
    have E_b22_28 : Exa Z T28.heap b22 "[I" := E_b22_27.keep Kc28
    have V_b22_28 : Arv Z T28.heap b22 cA22 .int (4 : Int32) [(.int a), (.int b), (.int c_), (.int d)] (.int (0 : Int32)) := V_b22_27.keep Kc28 (ninS ne_b22_b27 nin0)
    have E_b27_28 : Exa Z T28.heap b27 "com/example/berthwise/berthwise/model/Placement" := A27.keep Kc28
    have SZ28 : n0 ≤ T28.heap.size := Nat.le_trans SZ27 Kc28.1
    have K28 : Keep h0 T28.heap [] := K27.trans Kc28 (allS (Or.inr sz_b27) all0)
    show Gl p.tables e below (QQof s (Q_law Z n_ a b c_ d h0 n0) 3 12) (T28.setTop (mkF m 64 #[.val (.int n_), .val (.int a), .val (.int b), .val (.int c_), .val (.int d), .val (.int (4 : Int32)), .val (.ref b22), .unset, .unset, .unset] [(.ref b27)]))
    have ne_cb28 : b22 ≠ cb28 := Nat.ne_of_lt (Nat.lt_of_lt_of_le V_b22_27.lt gz28)
    have ne_cc28 : b27 ≠ cb28 := Nat.ne_of_lt (Nat.lt_of_lt_of_le A27.lt gz28)
    refine Gl.go (fun _ k => XS.astore X28.here hx rfl (hb hby at_64) rfl rfl (l' := #[.val (.int n_), .val (.int a), .val (.int b), .val (.int c_), .val (.int d), .val (.int (4 : Int32)), .val (.ref b22), .val (.ref b27), .unset, .unset]) rfl k) ?_
    show Gl p.tables e below (QQof s (Q_law Z n_ a b c_ d h0 n0) 3 12) (T28.setTop (mkF m 66 #[.val (.int n_), .val (.int a), .val (.int b), .val (.int c_), .val (.int d), .val (.int (4 : Int32)), .val (.ref b22), .val (.ref b27), .unset, .unset] []))
    refine Gl.go (fun _ k => XS.aload X28.here hx rfl (hb hby at_66) rfl rfl  k) ?_
    show Gl p.tables e below (QQof s (Q_law Z n_ a b c_ d h0 n0) 3 12) (T28.setTop (mkF m 68 #[.val (.int n_), .val (.int a), .val (.int b), .val (.int c_), .val (.int d), .val (.int (4 : Int32)), .val (.ref b22), .val (.ref b27), .unset, .unset] [(.ref b22)]))
    refine Gl.go (fun _ k => XS.iconst X28.here hx rfl (hb hby at_68) k) ?_
    show Gl p.tables e below (QQof s (Q_law Z n_ a b c_ d h0 n0) 3 12) (T28.setTop (mkF m 69 #[.val (.int n_), .val (.int a), .val (.int b), .val (.int c_), .val (.int d), .val (.int (4 : Int32)), .val (.ref b22), .val (.ref b27), .unset, .unset] [(.int (0 : Int32)), (.ref b22)]))
    refine Gl.go (fun _ k => XS.iloadN X28.here hx rfl (hb hby at_69) rfl  k) ?_
    show Gl p.tables e below (QQof s (Q_law Z n_ a b c_ d h0 n0) 3 12) (T28.setTop (mkF m 70 #[.val (.int n_), .val (.int a), .val (.int b), .val (.int c_), .val (.int d), .val (.int (4 : Int32)), .val (.ref b22), .val (.ref b27), .unset, .unset] [(.int a), (.int (0 : Int32)), (.ref b22)]))
    refine Gl.go (fun _ k => XS.iconst X28.here hx rfl (hb hby at_70) k) ?_
    show Gl p.tables e below (QQof s (Q_law Z n_ a b c_ d h0 n0) 3 12) (T28.setTop (mkF m 71 #[.val (.int n_), .val (.int a), .val (.int b), .val (.int c_), .val (.int d), .val (.int (4 : Int32)), .val (.ref b22), .val (.ref b27), .unset, .unset] [(.int (-1 : Int32)), (.int a), (.int (0 : Int32)), (.ref b22)]))
    refine Gl.go (fun _ k => XS.ixor X28.here hx rfl (hb hby at_71) rfl k) ?_
    show Gl p.tables e below (QQof s (Q_law Z n_ a b c_ d h0 n0) 3 12) (T28.setTop (mkF m 72 #[.val (.int n_), .val (.int a), .val (.int b), .val (.int c_), .val (.int d), .val (.int (4 : Int32)), .val (.ref b22), .val (.ref b27), .unset, .unset] [(.int (a ^^^ (-1 : Int32))), (.int (0 : Int32)), (.ref b22)]))
    obtain ⟨cl29, Ar29, qA29, SA29, NA29, HA29, GA29⟩ := id V_b22_28
    obtain ⟨T29, h29, X29, e29, W29, st29⟩ := stI X28 hx hZ rfl Ar29 (j := (0 : Int32)) (inb_of SA29 ⟨by decide, by decide⟩) (g := (mkF m 72 #[.val (.int n_), .val (.int a), .val (.int b), .val (.int c_), .val (.int d), .val (.int (4 : Int32)), .val (.ref b22), .val (.ref b27), .unset, .unset] [(.int (a ^^^ (-1 : Int32))), (.int (0 : Int32)), (.ref b22)])) rfl rfl (hb hby at_72)
    have E_b22_29 : Exa Z h29 b22 "[I" := E_b22_28.wr W29
    have E_b27_29 : Exa Z h29 b27 "com/example/berthwise/berthwise/model/Placement" := E_b27_28.wr W29
    have F_b27_cranes_29 : Fld Z h29 b27 "com/example/berthwise/berthwise/model/Placement" "cranes" "[I" (.ref cb28) := Fc28.other W29 (Or.inl (Ne.symm ne_b22_b27))
    have V_cb28_29 : Arv Z h29 cb28 cA22 .int (4 : Int32) [(.int a), (.int b), (.int c_), (.int d)] (.int (0 : Int32)) := Vc28.other W29 (Ne.symm ne_cb28)
    have SZ29 : n0 ≤ h29.size := by rw [Wr.size W29]; exact SZ28
    have K29 : Keep h0 h29 [] := K28.wr W29 (Or.inr sz_b22)
    have N29 := Fr.snoc X29 N28 g_b22
    have V_b22_29 : Arv Z h29 b22 cA22 .int (4 : Int32) [(.int (a ^^^ (-1 : Int32))), (.int b), (.int c_), (.int d)] (.int (0 : Int32)) := Arv.set Ar29 qA29 SA29 NA29 HA29 GA29 rfl W29 0 rfl (Nat.le_of_ble_eq_true rfl)
    refine Gl.go (fun _ k => st29 _ k) ?_
    show Gl p.tables e below (QQof s (Q_law Z n_ a b c_ d h0 n0) 3 12) (T29.setTop (mkF m 73 #[.val (.int n_), .val (.int a), .val (.int b), .val (.int c_), .val (.int d), .val (.int (4 : Int32)), .val (.ref b22), .val (.ref b27), .unset, .unset] []))
    refine Gl.go (fun _ k => XS.iloadN X29.here hx rfl (hb hby at_73) rfl  k) ?_
    show Gl p.tables e below (QQof s (Q_law Z n_ a b c_ d h0 n0) 3 12) (T29.setTop (mkF m 74 #[.val (.int n_), .val (.int a), .val (.int b), .val (.int c_), .val (.int d), .val (.int (4 : Int32)), .val (.ref b22), .val (.ref b27), .unset, .unset] [(.int a)]))
    refine Gl.go (fun _ k => XS.i2l X29.here hx rfl (hb hby at_74) rfl k) ?_
    show Gl p.tables e below (QQof s (Q_law Z n_ a b c_ d h0 n0) 3 12) (T29.setTop (mkF m 75 #[.val (.int n_), .val (.int a), .val (.int b), .val (.int c_), .val (.int d), .val (.int (4 : Int32)), .val (.ref b22), .val (.ref b27), .unset, .unset] [(.long (a.toInt64))]))
    refine Gl.go (fun _ k => XS.lstore X29.here hx rfl (hb hby at_75) rfl (l' := #[.val (.int n_), .val (.int a), .val (.int b), .val (.int c_), .val (.int d), .val (.int (4 : Int32)), .val (.ref b22), .val (.ref b27), .val (.long (a.toInt64)), .second]) rfl k) ?_
    show Gl p.tables e below (QQof s (Q_law Z n_ a b c_ d h0 n0) 3 12) (T29.setTop (mkF m 77 #[.val (.int n_), .val (.int a), .val (.int b), .val (.int c_), .val (.int d), .val (.int (4 : Int32)), .val (.ref b22), .val (.ref b27), .val (.long (a.toInt64)), .second] []))
    refine Gl.go (fun _ k => XS.iload X29.here hx rfl (hb hby at_77) rfl  k) ?_
    show Gl p.tables e below (QQof s (Q_law Z n_ a b c_ d h0 n0) 3 12) (T29.setTop (mkF m 79 #[.val (.int n_), .val (.int a), .val (.int b), .val (.int c_), .val (.int d), .val (.int (4 : Int32)), .val (.ref b22), .val (.ref b27), .val (.long (a.toInt64)), .second] [(.int (4 : Int32))]))
    refine Gl.go (fun _ k => XS.iconst X29.here hx rfl (hb hby at_79) k) ?_
    show Gl p.tables e below (QQof s (Q_law Z n_ a b c_ d h0 n0) 3 12) (T29.setTop (mkF m 80 #[.val (.int n_), .val (.int a), .val (.int b), .val (.int c_), .val (.int d), .val (.int (4 : Int32)), .val (.ref b22), .val (.ref b27), .val (.long (a.toInt64)), .second] [(.int (2 : Int32)), (.int (4 : Int32))]))
    refine Gl.go (fun _ k => XS.icmpNo X29.here hx rfl (hb hby at_80) rfl (flt (by decide)).1 k) ?_
    show Gl p.tables e below (QQof s (Q_law Z n_ a b c_ d h0 n0) 3 12) (T29.setTop (mkF m 83 #[.val (.int n_), .val (.int a), .val (.int b), .val (.int c_), .val (.int d), .val (.int (4 : Int32)), .val (.ref b22), .val (.ref b27), .val (.long (a.toInt64)), .second] []))
    refine Gl.go (fun _ k => XS.lload X29.here hx rfl (hb hby at_83) rfl  k) ?_
    show Gl p.tables e below (QQof s (Q_law Z n_ a b c_ d h0 n0) 3 12) (T29.setTop (mkF m 85 #[.val (.int n_), .val (.int a), .val (.int b), .val (.int c_), .val (.int d), .val (.int (4 : Int32)), .val (.ref b22), .val (.ref b27), .val (.long (a.toInt64)), .second] [(.long (a.toInt64))]))
    refine Gl.go (fun _ k => XS.iloadN X29.here hx rfl (hb hby at_85) rfl  k) ?_
    show Gl p.tables e below (QQof s (Q_law Z n_ a b c_ d h0 n0) 3 12) (T29.setTop (mkF m 86 #[.val (.int n_), .val (.int a), .val (.int b), .val (.int c_), .val (.int d), .val (.int (4 : Int32)), .val (.ref b22), .val (.ref b27), .val (.long (a.toInt64)), .second] [(.int b), (.long (a.toInt64))]))
    refine Gl.go (fun _ k => XS.i2l X29.here hx rfl (hb hby at_86) rfl k) ?_
    show Gl p.tables e below (QQof s (Q_law Z n_ a b c_ d h0 n0) 3 12) (T29.setTop (mkF m 87 #[.val (.int n_), .val (.int a), .val (.int b), .val (.int c_), .val (.int d), .val (.int (4 : Int32)), .val (.ref b22), .val (.ref b27), .val (.long (a.toInt64)), .second] [(.long (b.toInt64)), (.long (a.toInt64))]))
    refine Gl.go (fun _ k => XS.ladd X29.here hx rfl (hb hby at_87) rfl k) ?_
    show Gl p.tables e below (QQof s (Q_law Z n_ a b c_ d h0 n0) 3 12) (T29.setTop (mkF m 88 #[.val (.int n_), .val (.int a), .val (.int b), .val (.int c_), .val (.int d), .val (.int (4 : Int32)), .val (.ref b22), .val (.ref b27), .val (.long (a.toInt64)), .second] [(.long ((a.toInt64) + (b.toInt64)))]))
    refine Gl.go (fun _ k => XS.lstore X29.here hx rfl (hb hby at_88) rfl (l' := #[.val (.int n_), .val (.int a), .val (.int b), .val (.int c_), .val (.int d), .val (.int (4 : Int32)), .val (.ref b22), .val (.ref b27), .val (.long ((a.toInt64) + (b.toInt64))), .second]) rfl k) ?_
    show Gl p.tables e below (QQof s (Q_law Z n_ a b c_ d h0 n0) 3 12) (T29.setTop (mkF m 90 #[.val (.int n_), .val (.int a), .val (.int b), .val (.int c_), .val (.int d), .val (.int (4 : Int32)), .val (.ref b22), .val (.ref b27), .val (.long ((a.toInt64) + (b.toInt64))), .second] []))
    refine Gl.go (fun _ k => XS.iload X29.here hx rfl (hb hby at_90) rfl  k) ?_
    show Gl p.tables e below (QQof s (Q_law Z n_ a b c_ d h0 n0) 3 12) (T29.setTop (mkF m 92 #[.val (.int n_), .val (.int a), .val (.int b), .val (.int c_), .val (.int d), .val (.int (4 : Int32)), .val (.ref b22), .val (.ref b27), .val (.long ((a.toInt64) + (b.toInt64))), .second] [(.int (4 : Int32))]))
    refine Gl.go (fun _ k => XS.iconst X29.here hx rfl (hb hby at_92) k) ?_
    show Gl p.tables e below (QQof s (Q_law Z n_ a b c_ d h0 n0) 3 12) (T29.setTop (mkF m 93 #[.val (.int n_), .val (.int a), .val (.int b), .val (.int c_), .val (.int d), .val (.int (4 : Int32)), .val (.ref b22), .val (.ref b27), .val (.long ((a.toInt64) + (b.toInt64))), .second] [(.int (3 : Int32)), (.int (4 : Int32))]))
    refine Gl.go (fun _ k => XS.icmpNo X29.here hx rfl (hb hby at_93) rfl (flt (by decide)).1 k) ?_
    show Gl p.tables e below (QQof s (Q_law Z n_ a b c_ d h0 n0) 3 12) (T29.setTop (mkF m 96 #[.val (.int n_), .val (.int a), .val (.int b), .val (.int c_), .val (.int d), .val (.int (4 : Int32)), .val (.ref b22), .val (.ref b27), .val (.long ((a.toInt64) + (b.toInt64))), .second] []))
    refine Gl.go (fun _ k => XS.lload X29.here hx rfl (hb hby at_96) rfl  k) ?_
    show Gl p.tables e below (QQof s (Q_law Z n_ a b c_ d h0 n0) 3 12) (T29.setTop (mkF m 98 #[.val (.int n_), .val (.int a), .val (.int b), .val (.int c_), .val (.int d), .val (.int (4 : Int32)), .val (.ref b22), .val (.ref b27), .val (.long ((a.toInt64) + (b.toInt64))), .second] [(.long ((a.toInt64) + (b.toInt64)))]))
    refine Gl.go (fun _ k => XS.iloadN X29.here hx rfl (hb hby at_98) rfl  k) ?_
    show Gl p.tables e below (QQof s (Q_law Z n_ a b c_ d h0 n0) 3 12) (T29.setTop (mkF m 99 #[.val (.int n_), .val (.int a), .val (.int b), .val (.int c_), .val (.int d), .val (.int (4 : Int32)), .val (.ref b22), .val (.ref b27), .val (.long ((a.toInt64) + (b.toInt64))), .second] [(.int c_), (.long ((a.toInt64) + (b.toInt64)))]))
    refine Gl.go (fun _ k => XS.i2l X29.here hx rfl (hb hby at_99) rfl k) ?_
    show Gl p.tables e below (QQof s (Q_law Z n_ a b c_ d h0 n0) 3 12) (T29.setTop (mkF m 100 #[.val (.int n_), .val (.int a), .val (.int b), .val (.int c_), .val (.int d), .val (.int (4 : Int32)), .val (.ref b22), .val (.ref b27), .val (.long ((a.toInt64) + (b.toInt64))), .second] [(.long (c_.toInt64)), (.long ((a.toInt64) + (b.toInt64)))]))
    refine Gl.go (fun _ k => XS.ladd X29.here hx rfl (hb hby at_100) rfl k) ?_
    show Gl p.tables e below (QQof s (Q_law Z n_ a b c_ d h0 n0) 3 12) (T29.setTop (mkF m 101 #[.val (.int n_), .val (.int a), .val (.int b), .val (.int c_), .val (.int d), .val (.int (4 : Int32)), .val (.ref b22), .val (.ref b27), .val (.long ((a.toInt64) + (b.toInt64))), .second] [(.long (((a.toInt64) + (b.toInt64)) + (c_.toInt64)))]))
    refine Gl.go (fun _ k => XS.lstore X29.here hx rfl (hb hby at_101) rfl (l' := #[.val (.int n_), .val (.int a), .val (.int b), .val (.int c_), .val (.int d), .val (.int (4 : Int32)), .val (.ref b22), .val (.ref b27), .val (.long (((a.toInt64) + (b.toInt64)) + (c_.toInt64))), .second]) rfl k) ?_
    show Gl p.tables e below (QQof s (Q_law Z n_ a b c_ d h0 n0) 3 12) (T29.setTop (mkF m 103 #[.val (.int n_), .val (.int a), .val (.int b), .val (.int c_), .val (.int d), .val (.int (4 : Int32)), .val (.ref b22), .val (.ref b27), .val (.long (((a.toInt64) + (b.toInt64)) + (c_.toInt64))), .second] []))
    refine Gl.go (fun _ k => XS.iload X29.here hx rfl (hb hby at_103) rfl  k) ?_
    show Gl p.tables e below (QQof s (Q_law Z n_ a b c_ d h0 n0) 3 12) (T29.setTop (mkF m 105 #[.val (.int n_), .val (.int a), .val (.int b), .val (.int c_), .val (.int d), .val (.int (4 : Int32)), .val (.ref b22), .val (.ref b27), .val (.long (((a.toInt64) + (b.toInt64)) + (c_.toInt64))), .second] [(.int (4 : Int32))]))
    refine Gl.go (fun _ k => XS.iconst X29.here hx rfl (hb hby at_105) k) ?_
    show Gl p.tables e below (QQof s (Q_law Z n_ a b c_ d h0 n0) 3 12) (T29.setTop (mkF m 106 #[.val (.int n_), .val (.int a), .val (.int b), .val (.int c_), .val (.int d), .val (.int (4 : Int32)), .val (.ref b22), .val (.ref b27), .val (.long (((a.toInt64) + (b.toInt64)) + (c_.toInt64))), .second] [(.int (4 : Int32)), (.int (4 : Int32))]))
    refine Gl.go (fun _ k => XS.icmpNo X29.here hx rfl (hb hby at_106) rfl (flt (by decide)).1 k) ?_
    show Gl p.tables e below (QQof s (Q_law Z n_ a b c_ d h0 n0) 3 12) (T29.setTop (mkF m 109 #[.val (.int n_), .val (.int a), .val (.int b), .val (.int c_), .val (.int d), .val (.int (4 : Int32)), .val (.ref b22), .val (.ref b27), .val (.long (((a.toInt64) + (b.toInt64)) + (c_.toInt64))), .second] []))
    refine Gl.go (fun _ k => XS.lload X29.here hx rfl (hb hby at_109) rfl  k) ?_
    show Gl p.tables e below (QQof s (Q_law Z n_ a b c_ d h0 n0) 3 12) (T29.setTop (mkF m 111 #[.val (.int n_), .val (.int a), .val (.int b), .val (.int c_), .val (.int d), .val (.int (4 : Int32)), .val (.ref b22), .val (.ref b27), .val (.long (((a.toInt64) + (b.toInt64)) + (c_.toInt64))), .second] [(.long (((a.toInt64) + (b.toInt64)) + (c_.toInt64)))]))
    refine Gl.go (fun _ k => XS.iload X29.here hx rfl (hb hby at_111) rfl  k) ?_
    show Gl p.tables e below (QQof s (Q_law Z n_ a b c_ d h0 n0) 3 12) (T29.setTop (mkF m 113 #[.val (.int n_), .val (.int a), .val (.int b), .val (.int c_), .val (.int d), .val (.int (4 : Int32)), .val (.ref b22), .val (.ref b27), .val (.long (((a.toInt64) + (b.toInt64)) + (c_.toInt64))), .second] [(.int d), (.long (((a.toInt64) + (b.toInt64)) + (c_.toInt64)))]))
    refine Gl.go (fun _ k => XS.i2l X29.here hx rfl (hb hby at_113) rfl k) ?_
    show Gl p.tables e below (QQof s (Q_law Z n_ a b c_ d h0 n0) 3 12) (T29.setTop (mkF m 114 #[.val (.int n_), .val (.int a), .val (.int b), .val (.int c_), .val (.int d), .val (.int (4 : Int32)), .val (.ref b22), .val (.ref b27), .val (.long (((a.toInt64) + (b.toInt64)) + (c_.toInt64))), .second] [(.long (d.toInt64)), (.long (((a.toInt64) + (b.toInt64)) + (c_.toInt64)))]))
    refine Gl.go (fun _ k => XS.ladd X29.here hx rfl (hb hby at_114) rfl k) ?_
    show Gl p.tables e below (QQof s (Q_law Z n_ a b c_ d h0 n0) 3 12) (T29.setTop (mkF m 115 #[.val (.int n_), .val (.int a), .val (.int b), .val (.int c_), .val (.int d), .val (.int (4 : Int32)), .val (.ref b22), .val (.ref b27), .val (.long (((a.toInt64) + (b.toInt64)) + (c_.toInt64))), .second] [(.long ((((a.toInt64) + (b.toInt64)) + (c_.toInt64)) + (d.toInt64)))]))
    refine Gl.go (fun _ k => XS.lstore X29.here hx rfl (hb hby at_115) rfl (l' := #[.val (.int n_), .val (.int a), .val (.int b), .val (.int c_), .val (.int d), .val (.int (4 : Int32)), .val (.ref b22), .val (.ref b27), .val (.long ((((a.toInt64) + (b.toInt64)) + (c_.toInt64)) + (d.toInt64))), .second]) rfl k) ?_
    show Gl p.tables e below (QQof s (Q_law Z n_ a b c_ d h0 n0) 3 12) (T29.setTop (mkF m 117 #[.val (.int n_), .val (.int a), .val (.int b), .val (.int c_), .val (.int d), .val (.int (4 : Int32)), .val (.ref b22), .val (.ref b27), .val (.long ((((a.toInt64) + (b.toInt64)) + (c_.toInt64)) + (d.toInt64))), .second] []))
    refine Gl.go (fun _ k => XS.aload X29.here hx rfl (hb hby at_117) rfl rfl  k) ?_
    show Gl p.tables e below (QQof s (Q_law Z n_ a b c_ d h0 n0) 3 12) (T29.setTop (mkF m 119 #[.val (.int n_), .val (.int a), .val (.int b), .val (.int c_), .val (.int d), .val (.int (4 : Int32)), .val (.ref b22), .val (.ref b27), .val (.long ((((a.toInt64) + (b.toInt64)) + (c_.toInt64)) + (d.toInt64))), .second] [(.ref b27)]))
    obtain ⟨cq30, kq30, q30a, q30b, q30c⟩ := isOf hZ e29 E_b27_29
    obtain ⟨_, _, ⟨T30, L30, k30, n30⟩, -, X30, ⟨Lc30, hQ30, l30, y30, z30⟩, st30⟩ := X29.virtualBack hx (y := (⟨"com/example/berthwise/berthwise/model/Placement", "craneHours", "()J"⟩ : MethodName)) (z := (⟨"com/example/berthwise/berthwise/model/Placement", "craneHours", "()J"⟩ : MethodName)) hown (mvT hZ (hw _ (List.mem_of_getElem? (i := 27) rfl))) (mvT hZ (hw _ (List.mem_of_getElem? (i := 28) rfl))) (notFace_of_selects (args := #[]) (mvT hZ (hw _ (List.mem_of_getElem? (i := 30) rfl)))) (mvT hZ (hw _ (List.mem_of_getElem? (i := 30) rfl))) (mvT hZ (hw _ (List.mem_of_getElem? (i := 29) rfl))) (by decide) (backOf (W := 0) (rm_ch4 l Z a0 hw [] b27 cb28 cA22 a b c_ d h29 n0 SZ29 F_b27_cranes_29 V_cb28_29) hZ (hw _ (List.mem_of_getElem? (i := 31) rfl)) (hw _ (List.mem_of_getElem? (i := 3) rfl)) (by decide) (by decide)) q30a q30c (g := (mkF m 119 #[.val (.int n_), .val (.int a), .val (.int b), .val (.int c_), .val (.int d), .val (.int (4 : Int32)), .val (.ref b22), .val (.ref b27), .val (.long ((((a.toInt64) + (b.toInt64)) + (c_.toInt64)) + (d.toInt64))), .second] [(.ref b27)])) rfl (by rw [hml]; rfl) (Steps.refl _) (argsL := []) (rest := []) (lenOf pd_1 rfl) rfl (by show 2 * 0 + _ ≤ _; exact Nat.le_of_eq rfl) (hb hby at_119) (fun _ _ => ⟨rfl, e29, (by decide : 3 + 0 ≤ _), (by decide : 12 + 0 ≤ _)⟩)
    dsimp only [Pt.U, Pt.locs, Pt.cells, Pt.slots] at X30 l30 y30 z30 st30 hQ30
    subst l30 y30 z30
    obtain ⟨rfl, Nq30, e30⟩ := hQ30
    have N30 := Fr.app N29 Nq30
    refine Gl.go (fun _ k => st30.trans k) ?_
    show Gl p.tables e below (QQof s (Q_law Z n_ a b c_ d h0 n0) 3 12) (T30.setTop (mkF m 122 #[.val (.int n_), .val (.int a), .val (.int b), .val (.int c_), .val (.int d), .val (.int (4 : Int32)), .val (.ref b22), .val (.ref b27), .val (.long ((((a.toInt64) + (b.toInt64)) + (c_.toInt64)) + (d.toInt64))), .second] [(.long (adL (adL (adL (adL (0 : Int64) a) b) c_) d))]))
    refine Gl.go (fun _ k => XS.lload X30.here hx rfl (hb hby at_122) rfl  k) ?_
    show Gl p.tables e below (QQof s (Q_law Z n_ a b c_ d h0 n0) 3 12) (T30.setTop (mkF m 124 #[.val (.int n_), .val (.int a), .val (.int b), .val (.int c_), .val (.int d), .val (.int (4 : Int32)), .val (.ref b22), .val (.ref b27), .val (.long ((((a.toInt64) + (b.toInt64)) + (c_.toInt64)) + (d.toInt64))), .second] [(.long ((((a.toInt64) + (b.toInt64)) + (c_.toInt64)) + (d.toInt64))), (.long (adL (adL (adL (adL (0 : Int64) a) b) c_) d))]))
    refine Gl.go (fun _ k => XS.lcmp X30.here hx rfl (hb hby at_124) rfl k) ?_
    show Gl p.tables e below (QQof s (Q_law Z n_ a b c_ d h0 n0) 3 12) (T30.setTop (mkF m 125 #[.val (.int n_), .val (.int a), .val (.int b), .val (.int c_), .val (.int d), .val (.int (4 : Int32)), .val (.ref b22), .val (.ref b27), .val (.long ((((a.toInt64) + (b.toInt64)) + (c_.toInt64)) + (d.toInt64))), .second] [(.int (lcmpW (adL (adL (adL (adL (0 : Int64) a) b) c_) d) ((((a.toInt64) + (b.toInt64)) + (c_.toInt64)) + (d.toInt64))))]))
    refine Gl.go (fun _ k => XS.ifNo X30.here hx rfl (hb hby at_125) rfl ((if0 _ _).trans (teq (by rw [lcW, lc_eq, own_z] <;> rfl)).2) k) ?_
    show Gl p.tables e below (QQof s (Q_law Z n_ a b c_ d h0 n0) 3 12) (T30.setTop (mkF m 128 #[.val (.int n_), .val (.int a), .val (.int b), .val (.int c_), .val (.int d), .val (.int (4 : Int32)), .val (.ref b22), .val (.ref b27), .val (.long ((((a.toInt64) + (b.toInt64)) + (c_.toInt64)) + (d.toInt64))), .second] []))
    refine Gl.go (fun _ k => XS.iconst X30.here hx rfl (hb hby at_128) k) ?_
    show Gl p.tables e below (QQof s (Q_law Z n_ a b c_ d h0 n0) 3 12) (T30.setTop (mkF m 129 #[.val (.int n_), .val (.int a), .val (.int b), .val (.int c_), .val (.int d), .val (.int (4 : Int32)), .val (.ref b22), .val (.ref b27), .val (.long ((((a.toInt64) + (b.toInt64)) + (c_.toInt64)) + (d.toInt64))), .second] [(.int (1 : Int32))]))
    refine Gl.go (fun _ k => XS.goto X30.here hx rfl (pc0 := 129) (pc' := 133) rfl (hb hby at_129) (by decide) (by decide) k) ?_
    show Gl p.tables e below (QQof s (Q_law Z n_ a b c_ d h0 n0) 3 12) (T30.setTop (mkF m 133 #[.val (.int n_), .val (.int a), .val (.int b), .val (.int c_), .val (.int d), .val (.int (4 : Int32)), .val (.ref b22), .val (.ref b27), .val (.long ((((a.toInt64) + (b.toInt64)) + (c_.toInt64)) + (d.toInt64))), .second] [(.int (1 : Int32))]))
    refine leafN X30 hx hlk (t := .boolean) Bd.returns (by simp) (hb hby at_133) ?_ (by decide) (by decide)
    exact ⟨rfl, N30⟩
set_option maxRecDepth 65536 in
set_option maxHeartbeats 40000000 in
theorem comes_1 {Post : Tables → Env → Array Value → State → Outcome → State → Prop} (hpost : ∀ tb e args s v u, (limb_1_1.after args s (.returned v) u = true ∧ limb_1_2.after args s (.returned v) u = true ∧ True) → FrameEnd s (.returned v) u (Jvm.fieldLocs frame_1_writes args s ++ Jvm.arrayLocs frame_1_arrays args s ++ Jvm.staticLocs frame_1_statics s) 16 128 → Post tb e args s (.returned v) u) :
    ArmFor flags0 classFile x code maxLocals ret World_1 tables_1 room_1 Calls_1 rest_1 Pre_1 Post := by
  intro l hfl _ _ p e ha hc hk s m args below hf hA hF happ hP
  obtain ⟨hcalls, hrest, hpre⟩ := hP
  obtain ⟨-, -, -, hnamed, -, -, -, hat⟩ := (Spec.applies_iff hf).mp happ
  obtain ⟨hg, hn⟩ := and_e (Cond.before_iff.mp (show (Jvm.Cond.and given_1 narrow_1).before args s = true from hpre))
  obtain ⟨hcount, hg0⟩ := and_e hg
  obtain ⟨hk0, hg1⟩ := and_e hg0
  obtain ⟨hk1, hg2⟩ := and_e hg1
  obtain ⟨hk2, hg3⟩ := and_e hg2
  obtain ⟨hk3, hg4⟩ := and_e hg3
  have hk4 := hg4
  obtain ⟨w0, w1, w2, w3, w4, rfl⟩ : ∃ w0 w1 w2 w3 w4 : Value, args = #[w0, w1, w2, w3, w4] := by
    have hs : args.size = 5 := by simpa [Cond.value, given_1] using hcount
    obtain ⟨L⟩ := args
    match L, hs with
    | [w0, w1, w2, w3, w4], _ => exact ⟨w0, w1, w2, w3, w4, rfl⟩
  have hw := fun d (hd : d ∈ tables_1) => atoms_spec (ws := Jvm.Cond.code x code maxLocals ret :: tables_1) hat d (List.mem_cons_of_mem _ hd)
  have hfit : Fit s := fun {y c} hc i hi => by
    obtain ⟨ha, rfl⟩ := Array.getElem?_eq_some_iff.mp hc
    have q := List.all_eq_true.mp ((Array.all_eq_true_iff_forall_mem.mp hF) _ (Array.getElem_mem ha)) i (List.mem_range.mpr hi)
    simpa [Array.getElem?_eq_getElem hi] using q
  obtain ⟨i0, ei0⟩ := is_v hk0
  obtain rfl : w0 = (.int i0) := Option.some.inj ei0
  obtain ⟨i1, ei1⟩ := is_v hk1
  obtain rfl : w1 = (.int i1) := Option.some.inj ei1
  obtain ⟨i2, ei2⟩ := is_v hk2
  obtain rfl : w2 = (.int i2) := Option.some.inj ei2
  obtain ⟨i3, ei3⟩ := is_v hk3
  obtain rfl : w3 = (.int i3) := Option.some.inj ei3
  obtain ⟨i4, ei4⟩ := is_v hk4
  obtain rfl : w4 = (.int i4) := Option.some.inj ei4
  obtain ⟨n, o, h1, h2, h3, _, L, rfl, ⟨rfl, N⟩, hq⟩ := rm_law l s _ hw tables_1 i0 i1 i2 i3 i4 s.heap s.heap.size (Nat.le_refl _)  p e ha hc hk s m _ below hf ((Spec.applies_iff_loose hf).mp happ).1 ⟨rfl, State.Warmed39.refl s, rfl⟩ trivial
  refine ⟨n, _, h1, h2, h3, hpost _ _ _ _ _ _ ⟨Cond.after_iff.mpr rfl, Cond.after_iff.mpr (eq_i res_at (Term.int_eval (1)) rfl), trivial⟩ ⟨hq.1, hq.2.1, (hq.2.2.sift fun y hy => Or.inr (N y hy)).mono (by decide) (by decide)⟩⟩
theorem main_1_1 : Claimed_1_1 := comes_1 fun _ _ _ _ _ _ h hF => ⟨h.1, hF⟩
theorem main_1_2 : Claimed_1_2 := comes_1 fun _ _ _ _ _ _ h hF => ⟨h.2.1, hF⟩
end Jvm.Pilot.@@N@@
namespace Jvm.Pilot.@@N@@
open Jvm Jvm.ClassFile Sem Op Lib Jvm.Free Jvm.Stand Jvm.Pilot.@@N@@.Jvm.D
/-! MADE BY PROGRAM (witnessworld.py) out of the Statement's table words and the real class files: 9 classes; the members and pool entries that the words name. The judged class is class 1, her method 1. -/
namespace start1
open Jvm.ClassFile
def u (s : String) : CpInfo := .utf8 (stringToUtf16 s)
/-- a pool by its gaps: so many unusable entries, then the entry; so many at the end -/
def gap : Nat → List CpInfo → List CpInfo
  | 0, r => r
  | n + 1, r => .unusable :: gap n r
def poolList (es : List (Nat × CpInfo)) (last : Nat) : List CpInfo := es.foldr (fun e r => gap e.1 (e.2 :: r)) (gap last [])
def pool (es : List (Nat × CpInfo)) (last : Nat) : Array CpInfo := ⟨poolList es last⟩
def fileOf (pool : Array CpInfo) (this : Nat) (attrs : Array Attribute := #[]) (ms : Array MethodInfo := #[]) (fl : Nat := 33) (sup : Nat := 0) (ifs : Array Nat := #[]) (fds : Array FieldInfo := #[]) : ClassFile where
  minorVersion := 0
  majorVersion := 65
  constantPool := pool
  accessFlags := fl
  thisClass := this
  superClass := sup
  interfaces := ifs
  fields := fds
  methods := ms
  attributes := attrs
def plain (name : String) (sup : Option ClassId) : Class where
  name := name
  kind := .ordinary
  loader := none
  accessFlags := 33
  super := sup
  interfaces := #[]
  cf := none
  fields := #[]
  methods := #[]
  instanceTypes := #[]
  staticTypes := #[]
  resolved := #[]
  callSites := []
  init := .initialized
  statics := none
  mirror := none

def pool0 : Array CpInfo := pool [(5, u "<init>"), (0, u "()V"), (1, .class_ 10), (1, u "java/lang/Object"), (85, u "clone"), (0, u "()Ljava/lang/Object;")] 26

def k0c0 : Code := { maxStack := 0, maxLocals := 1, code := object_method_1_code, exceptionTable := #[], attributes := #[] }
def k0m0 : Method := { name := "<init>", desc := "()V", sig := { parameters := [], returnType := none }, accessFlags := 1, code := some k0c0 }
def k0m1 : Method := { name := "clone", desc := "()Ljava/lang/Object;", sig := { parameters := [], returnType := some (.object "java/lang/Object") }, accessFlags := 260, code := none }
/-- java/lang/Object -/
def k0 : Class := { plain "java/lang/Object" none with
  accessFlags := 33
  interfaces := #[]
  cf := some (fileOf pool0 8 #[] #[{ accessFlags := 1, nameIndex := 5, descriptorIndex := 6, attributes := #[] }, { accessFlags := 260, nameIndex := 96, descriptorIndex := 97, attributes := #[] }] 33 0 #[] #[])
  fields := #[]
  methods := #[k0m0, k0m1]
  instanceTypes := #[]
  staticTypes := #[]
  resolved := Array.replicate 124 none
  statics := none }

def pool1 : Array CpInfo := pool [(2, .class_ 4), (1, u "java/lang/Object"), (0, u "<init>"), (0, u "()V"), (0, .class_ 8), (0, u "com/example/berthwise/berthwise/model/Placement"), (0, .methodref 7 10), (0, .nameAndType 5 11), (0, u "(Lcom/example/berthwise/berthwise/model/Vessel;II[I)V"), (0, .methodref 7 13), (0, .nameAndType 14 15), (0, u "craneHours"), (0, u "()J"), (0, .class_ 17), (0, u "com/example/berthwise/berthwise/model/PlacementCraneHoursPinLaw"), (2, u "law"), (0, u "(IIIII)Z")] 5

def k1m0 : Method := { name := "<init>", desc := "()V", sig := { parameters := [], returnType := none }, accessFlags := 1, code := none }
def k1c1 : Code := { maxStack := 6, maxLocals := 10, code := code, exceptionTable := #[], attributes := #[] }
def k1m1 : Method := { name := "law", desc := "(IIIII)Z", sig := { parameters := [.int, .int, .int, .int, .int], returnType := some .boolean }, accessFlags := 9, code := some k1c1 }
/-- com/example/berthwise/berthwise/model/PlacementCraneHoursPinLaw -/
def k1 : Class := { plain "com/example/berthwise/berthwise/model/PlacementCraneHoursPinLaw" (some 0) with
  accessFlags := 49
  interfaces := #[]
  cf := some (fileOf pool1 16 #[] #[{ accessFlags := 1, nameIndex := 5, descriptorIndex := 6, attributes := #[] }, { accessFlags := 9, nameIndex := 20, descriptorIndex := 21, attributes := #[] }] 49 2 #[] #[])
  fields := #[]
  methods := #[k1m0, k1m1]
  instanceTypes := #[]
  staticTypes := #[]
  resolved := Array.replicate 27 none
  statics := none }

def pool2 : Array CpInfo := pool [(1, .methodref 2 3), (0, .class_ 4), (0, .nameAndType 5 6), (0, u "java/lang/Object"), (0, u "<init>"), (0, u "()V"), (7, .fieldref 15 16), (0, .class_ 17), (0, .nameAndType 18 19), (0, u "com/example/berthwise/berthwise/model/Placement"), (0, u "vessel"), (0, u "Lcom/example/berthwise/berthwise/model/Vessel;"), (0, .fieldref 15 21), (0, .nameAndType 22 23), (0, u "start"), (0, u "I"), (0, .fieldref 15 25), (0, .nameAndType 26 23), (0, u "position"), (0, .methodref 28 29), (0, .class_ 30), (0, .nameAndType 31 32), (0, u "[I"), (0, u "clone"), (0, u "()Ljava/lang/Object;"), (0, .fieldref 15 34), (0, .nameAndType 35 30), (0, u "cranes"), (23, u "(Lcom/example/berthwise/berthwise/model/Vessel;II[I)V"), (7, u "craneHours"), (0, u "()J")] 19

def k2c0 : Code := { maxStack := 3, maxLocals := 5, code := prog_23_method_1_code, exceptionTable := #[], attributes := #[] }
def k2m0 : Method := { name := "<init>", desc := "(Lcom/example/berthwise/berthwise/model/Vessel;II[I)V", sig := { parameters := [(.object "com/example/berthwise/berthwise/model/Vessel"), .int, .int, (.array .int)], returnType := none }, accessFlags := 1, code := some k2c0 }
def k2c1 : Code := { maxStack := 4, maxLocals := 7, code := prog_23_method_8_code, exceptionTable := #[], attributes := #[] }
def k2m1 : Method := { name := "craneHours", desc := "()J", sig := { parameters := [], returnType := some .long }, accessFlags := 1, code := some k2c1 }
/-- com/example/berthwise/berthwise/model/Placement -/
def k2 : Class := { plain "com/example/berthwise/berthwise/model/Placement" (some 0) with
  accessFlags := 49
  interfaces := #[]
  cf := some (fileOf pool2 15 #[] #[{ accessFlags := 1, nameIndex := 5, descriptorIndex := 59, attributes := #[] }, { accessFlags := 1, nameIndex := 67, descriptorIndex := 68, attributes := #[] }] 49 2 #[] #[{ accessFlags := 18, nameIndex := 18, descriptorIndex := 19, attributes := #[] }, { accessFlags := 18, nameIndex := 22, descriptorIndex := 23, attributes := #[] }, { accessFlags := 18, nameIndex := 26, descriptorIndex := 23, attributes := #[] }, { accessFlags := 18, nameIndex := 35, descriptorIndex := 30, attributes := #[] }])
  fields := #[{ name := "vessel", type := (.object "com/example/berthwise/berthwise/model/Vessel"), accessFlags := 18, slot := 0, constantValue := 0 }, { name := "start", type := .int, accessFlags := 18, slot := 1, constantValue := 0 }, { name := "position", type := .int, accessFlags := 18, slot := 2, constantValue := 0 }, { name := "cranes", type := (.array .int), accessFlags := 18, slot := 3, constantValue := 0 }]
  methods := #[k2m0, k2m1]
  instanceTypes := #[(.object "com/example/berthwise/berthwise/model/Vessel"), .int, .int, (.array .int)]
  staticTypes := #[]
  resolved := Array.replicate 88 none
  statics := none }

def pool3 : Array CpInfo := pool [(1, .class_ 2), (0, u "java/lang/Cloneable"), (0, .class_ 4), (0, u "java/lang/Object")] 2

/-- java/lang/Cloneable -/
def k3 : Class := { plain "java/lang/Cloneable" (some 0) with
  accessFlags := 1537
  interfaces := #[]
  cf := some (fileOf pool3 1 #[] #[] 1537 3 #[] #[])
  fields := #[]
  methods := #[]
  instanceTypes := #[]
  staticTypes := #[]
  resolved := Array.replicate 7 none
  statics := none }

def pool4 : Array CpInfo := pool [(1, u "java/io/Serializable"), (0, .class_ 1), (0, u "java/lang/Object"), (0, .class_ 3)] 3

/-- java/io/Serializable -/
def k4 : Class := { plain "java/io/Serializable" (some 0) with
  accessFlags := 1537
  interfaces := #[]
  cf := some (fileOf pool4 2 #[] #[] 1537 4 #[] #[])
  fields := #[]
  methods := #[]
  instanceTypes := #[]
  staticTypes := #[]
  resolved := Array.replicate 8 none
  statics := none }

/-- the primitive byte -/
def k5 : Class := { plain "byte" none with kind := .primitive 'B', accessFlags := 0x411 }
/-- [B -/
def k6 : Class := { plain "[B" (some 0) with kind := .array 5 .byte, interfaces := #[3, 4], accessFlags := 1041 }

/-- the primitive int -/
def k7 : Class := { plain "int" none with kind := .primitive 'I', accessFlags := 0x411 }
/-- [I -/
def k8 : Class := { plain "[I" (some 0) with kind := .array 7 .int, interfaces := #[3, 4], accessFlags := 1041 }

def heap : Heap := #[]
def classes : Array Class := #[k0, k1, k2, k3, k4, k5, k6, k7, k8]
def interned : List (Array UInt16 × Addr) := []
def slotsUsed : Nat := 0
def theMethod : MethodId := ⟨1, 1⟩
def args0 : Array Value := #[.int 2, .int 5, .int 7, .int 9, .int 11]
def aboutOver (below : List Frame) : State where
  vm := { classes := classes, interned := interned.toArray }
  heap := heap
  slotsUsed := slotsUsed
  threads := #[{ frames := .invoking theMethod args0 :: below }]
def below0 : List Frame := [.native { method := ⟨0, 0⟩, args := #[] }]
def about1 : State := aboutOver below0
def p0 : Program := .bare "" "" ""
def e0 : Env := launch0.env 0 0 0
theorem w_frames : about1.frames = Frame.invoking theMethod args0 :: below0 := rfl
set_option maxRecDepth 65536 in
theorem w_args : argsFit about1.vm theMethod args0 = true := by decide +kernel
set_option maxRecDepth 65536 in
theorem w_heap : heapFits about1 = true := by decide +kernel
set_option maxRecDepth 65536 in
theorem w_runnable : about1.curStatus? = some .runnable := by decide +kernel
set_option maxRecDepth 65536 in
theorem w_alone : about1.alone = true := by decide +kernel
set_option maxRecDepth 65536 in
theorem w_named : about1.methodNamed? x = some theMethod := by decide +kernel
set_option maxRecDepth 65536 in
theorem w_hears : about1.hears theMethod below0 = true := by decide +kernel
set_option maxRecDepth 65536 in
theorem w_ripe : about1.ripe theMethod args0 below0 = true := by decide +kernel
theorem w_running : about1.status = .running := rfl
set_option maxRecDepth 65536 in
theorem w_room : about1.hasRoom e0.platform room_1 = true :=
  launch0.hasRoom_least _ room_1 (by decide +kernel) (by decide +kernel) (by decide +kernel) (by decide +kernel) (by decide +kernel) (by decide +kernel)
theorem allAtoms_all (ts : List Jvm.Cond) (a : Array Jvm.Value) (st : Jvm.State) : (allAtoms ts).before a st = ts.all (fun c => c.before a st) := by
  induction ts with
  | nil => rfl
  | cons c t ih =>
    show (Jvm.Cond.and c (allAtoms t)).before a st = _
    rw [Jvm.Cond.before_and, ih, List.all_cons]
def words1 : List Jvm.Cond := Jvm.Cond.code x code maxLocals ret :: tables_1
/-- a 'code' word, met by the world's own term for the bytes: nothing is compared byte by byte -/
theorem code_word {y : MethodName} {bytes : ByteArray} {mx : Nat} {rt : Option FieldType} {a : Array Value} {s : State} {m : MethodId} {meth : Method} {c : Code} (h1 : s.methodNamed? y = some m) (h2 : s.vm.method? m = some meth) (h3 : meth.code = some c) (h4 : c.code = bytes)
    (h5 : (c.maxLocals == mx && c.exceptionTable.isEmpty && decide (c.maxStack ≤ mostOperands) && decide (meth.sig.returnType = rt) && !meth.locks && decide (parseMethodDescriptor y.desc = some meth.sig)) = true) : (Jvm.Cond.code y bytes mx rt).before a s = true := by
  simp only [Bool.and_eq_true, beq_iff_eq, Bool.not_eq_true', decide_eq_true_eq] at h5
  obtain ⟨⟨⟨⟨⟨g1, g2⟩, g3⟩, g4⟩, g5⟩, g6⟩ := h5
  simp [Cond.before, Cond.holds, Cond.value, h1, h2, h3, h4, g1, g2, g3, g4, g5, g6]
def isCode : Jvm.Cond → Bool
  | .code _ _ _ _ => true
  | _ => false
theorem all_split {L : List Jvm.Cond} {P : Jvm.Cond → Bool} (h1 : L.all (fun c => isCode c || P c) = true) (h2 : ∀ c ∈ L.filter isCode, P c = true) : L.all P = true := by
  refine List.all_eq_true.mpr fun c hc => ?_
  have h := List.all_eq_true.mp h1 c hc
  rcases Bool.eq_false_or_eq_true (isCode c) with hi | hi
  · exact h2 c (List.mem_filter.mpr ⟨hc, hi⟩)
  · simpa [hi] using h
set_option maxRecDepth 65536 in
theorem w_c0 : (Jvm.Cond.code x code maxLocals ret).before args0 about1 = true := code_word (m := ⟨1, 1⟩) (meth := k1m1) (c := k1c1) (by decide +kernel) rfl rfl rfl (by decide +kernel)
set_option maxRecDepth 65536 in
theorem w_c1 : (Jvm.Cond.code ({ cls := "com/example/berthwise/berthwise/model/Placement", name := "<init>", desc := "(Lcom/example/berthwise/berthwise/model/Vessel;II[I)V" } : Jvm.MethodName) prog_23_method_1_code (5 : Nat) (Option.none : Option Jvm.ClassFile.FieldType)).before args0 about1 = true := code_word (m := ⟨2, 0⟩) (meth := k2m0) (c := k2c0) (by decide +kernel) rfl rfl rfl (by decide +kernel)
set_option maxRecDepth 65536 in
theorem w_c2 : (Jvm.Cond.code ({ cls := "java/lang/Object", name := "<init>", desc := "()V" } : Jvm.MethodName) object_method_1_code (1 : Nat) (Option.none : Option Jvm.ClassFile.FieldType)).before args0 about1 = true := code_word (m := ⟨0, 0⟩) (meth := k0m0) (c := k0c0) (by decide +kernel) rfl rfl rfl (by decide +kernel)
set_option maxRecDepth 65536 in
theorem w_c3 : (Jvm.Cond.code ({ cls := "com/example/berthwise/berthwise/model/Placement", name := "craneHours", desc := "()J" } : Jvm.MethodName) prog_23_method_8_code (7 : Nat) (Option.some Jvm.ClassFile.FieldType.long)).before args0 about1 = true := code_word (m := ⟨2, 1⟩) (meth := k2m1) (c := k2c1) (by decide +kernel) rfl rfl rfl (by decide +kernel)
def codes1 : List Jvm.Cond := [Jvm.Cond.code x code maxLocals ret, Jvm.Cond.code ({ cls := "com/example/berthwise/berthwise/model/Placement", name := "<init>", desc := "(Lcom/example/berthwise/berthwise/model/Vessel;II[I)V" } : Jvm.MethodName) prog_23_method_1_code (5 : Nat) (Option.none : Option Jvm.ClassFile.FieldType), Jvm.Cond.code ({ cls := "java/lang/Object", name := "<init>", desc := "()V" } : Jvm.MethodName) object_method_1_code (1 : Nat) (Option.none : Option Jvm.ClassFile.FieldType), Jvm.Cond.code ({ cls := "com/example/berthwise/berthwise/model/Placement", name := "craneHours", desc := "()J" } : Jvm.MethodName) prog_23_method_8_code (7 : Nat) (Option.some Jvm.ClassFile.FieldType.long)]
set_option maxRecDepth 65536 in
theorem codes_eq : words1.filter isCode = codes1 := rfl
theorem w_codes : ∀ c ∈ words1.filter isCode, c.before args0 about1 = true := by
  rw [codes_eq]
  intro c hc
  simp only [codes1, List.mem_cons, List.not_mem_nil, or_false] at hc
  rcases hc with rfl | rfl | rfl | rfl
  · exact w_c0
  · exact w_c1
  · exact w_c2
  · exact w_c3
set_option maxRecDepth 65536 in
theorem w_t1 : (words1.take 24).all (fun c => isCode c || c.before args0 about1) = true := by decide +kernel
set_option maxRecDepth 65536 in
theorem w_t2 : (words1.drop 24).all (fun c => isCode c || c.before args0 about1) = true := by decide +kernel
theorem w_tables : (allAtoms (Jvm.Cond.code x code maxLocals ret :: tables_1)).before args0 about1 = true := by
  rw [allAtoms_all]
  show words1.all (fun c => c.before args0 about1) = true
  refine all_split ?_ w_codes
  rw [← List.take_append_drop 24 words1, List.all_append, w_t1, w_t2]
  rfl
set_option maxRecDepth 65536 in
theorem w_case : (Jvm.Cond.and given_1 narrow_1).before args0 about1 = true := by decide +kernel
theorem w_applies : (headSpec (Jvm.Cond.code x code maxLocals ret :: tables_1) room_1).applies x e0.platform about1 = true :=
  (Spec.applies_iff w_frames).mpr ⟨w_running, w_runnable, w_alone, w_named, w_hears, w_ripe, w_room, w_tables⟩
theorem atStart : AtStart classFile x code maxLocals ret World_1 tables_1 room_1 Calls_1 rest_1 Pre_1 launch0 p0 e0 about1 theMethod args0 below0 :=
  ⟨lists_1, trivial, launch0.admits_env _ _ _, launch0.least_env, fairChoices_fair.cas, fairChoices_fair.clock, w_frames, w_args, w_heap, w_applies, trivial, trivial, w_case⟩
end start1
theorem witness_1 : WitnessClaimed_1 := ⟨start1.p0, start1.e0, start1.about1, start1.theMethod, start1.args0, start1.below0, start1.atStart⟩
end Jvm.Pilot.@@N@@
