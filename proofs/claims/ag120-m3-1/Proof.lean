import JvmDerived
import JvmDerived.Pilot.@@N@@Statement
import JvmDerived.Pilot.@@N@@Code
set_option linter.unusedVariables false
set_option linter.unusedSimpArgs false
namespace Jvm.Pilot.@@N@@
open Jvm Jvm.ClassFile Sem Op Lib Jvm.Free Jvm.Stand Jvm.LawKit Jvm.RoadKit Bundle Jvm.Pilot.@@N@@.Jvm.D
/-! own small kit: the goal of a walk, backward; the leaves -/
def Gl (tb : Tables) (e : Env) (below : List Frame) (QQ : Outcome → State → Prop) (st : State) : Prop := ∃ s₂ o, Steps tb e below st s₂ ∧ s₂.status = .running ∧ Ended s₂ below o ∧ QQ o s₂
theorem Gl.go {tb : Tables} {e : Env} {below : List Frame} {QQ : Outcome → State → Prop} {st st' : State} (h : ∀ t, Steps tb e below st' t → Steps tb e below st t) (g : Gl tb e below QQ st') : Gl tb e below QQ st := by
  obtain ⟨s2, o, h1, h2⟩ := g
  exact ⟨s2, o, h _ h1, h2⟩
def QQof (s : State) (Q : Option Value → Heap → List Loc → Prop) (k n : Nat) : Outcome → State → Prop := fun o U => ∃ v L, o = .returned v ∧ Q v U.heap L ∧ FrameEnd s o U L k n
section Leaf
variable {p : Program} {l : Launch} {e : Env} {R : Room} {s : State} {m : MethodId} {args : Array Value} {below : List Frame} {meth : Method} {c : Code} {T : State} {locs : List Loc} {cells slots : Nat} {pc : Nat} {Ls : Array Slot} {rest : List Value} {Q : Option Value → Heap → List Loc → Prop} {k n : Nat}
theorem leafN (X : Stand p l e R s m args below meth c T locs cells slots) (hx : p.tables.exec = Jvm.exec) (hlk : meth.locks = false) {z : Int32} {t : FieldType} (hret : meth.sig.returnType = some t) (ht : t = .boolean ∨ t = .byte ∨ t = .char ∨ t = .short) (hd : decode c.code pc = .ok (.ireturn, 1))
    (hq : Q (some (.int (nar t z))) T.heap locs) (hk : cells ≤ k) (hn : slots ≤ n) : Gl p.tables e below (QQof s Q k n) (T.setTop (mkF m pc Ls (.int z :: rest))) := by
  obtain ⟨fs, hr, hrun, hended, hW, hsame⟩ := X.leave (v := some (.int (nar t z))) (fun h => by rw [hret] at h; cases h) hlk
  exact ⟨_, _, retN X hx hret ht hd hr, hrun, hended, _, _, rfl, hq, ⟨_, rfl⟩, hW, hsame.mono hk hn⟩
theorem leafI (X : Stand p l e R s m args below meth c T locs cells slots) (hx : p.tables.exec = Jvm.exec) (hlk : meth.locks = false) {z : Int32} (hret : meth.sig.returnType = some .int) (hd : decode c.code pc = .ok (.ireturn, 1))
    (hq : Q (some (.int z)) T.heap locs) (hk : cells ≤ k) (hn : slots ≤ n) : Gl p.tables e below (QQof s Q k n) (T.setTop (mkF m pc Ls (.int z :: rest))) := by
  obtain ⟨fs, hr, hrun, hended, hW, hsame⟩ := X.leave (v := some (.int z)) (fun h => by rw [hret] at h; cases h) hlk
  exact ⟨_, _, retOut X hx hret rfl (Or.inl ⟨rfl, Or.inl rfl, _, rfl⟩) hd hr, hrun, hended, _, _, rfl, hq, ⟨_, rfl⟩, hW, hsame.mono hk hn⟩
theorem leafL (X : Stand p l e R s m args below meth c T locs cells slots) (hx : p.tables.exec = Jvm.exec) (hlk : meth.locks = false) {z : Int64} (hret : meth.sig.returnType = some .long) (hd : decode c.code pc = .ok (.lreturn, 1))
    (hq : Q (some (.long z)) T.heap locs) (hk : cells ≤ k) (hn : slots ≤ n) : Gl p.tables e below (QQof s Q k n) (T.setTop (mkF m pc Ls (.long z :: rest))) := by
  obtain ⟨fs, hr, hrun, hended, hW, hsame⟩ := X.leave (v := some (.long z)) (fun h => by rw [hret] at h; cases h) hlk
  exact ⟨_, _, retOut X hx hret rfl (Or.inr (Or.inl ⟨rfl, rfl, _, rfl⟩)) hd hr, hrun, hended, _, _, rfl, hq, ⟨_, rfl⟩, hW, hsame.mono hk hn⟩
theorem leafD (X : Stand p l e R s m args below meth c T locs cells slots) (hx : p.tables.exec = Jvm.exec) (hlk : meth.locks = false) {z : UInt64} (hret : meth.sig.returnType = some .double) (hd : decode c.code pc = .ok (.dreturn, 1))
    (hq : Q (some (.double z)) T.heap locs) (hk : cells ≤ k) (hn : slots ≤ n) : Gl p.tables e below (QQof s Q k n) (T.setTop (mkF m pc Ls (.double z :: rest))) := by
  obtain ⟨fs, hr, hrun, hended, hW, hsame⟩ := X.leave (v := some (.double z)) (fun h => by rw [hret] at h; cases h) hlk
  exact ⟨_, _, retOut X hx hret rfl (Or.inr (Or.inr (Or.inl ⟨rfl, rfl, _, rfl⟩))) hd hr, hrun, hended, _, _, rfl, hq, ⟨_, rfl⟩, hW, hsame.mono hk hn⟩
theorem narrowR {t : FieldType} {w : Value} (ht : t.isReference = true) (hw : w.isRef = true) : narrow t w = w := by
  cases w <;> simp [Value.isRef] at hw <;> cases t <;> simp [FieldType.isReference] at ht <;> rfl
theorem leafA (X : Stand p l e R s m args below meth c T locs cells slots) (hx : p.tables.exec = Jvm.exec) (hlk : meth.locks = false) {w : Value} {t : FieldType} (hret : meth.sig.returnType = some t) (ht : t.isReference = true) (hw : w.isRef = true) (hd : decode c.code pc = .ok (.areturn, 1))
    (hq : Q (some w) T.heap locs) (hk : cells ≤ k) (hn : slots ≤ n) : Gl p.tables e below (QQof s Q k n) (T.setTop (mkF m pc Ls (w :: rest))) := by
  obtain ⟨fs, hr, hrun, hended, hW, hsame⟩ := X.leave (v := some w) (fun h => by rw [hret] at h; cases h) hlk
  exact ⟨_, _, retOut X hx hret (narrowR ht hw) (Or.inr (Or.inr (Or.inr (Or.inr ⟨rfl, ht, hw⟩)))) hd hr, hrun, hended, _, _, rfl, hq, ⟨_, rfl⟩, hW, hsame.mono hk hn⟩
theorem leafV (X : Stand p l e R s m args below meth c T locs cells slots) (hx : p.tables.exec = Jvm.exec) (hlk : meth.locks = false) (hret : meth.sig.returnType = none) (hd : decode c.code pc = .ok (.return_, 1))
    (hq : Q none T.heap locs) (hk : cells ≤ k) (hn : slots ≤ n) : Gl p.tables e below (QQof s Q k n) (T.setTop (mkF m pc Ls [])) := by
  obtain ⟨fs, hr, hrun, hended, hW, hsame⟩ := X.leave (v := none) (fun _ => rfl) hlk
  exact ⟨_, _, X.returnOut hx hret hd hr, hrun, hended, _, _, rfl, hq, ⟨_, rfl⟩, hW, hsame.mono hk hn⟩
end Leaf
theorem fitsR {t : FieldType} {w : Value} (ht : t.isReference = true) (hw : w.isRef = true) : fits t w = true := by
  cases w <;> simp [Value.isRef] at hw <;> cases t <;> simp [FieldType.isReference] at ht <;> rfl
theorem nar1 : nar .boolean (1 : Int32) = 1 := by decide
theorem nar0 : nar .boolean (0 : Int32) = 0 := by decide
theorem int_at {args : Array Value} {s : State} {t : Term} {k : Int32} (h : (Jvm.Cond.eq t (.int k)).value args s none s [] = some true) : t.eval args s none [] s = some (.int k) := by
  obtain ⟨x, y, hx, hy, kx, ky⟩ := cmp_v (Or.inl h)
  have hk : y = .int k := Option.some.inj (hy.symm.trans (Term.int_eval k))
  subst hk
  obtain ⟨z, rfl⟩ := ky
  have hz := gotT (Cond.eq_ints hx (Term.int_eval k)) h
  rw [hx, hz]
theorem fld_int {args : Array Value} {s : State} {t : Term} {C n d : String} {k : Int32} {x : Addr} (ht : t.eval args s none [] s = some (.ref x)) (h : (Jvm.Cond.eq (.field t C n d) (.int k)).value args s none s [] = some true) : Fld s s.heap x C n d (.int k) := Fld.start ((fld_at ht).symm.trans (int_at h))
theorem ref_at {args : Array Value} {s : State} {a b : Term} {x : Addr} (hb : b.eval args s none [] s = some (.ref x)) (h : (Jvm.Cond.eq a b).value args s none s [] = some true) : a.eval args s none [] s = some (.ref x) := by
  obtain ⟨y, z, hy, hz, ky, kz⟩ := cmp_v (Or.inl h)
  have hk : z = .ref x := Option.some.inj (hz.symm.trans hb)
  subst hk
  have hr : y.isRef = true := kz.2
  have he := gotT (eq_R hy hb hr rfl) h
  rw [hy, he]
theorem ext_of_keep {h h' : Heap} (K : Keep h h' []) : Ext h h' := ⟨K.1, fun a c q => K.2.1 a c q nin0⟩
theorem arr_len {args : Array Value} {s : State} {t : Term} {a : Addr} {cl : Cell} {ty : FieldType} {k : Int32} (ev : t.eval args s none [] s = some (.ref a)) (A : Arr s s.heap a cl ty) (h : (Jvm.Cond.eq (.length t) (.int k)).value args s none s [] = some true) : cl.slots.size < 2 ^ 31 ∧ cl.slots.size.toInt32 = k := by
  obtain ⟨b, cell, e1, e2, e3, e4⟩ := Jvm.Lib.length_spec (int_at h)
  have hb : a = b := Value.ref.inj (Option.some.inj (ev.symm.trans e1))
  subst hb
  have hc : cl = cell := Option.some.inj ((A.fin (Vm.Alike.refl _)).symm.trans e2)
  subst hc
  exact ⟨e3, (Value.int.inj e4).symm⟩
theorem arr_elem {args : Array Value} {s : State} {t : Term} {a : Addr} {cl : Cell} {ty : FieldType} {j : Int32} {v : Value} (ev : t.eval args s none [] s = some (.ref a)) (A : Arr s s.heap a cl ty) (h : (Term.elem t (.int j)).eval args s none [] s = some v) : cl.slots[j.toNatClampNeg]? = some v := (elem_in h ev (Term.int_eval j) A.1).2

open Jvm.FP Jvm.Free.Fl in
theorem own_b (x : Int32) : B53 x.toInt64 ∧ -2147483648 ≤ x.toInt64.toInt ∧ x.toInt64.toInt ≤ 2147483647 := by
  have e : x.toInt64.toInt = x.toInt := Int32.toInt_toInt64 x
  have h1 := x.le_toInt
  have h2 := x.toInt_lt
  exact ⟨⟨by omega, by omega⟩, by omega, by omega⟩
open Jvm.FP Jvm.Free.Fl in
theorem own_s {a b : Int64} {k : Int} (ha : B53 a ∧ -k ≤ a.toInt ∧ a.toInt ≤ k) (hk : 0 ≤ k ∧ k ≤ 10000000000) (hb : B53 b ∧ -2147483648 ≤ b.toInt ∧ b.toInt ≤ 2147483647) : B53 (a + b) ∧ -(k + 2147483648) ≤ (a + b).toInt ∧ (a + b).toInt ≤ k + 2147483648 := by
  have e := add64 ha.1 hb.1
  exact ⟨⟨by omega, by omega⟩, by omega, by omega⟩
theorem pn_0 : plainName "java/lang/Record" = true := by first | (simp [plainName, overriddenIn]; done) | decide +kernel
theorem ef_rec (m : MethodId) (x0 : Addr) : entryFrame m #[(.ref x0)] 1 = mkF m 0 #[.val (.ref x0)] [] := by first | (simp [entryFrame, mkF, argsToLocals, Value.category]; done) | rfl
theorem d2_0 : decode jdk_30_method_1_code 0 = .ok (.aload_n 0, 1) := by decide +kernel
theorem d2_1 : decode jdk_30_method_1_code 1 = .ok (.invokespecial 1, 3) := by decide +kernel
theorem d2_4 : decode jdk_30_method_1_code 4 = .ok (.return_, 1) := by decide +kernel
theorem pn_1 : plainName "com/example/berthwise/berthwise/model/Cost" = true := by first | (simp [plainName, overriddenIn]; done) | decide +kernel
theorem ef_ini (m : MethodId) (x0 : Addr) (x1 : UInt64) (x2 : UInt64) (x3 : UInt64) (x4 : UInt64) : entryFrame m #[(.ref x0), (.double x1), (.double x2), (.double x3), (.double x4)] 9 = mkF m 0 #[.val (.ref x0), .val (.double x1), .second, .val (.double x2), .second, .val (.double x3), .second, .val (.double x4), .second] [] := by first | (simp [entryFrame, mkF, argsToLocals, Value.category]; done) | rfl
theorem d1_0 : decode prog_20_method_1_code 0 = .ok (.aload_n 0, 1) := by decide +kernel
theorem pd_0 : parseMethodDescriptor "()V" = some ⟨[], none⟩ := by decide +kernel
theorem d1_1 : decode prog_20_method_1_code 1 = .ok (.invokespecial 1, 3) := by decide +kernel
theorem d1_4 : decode prog_20_method_1_code 4 = .ok (.aload_n 0, 1) := by decide +kernel
theorem d1_5 : decode prog_20_method_1_code 5 = .ok (.dload_n 1, 1) := by decide +kernel
theorem d1_6 : decode prog_20_method_1_code 6 = .ok (.putfield 7, 3) := by decide +kernel
theorem d1_9 : decode prog_20_method_1_code 9 = .ok (.aload_n 0, 1) := by decide +kernel
theorem d1_10 : decode prog_20_method_1_code 10 = .ok (.dload_n 3, 1) := by decide +kernel
theorem d1_11 : decode prog_20_method_1_code 11 = .ok (.putfield 13, 3) := by decide +kernel
theorem d1_14 : decode prog_20_method_1_code 14 = .ok (.aload_n 0, 1) := by decide +kernel
theorem d1_15 : decode prog_20_method_1_code 15 = .ok (.dload 5, 2) := by decide +kernel
theorem d1_17 : decode prog_20_method_1_code 17 = .ok (.putfield 16, 3) := by decide +kernel
theorem d1_20 : decode prog_20_method_1_code 20 = .ok (.aload_n 0, 1) := by decide +kernel
theorem d1_21 : decode prog_20_method_1_code 21 = .ok (.dload 7, 2) := by decide +kernel
theorem d1_23 : decode prog_20_method_1_code 23 = .ok (.putfield 19, 3) := by decide +kernel
theorem d1_26 : decode prog_20_method_1_code 26 = .ok (.return_, 1) := by decide +kernel
theorem ef_tot (m : MethodId) (x0 : Addr) : entryFrame m #[(.ref x0)] 1 = mkF m 0 #[.val (.ref x0)] [] := by first | (simp [entryFrame, mkF, argsToLocals, Value.category]; done) | rfl
theorem d4_0 : decode prog_20_method_3_code 0 = .ok (.aload_n 0, 1) := by decide +kernel
theorem d4_1 : decode prog_20_method_3_code 1 = .ok (.getfield 7, 3) := by decide +kernel
theorem d4_4 : decode prog_20_method_3_code 4 = .ok (.aload_n 0, 1) := by decide +kernel
theorem d4_5 : decode prog_20_method_3_code 5 = .ok (.getfield 13, 3) := by decide +kernel
theorem d4_8 : decode prog_20_method_3_code 8 = .ok (.dadd, 1) := by decide +kernel
theorem d4_9 : decode prog_20_method_3_code 9 = .ok (.aload_n 0, 1) := by decide +kernel
theorem d4_10 : decode prog_20_method_3_code 10 = .ok (.getfield 16, 3) := by decide +kernel
theorem d4_13 : decode prog_20_method_3_code 13 = .ok (.dadd, 1) := by decide +kernel
theorem d4_14 : decode prog_20_method_3_code 14 = .ok (.aload_n 0, 1) := by decide +kernel
theorem d4_15 : decode prog_20_method_3_code 15 = .ok (.getfield 19, 3) := by decide +kernel
theorem d4_18 : decode prog_20_method_3_code 18 = .ok (.dadd, 1) := by decide +kernel
theorem d4_19 : decode prog_20_method_3_code 19 = .ok (.dreturn, 1) := by decide +kernel
theorem pn_2 : plainName "com/example/berthwise/berthwise/model/CostTotalPinLaw" = true := by first | (simp [plainName, overriddenIn]; done) | decide +kernel
theorem ef_law (m : MethodId) (x0 : Int32) (x1 : Int32) (x2 : Int32) (x3 : Int32) : entryFrame m #[(.int x0), (.int x1), (.int x2), (.int x3)] maxLocals = mkF m 0 #[.val (.int x0), .val (.int x1), .val (.int x2), .val (.int x3), .unset, .unset, .unset] [] := by first | (simp [entryFrame, mkF, argsToLocals, Value.category, maxLocals]; done) | rfl
theorem pd_1 : parseMethodDescriptor "(DDDD)V" = some ⟨[.double, .double, .double, .double], none⟩ := by decide +kernel
theorem pd_2 : parseMethodDescriptor "()D" = some ⟨[], some .double⟩ := by decide +kernel
def Q_rec (Z : State) (a1 : Addr) (h0 : Heap) (n0 : Nat) (v : Option Value) (h : Heap) (L : List Loc) : Prop := v = none ∧ Fr n0 L ∧ h = h0
set_option maxRecDepth 65536 in
set_option maxHeartbeats 40000000 in
theorem rm_rec (l : Launch) (Z : State) (a0 : Array Value) (hw : ∀ d ∈ tables_1, d.before a0 Z = true) (ws : List Jvm.Cond) (a1 : Addr) (h0 : Heap) (n0 : Nat) (Z0 : n0 ≤ h0.size)  :
    MetFree l (⟨"java/lang/Record", "<init>", "()V"⟩ : MethodName) (head1 (Jvm.Cond.code (⟨"java/lang/Record", "<init>", "()V"⟩ : MethodName) jdk_30_method_1_code 1 none :: ws) ({ frames := 1, cells := 0, slots := 0, locals := 12 } : Room)) (fun aa U => aa = #[(.ref a1)] ∧ Z.Warmed39 U.vm ∧ U.heap = h0) (fun _ _ _ _ _ => True) (fun _ U o U' => ∃ v L, o = .returned v ∧ Q_rec Z a1 h0 n0 v U'.heap L ∧ FrameEnd U o U' L ({ frames := 1, cells := 0, slots := 0, locals := 12 } : Room).cells ({ frames := 1, cells := 0, slots := 0, locals := 12 } : Room).slots) := by
  refine MetFree.of_bodySF (plainFor_of_name pn_0) hisR ?_
  intro p e s m args below meth c s₁ Bd hml0 hP hK
  obtain ⟨rfl, hZ, hh⟩ := hP
  have hx := Bd.exec
  have hby := Bd.bytes
  have hml : c.maxLocals = 1 := hml0
  have hown : s.vm.findClass "java/lang/Record" = some m.cls := findClass_of_methodNamed Bd.named
  have hnm := (name_of_methodNamed Bd.named Bd.method).1
  have hlk : meth.locks = false := BodyLoose.notSynchronized Bd
  have X0 : Stand p l e ({ frames := 1, cells := 0, slots := 0, locals := 12 } : Room) s m #[(.ref a1)] below meth c s₁ [] 0 0 := Stand.of_body Bd
  have e0 : s₁.heap = h0 := by rw [← hh, Bd.state]; rfl
  have N0 := Fr.nil n0
  have K0 : Keep h0 h0 [] := Keep.refl _ _
  show Gl p.tables e below (QQof s (Q_rec Z a1 h0 n0) 0 0) (s₁.setTop (entryFrame m #[(.ref a1)] 1))
  refine Gl.go (fun t k => castTop (ef_rec m a1) k) ?_
  show Gl p.tables e below (QQof s (Q_rec Z a1 h0 n0) 0 0) (s₁.setTop (mkF m 0 #[.val (.ref a1)] []))
  refine Gl.go (fun _ k => XS.aloadN X0.here hx rfl (hb hby d2_0) rfl rfl  k) ?_
  show Gl p.tables e below (QQof s (Q_rec Z a1 h0 n0) 0 0) (s₁.setTop (mkF m 1 #[.val (.ref a1)] [(.ref a1)]))
  obtain ⟨T1, X1, e1, st1⟩ := initO X0 hx hZ hown (hw _ (List.mem_of_getElem? (i := 11) rfl)) (hw _ (List.mem_of_getElem? (i := 12) rfl)) (hw _ (List.mem_of_getElem? (i := 13) rfl)) e0 (g := (mkF m 1 #[.val (.ref a1)] [(.ref a1)])) rfl (by rw [hml]; rfl) rfl (hb hby d2_1) (by decide) (W := 0) (by show 2 * 0 + _ ≤ _; exact Nat.le_of_eq rfl) (by decide)
  refine Gl.go (fun _ k => st1 _ k) ?_
  show Gl p.tables e below (QQof s (Q_rec Z a1 h0 n0) 0 0) (T1.setTop (mkF m 4 #[.val (.ref a1)] []))
  refine leafV X1 hx hlk Bd.returns (hb hby d2_4) ?_ (by decide) (by decide)
  exact ⟨rfl, N0, e1⟩
def Q_ini (Z : State) (a1 : Addr) (x1 x2 x3 x4 : UInt64) (u_speedup u_tardiness u_late u_cranes : Value) (h0 : Heap) (n0 : Nat) (v : Option Value) (h : Heap) (L : List Loc) : Prop := v = none ∧ Fr n0 L ∧ Keep h0 h [a1] ∧ Exa Z h a1 "com/example/berthwise/berthwise/model/Cost" ∧ Fld Z h a1 "com/example/berthwise/berthwise/model/Cost" "speedup" "D" (.double x1) ∧ Fld Z h a1 "com/example/berthwise/berthwise/model/Cost" "tardiness" "D" (.double x2) ∧ Fld Z h a1 "com/example/berthwise/berthwise/model/Cost" "late" "D" (.double x3) ∧ Fld Z h a1 "com/example/berthwise/berthwise/model/Cost" "cranes" "D" (.double x4)
set_option maxRecDepth 65536 in
set_option maxHeartbeats 40000000 in
theorem rm_ini (l : Launch) (Z : State) (a0 : Array Value) (hw : ∀ d ∈ tables_1, d.before a0 Z = true) (ws : List Jvm.Cond) (a1 : Addr) (x1 x2 x3 x4 : UInt64) (u_speedup u_tardiness u_late u_cranes : Value) (h0 : Heap) (n0 : Nat) (Z0 : n0 ≤ h0.size) (E_a1 : Exa Z h0 a1 "com/example/berthwise/berthwise/model/Cost") (F_speedup : Fld Z h0 a1 "com/example/berthwise/berthwise/model/Cost" "speedup" "D" u_speedup) (F_tardiness : Fld Z h0 a1 "com/example/berthwise/berthwise/model/Cost" "tardiness" "D" u_tardiness) (F_late : Fld Z h0 a1 "com/example/berthwise/berthwise/model/Cost" "late" "D" u_late) (F_cranes : Fld Z h0 a1 "com/example/berthwise/berthwise/model/Cost" "cranes" "D" u_cranes) (g_a1 : n0 ≤ a1) :
    MetFree l (⟨"com/example/berthwise/berthwise/model/Cost", "<init>", "(DDDD)V"⟩ : MethodName) (head1 (Jvm.Cond.code (⟨"com/example/berthwise/berthwise/model/Cost", "<init>", "(DDDD)V"⟩ : MethodName) prog_20_method_1_code 9 none :: ws) ({ frames := 2, cells := 0, slots := 0, locals := 24 } : Room)) (fun aa U => aa = #[(.ref a1), (.double x1), (.double x2), (.double x3), (.double x4)] ∧ Z.Warmed39 U.vm ∧ U.heap = h0) (fun _ _ _ _ _ => True) (fun _ U o U' => ∃ v L, o = .returned v ∧ Q_ini Z a1 x1 x2 x3 x4 u_speedup u_tardiness u_late u_cranes h0 n0 v U'.heap L ∧ FrameEnd U o U' L ({ frames := 2, cells := 0, slots := 0, locals := 24 } : Room).cells ({ frames := 2, cells := 0, slots := 0, locals := 24 } : Room).slots) := by
  refine MetFree.of_bodySF (plainFor_of_name pn_1) hisR ?_
  intro p e s m args below meth c s₁ Bd hml0 hP hK
  obtain ⟨rfl, hZ, hh⟩ := hP
  have hx := Bd.exec
  have hby := Bd.bytes
  have hml : c.maxLocals = 9 := hml0
  have hown : s.vm.findClass "com/example/berthwise/berthwise/model/Cost" = some m.cls := findClass_of_methodNamed Bd.named
  have hnm := (name_of_methodNamed Bd.named Bd.method).1
  have hlk : meth.locks = false := BodyLoose.notSynchronized Bd
  have X0 : Stand p l e ({ frames := 2, cells := 0, slots := 0, locals := 24 } : Room) s m #[(.ref a1), (.double x1), (.double x2), (.double x3), (.double x4)] below meth c s₁ [] 0 0 := Stand.of_body Bd
  have e0 : s₁.heap = h0 := by rw [← hh, Bd.state]; rfl
  have N0 := Fr.nil n0
  have K0 : Keep h0 h0 [a1] := Keep.refl _ _
  show Gl p.tables e below (QQof s (Q_ini Z a1 x1 x2 x3 x4 u_speedup u_tardiness u_late u_cranes h0 n0) 0 0) (s₁.setTop (entryFrame m #[(.ref a1), (.double x1), (.double x2), (.double x3), (.double x4)] 9))
  refine Gl.go (fun t k => castTop (ef_ini m a1 x1 x2 x3 x4) k) ?_
  show Gl p.tables e below (QQof s (Q_ini Z a1 x1 x2 x3 x4 u_speedup u_tardiness u_late u_cranes h0 n0) 0 0) (s₁.setTop (mkF m 0 #[.val (.ref a1), .val (.double x1), .second, .val (.double x2), .second, .val (.double x3), .second, .val (.double x4), .second] []))
  refine Gl.go (fun _ k => XS.aloadN X0.here hx rfl (hb hby d1_0) rfl rfl  k) ?_
  show Gl p.tables e below (QQof s (Q_ini Z a1 x1 x2 x3 x4 u_speedup u_tardiness u_late u_cranes h0 n0) 0 0) (s₁.setTop (mkF m 1 #[.val (.ref a1), .val (.double x1), .second, .val (.double x2), .second, .val (.double x3), .second, .val (.double x4), .second] [(.ref a1)]))
  obtain ⟨_, _, ⟨T1, L1, k1, n1⟩, -, X1, ⟨Lc1, hQ1, l1, y1, z1⟩, st1⟩ := X0.specialBack hx (y := (⟨"java/lang/Record", "<init>", "()V"⟩ : MethodName)) rfl hown (mvT hZ (hw _ (List.mem_of_getElem? (i := 6) rfl))) (mvT hZ (hw _ (List.mem_of_getElem? (i := 7) rfl))) (mvT hZ (hw _ (List.mem_of_getElem? (i := 10) rfl))) (by decide) (backOf (W := 0) (rm_rec l Z a0 hw [] a1 h0 n0 Z0 ) hZ (hw _ (List.mem_of_getElem? (i := 10) rfl)) (hw _ (List.mem_of_getElem? (i := 9) rfl)) (by decide) (by decide)) (g := (mkF m 1 #[.val (.ref a1), .val (.double x1), .second, .val (.double x2), .second, .val (.double x3), .second, .val (.double x4), .second] [(.ref a1)])) rfl (by rw [hml]; rfl) (Steps.refl _) (a := a1) (argsL := []) (rest := []) (lenOf pd_0 rfl) rfl (by show 2 * 0 + _ ≤ _; exact Nat.le_of_eq rfl) (hb hby d1_1) (fun _ _ => ⟨rfl, e0, (by decide : 0 + 0 ≤ _), (by decide : 0 + 0 ≤ _)⟩)
  dsimp only [Pt.U, Pt.locs, Pt.cells, Pt.slots] at X1 l1 y1 z1 st1 hQ1
  subst l1 y1 z1
  obtain ⟨rfl, Nq1, e1⟩ := hQ1
  have N1 := Fr.app N0 Nq1
  refine Gl.go (fun _ k => st1.trans k) ?_
  show Gl p.tables e below (QQof s (Q_ini Z a1 x1 x2 x3 x4 u_speedup u_tardiness u_late u_cranes h0 n0) 0 0) (T1.setTop (mkF m 4 #[.val (.ref a1), .val (.double x1), .second, .val (.double x2), .second, .val (.double x3), .second, .val (.double x4), .second] []))
  refine Gl.go (fun _ k => XS.aloadN X1.here hx rfl (hb hby d1_4) rfl rfl  k) ?_
  show Gl p.tables e below (QQof s (Q_ini Z a1 x1 x2 x3 x4 u_speedup u_tardiness u_late u_cranes h0 n0) 0 0) (T1.setTop (mkF m 5 #[.val (.ref a1), .val (.double x1), .second, .val (.double x2), .second, .val (.double x3), .second, .val (.double x4), .second] [(.ref a1)]))
  refine Gl.go (fun _ k => XS.dloadN X1.here hx rfl (hb hby d1_5) rfl  k) ?_
  show Gl p.tables e below (QQof s (Q_ini Z a1 x1 x2 x3 x4 u_speedup u_tardiness u_late u_cranes h0 n0) 0 0) (T1.setTop (mkF m 6 #[.val (.ref a1), .val (.double x1), .second, .val (.double x2), .second, .val (.double x3), .second, .val (.double x4), .second] [(.double x1), (.ref a1)]))
  obtain ⟨T2, h2, X2, e2, W2, st2⟩ := putF X1 hx hZ hown (host := "") (Or.inl (hw _ (List.mem_of_getElem? (i := 14) rfl))) Via.refl e1 F_speedup E_a1 (Or.inr ⟨(hw _ (List.mem_of_getElem? (i := 15) rfl)), rfl, hnm⟩) (hw _ (List.mem_of_getElem? (i := 1) rfl)) (ty := .double) (by decide) rfl rfl (g := (mkF m 6 #[.val (.ref a1), .val (.double x1), .second, .val (.double x2), .second, .val (.double x3), .second, .val (.double x4), .second] [(.double x1), (.ref a1)])) rfl rfl (hb hby d1_6)
  have E_a1_2 : Exa Z h2 a1 "com/example/berthwise/berthwise/model/Cost" := E_a1.wr W2
  have F_a1_speedup_2 : Fld Z h2 a1 "com/example/berthwise/berthwise/model/Cost" "speedup" "D" (.double x1) := F_speedup.same W2
  have F_a1_tardiness_2 : Fld Z h2 a1 "com/example/berthwise/berthwise/model/Cost" "tardiness" "D" u_tardiness := F_tardiness.other W2 (Or.inr (slot_ne (t := .double) (t' := .double) (Or.inr (hw _ (List.mem_of_getElem? (i := 17) rfl))) (Or.inr (hw _ (List.mem_of_getElem? (i := 15) rfl))) (by decide) (by decide) (by decide)))
  have F_a1_late_2 : Fld Z h2 a1 "com/example/berthwise/berthwise/model/Cost" "late" "D" u_late := F_late.other W2 (Or.inr (slot_ne (t := .double) (t' := .double) (Or.inr (hw _ (List.mem_of_getElem? (i := 19) rfl))) (Or.inr (hw _ (List.mem_of_getElem? (i := 15) rfl))) (by decide) (by decide) (by decide)))
  have F_a1_cranes_2 : Fld Z h2 a1 "com/example/berthwise/berthwise/model/Cost" "cranes" "D" u_cranes := F_cranes.other W2 (Or.inr (slot_ne (t := .double) (t' := .double) (Or.inr (hw _ (List.mem_of_getElem? (i := 21) rfl))) (Or.inr (hw _ (List.mem_of_getElem? (i := 15) rfl))) (by decide) (by decide) (by decide)))
  have SZ2 : n0 ≤ h2.size := by rw [Wr.size W2]; exact Z0
  have K2 : Keep h0 h2 [a1] := K0.wr W2 (Or.inl (List.mem_of_getElem? (i := 0) rfl))
  have N2 := Fr.snoc X2 N1 g_a1
  refine Gl.go (fun _ k => st2 _ k) ?_
  show Gl p.tables e below (QQof s (Q_ini Z a1 x1 x2 x3 x4 u_speedup u_tardiness u_late u_cranes h0 n0) 0 0) (T2.setTop (mkF m 9 #[.val (.ref a1), .val (.double x1), .second, .val (.double x2), .second, .val (.double x3), .second, .val (.double x4), .second] []))
  refine Gl.go (fun _ k => XS.aloadN X2.here hx rfl (hb hby d1_9) rfl rfl  k) ?_
  show Gl p.tables e below (QQof s (Q_ini Z a1 x1 x2 x3 x4 u_speedup u_tardiness u_late u_cranes h0 n0) 0 0) (T2.setTop (mkF m 10 #[.val (.ref a1), .val (.double x1), .second, .val (.double x2), .second, .val (.double x3), .second, .val (.double x4), .second] [(.ref a1)]))
  refine Gl.go (fun _ k => XS.dloadN X2.here hx rfl (hb hby d1_10) rfl  k) ?_
  show Gl p.tables e below (QQof s (Q_ini Z a1 x1 x2 x3 x4 u_speedup u_tardiness u_late u_cranes h0 n0) 0 0) (T2.setTop (mkF m 11 #[.val (.ref a1), .val (.double x1), .second, .val (.double x2), .second, .val (.double x3), .second, .val (.double x4), .second] [(.double x2), (.ref a1)]))
  obtain ⟨T3, h3, X3, e3, W3, st3⟩ := putF X2 hx hZ hown (host := "") (Or.inl (hw _ (List.mem_of_getElem? (i := 16) rfl))) Via.refl e2 F_a1_tardiness_2 E_a1_2 (Or.inr ⟨(hw _ (List.mem_of_getElem? (i := 17) rfl)), rfl, hnm⟩) (hw _ (List.mem_of_getElem? (i := 1) rfl)) (ty := .double) (by decide) rfl rfl (g := (mkF m 11 #[.val (.ref a1), .val (.double x1), .second, .val (.double x2), .second, .val (.double x3), .second, .val (.double x4), .second] [(.double x2), (.ref a1)])) rfl rfl (hb hby d1_11)
  have E_a1_3 : Exa Z h3 a1 "com/example/berthwise/berthwise/model/Cost" := E_a1_2.wr W3
  have F_a1_speedup_3 : Fld Z h3 a1 "com/example/berthwise/berthwise/model/Cost" "speedup" "D" (.double x1) := F_a1_speedup_2.other W3 (Or.inr (slot_ne (t := .double) (t' := .double) (Or.inr (hw _ (List.mem_of_getElem? (i := 15) rfl))) (Or.inr (hw _ (List.mem_of_getElem? (i := 17) rfl))) (by decide) (by decide) (by decide)))
  have F_a1_tardiness_3 : Fld Z h3 a1 "com/example/berthwise/berthwise/model/Cost" "tardiness" "D" (.double x2) := F_a1_tardiness_2.same W3
  have F_a1_late_3 : Fld Z h3 a1 "com/example/berthwise/berthwise/model/Cost" "late" "D" u_late := F_a1_late_2.other W3 (Or.inr (slot_ne (t := .double) (t' := .double) (Or.inr (hw _ (List.mem_of_getElem? (i := 19) rfl))) (Or.inr (hw _ (List.mem_of_getElem? (i := 17) rfl))) (by decide) (by decide) (by decide)))
  have F_a1_cranes_3 : Fld Z h3 a1 "com/example/berthwise/berthwise/model/Cost" "cranes" "D" u_cranes := F_a1_cranes_2.other W3 (Or.inr (slot_ne (t := .double) (t' := .double) (Or.inr (hw _ (List.mem_of_getElem? (i := 21) rfl))) (Or.inr (hw _ (List.mem_of_getElem? (i := 17) rfl))) (by decide) (by decide) (by decide)))
  have SZ3 : n0 ≤ h3.size := by rw [Wr.size W3]; exact SZ2
  have K3 : Keep h0 h3 [a1] := K2.wr W3 (Or.inl (List.mem_of_getElem? (i := 0) rfl))
  have N3 := Fr.snoc X3 N2 g_a1
  refine Gl.go (fun _ k => st3 _ k) ?_
  show Gl p.tables e below (QQof s (Q_ini Z a1 x1 x2 x3 x4 u_speedup u_tardiness u_late u_cranes h0 n0) 0 0) (T3.setTop (mkF m 14 #[.val (.ref a1), .val (.double x1), .second, .val (.double x2), .second, .val (.double x3), .second, .val (.double x4), .second] []))
  refine Gl.go (fun _ k => XS.aloadN X3.here hx rfl (hb hby d1_14) rfl rfl  k) ?_
  show Gl p.tables e below (QQof s (Q_ini Z a1 x1 x2 x3 x4 u_speedup u_tardiness u_late u_cranes h0 n0) 0 0) (T3.setTop (mkF m 15 #[.val (.ref a1), .val (.double x1), .second, .val (.double x2), .second, .val (.double x3), .second, .val (.double x4), .second] [(.ref a1)]))
  refine Gl.go (fun _ k => XS.dload X3.here hx rfl (hb hby d1_15) rfl  k) ?_
  show Gl p.tables e below (QQof s (Q_ini Z a1 x1 x2 x3 x4 u_speedup u_tardiness u_late u_cranes h0 n0) 0 0) (T3.setTop (mkF m 17 #[.val (.ref a1), .val (.double x1), .second, .val (.double x2), .second, .val (.double x3), .second, .val (.double x4), .second] [(.double x3), (.ref a1)]))
  obtain ⟨T4, h4, X4, e4, W4, st4⟩ := putF X3 hx hZ hown (host := "") (Or.inl (hw _ (List.mem_of_getElem? (i := 18) rfl))) Via.refl e3 F_a1_late_3 E_a1_3 (Or.inr ⟨(hw _ (List.mem_of_getElem? (i := 19) rfl)), rfl, hnm⟩) (hw _ (List.mem_of_getElem? (i := 1) rfl)) (ty := .double) (by decide) rfl rfl (g := (mkF m 17 #[.val (.ref a1), .val (.double x1), .second, .val (.double x2), .second, .val (.double x3), .second, .val (.double x4), .second] [(.double x3), (.ref a1)])) rfl rfl (hb hby d1_17)
  have E_a1_4 : Exa Z h4 a1 "com/example/berthwise/berthwise/model/Cost" := E_a1_3.wr W4
  have F_a1_speedup_4 : Fld Z h4 a1 "com/example/berthwise/berthwise/model/Cost" "speedup" "D" (.double x1) := F_a1_speedup_3.other W4 (Or.inr (slot_ne (t := .double) (t' := .double) (Or.inr (hw _ (List.mem_of_getElem? (i := 15) rfl))) (Or.inr (hw _ (List.mem_of_getElem? (i := 19) rfl))) (by decide) (by decide) (by decide)))
  have F_a1_tardiness_4 : Fld Z h4 a1 "com/example/berthwise/berthwise/model/Cost" "tardiness" "D" (.double x2) := F_a1_tardiness_3.other W4 (Or.inr (slot_ne (t := .double) (t' := .double) (Or.inr (hw _ (List.mem_of_getElem? (i := 17) rfl))) (Or.inr (hw _ (List.mem_of_getElem? (i := 19) rfl))) (by decide) (by decide) (by decide)))
  have F_a1_late_4 : Fld Z h4 a1 "com/example/berthwise/berthwise/model/Cost" "late" "D" (.double x3) := F_a1_late_3.same W4
  have F_a1_cranes_4 : Fld Z h4 a1 "com/example/berthwise/berthwise/model/Cost" "cranes" "D" u_cranes := F_a1_cranes_3.other W4 (Or.inr (slot_ne (t := .double) (t' := .double) (Or.inr (hw _ (List.mem_of_getElem? (i := 21) rfl))) (Or.inr (hw _ (List.mem_of_getElem? (i := 19) rfl))) (by decide) (by decide) (by decide)))
  have SZ4 : n0 ≤ h4.size := by rw [Wr.size W4]; exact SZ3
  have K4 : Keep h0 h4 [a1] := K3.wr W4 (Or.inl (List.mem_of_getElem? (i := 0) rfl))
  have N4 := Fr.snoc X4 N3 g_a1
  refine Gl.go (fun _ k => st4 _ k) ?_
  show Gl p.tables e below (QQof s (Q_ini Z a1 x1 x2 x3 x4 u_speedup u_tardiness u_late u_cranes h0 n0) 0 0) (T4.setTop (mkF m 20 #[.val (.ref a1), .val (.double x1), .second, .val (.double x2), .second, .val (.double x3), .second, .val (.double x4), .second] []))
  refine Gl.go (fun _ k => XS.aloadN X4.here hx rfl (hb hby d1_20) rfl rfl  k) ?_
  show Gl p.tables e below (QQof s (Q_ini Z a1 x1 x2 x3 x4 u_speedup u_tardiness u_late u_cranes h0 n0) 0 0) (T4.setTop (mkF m 21 #[.val (.ref a1), .val (.double x1), .second, .val (.double x2), .second, .val (.double x3), .second, .val (.double x4), .second] [(.ref a1)]))
  refine Gl.go (fun _ k => XS.dload X4.here hx rfl (hb hby d1_21) rfl  k) ?_
  show Gl p.tables e below (QQof s (Q_ini Z a1 x1 x2 x3 x4 u_speedup u_tardiness u_late u_cranes h0 n0) 0 0) (T4.setTop (mkF m 23 #[.val (.ref a1), .val (.double x1), .second, .val (.double x2), .second, .val (.double x3), .second, .val (.double x4), .second] [(.double x4), (.ref a1)]))
  obtain ⟨T5, h5, X5, e5, W5, st5⟩ := putF X4 hx hZ hown (host := "") (Or.inl (hw _ (List.mem_of_getElem? (i := 20) rfl))) Via.refl e4 F_a1_cranes_4 E_a1_4 (Or.inr ⟨(hw _ (List.mem_of_getElem? (i := 21) rfl)), rfl, hnm⟩) (hw _ (List.mem_of_getElem? (i := 1) rfl)) (ty := .double) (by decide) rfl rfl (g := (mkF m 23 #[.val (.ref a1), .val (.double x1), .second, .val (.double x2), .second, .val (.double x3), .second, .val (.double x4), .second] [(.double x4), (.ref a1)])) rfl rfl (hb hby d1_23)
  have E_a1_5 : Exa Z h5 a1 "com/example/berthwise/berthwise/model/Cost" := E_a1_4.wr W5
  have F_a1_speedup_5 : Fld Z h5 a1 "com/example/berthwise/berthwise/model/Cost" "speedup" "D" (.double x1) := F_a1_speedup_4.other W5 (Or.inr (slot_ne (t := .double) (t' := .double) (Or.inr (hw _ (List.mem_of_getElem? (i := 15) rfl))) (Or.inr (hw _ (List.mem_of_getElem? (i := 21) rfl))) (by decide) (by decide) (by decide)))
  have F_a1_tardiness_5 : Fld Z h5 a1 "com/example/berthwise/berthwise/model/Cost" "tardiness" "D" (.double x2) := F_a1_tardiness_4.other W5 (Or.inr (slot_ne (t := .double) (t' := .double) (Or.inr (hw _ (List.mem_of_getElem? (i := 17) rfl))) (Or.inr (hw _ (List.mem_of_getElem? (i := 21) rfl))) (by decide) (by decide) (by decide)))
  have F_a1_late_5 : Fld Z h5 a1 "com/example/berthwise/berthwise/model/Cost" "late" "D" (.double x3) := F_a1_late_4.other W5 (Or.inr (slot_ne (t := .double) (t' := .double) (Or.inr (hw _ (List.mem_of_getElem? (i := 19) rfl))) (Or.inr (hw _ (List.mem_of_getElem? (i := 21) rfl))) (by decide) (by decide) (by decide)))
  have F_a1_cranes_5 : Fld Z h5 a1 "com/example/berthwise/berthwise/model/Cost" "cranes" "D" (.double x4) := F_a1_cranes_4.same W5
  have SZ5 : n0 ≤ h5.size := by rw [Wr.size W5]; exact SZ4
  have K5 : Keep h0 h5 [a1] := K4.wr W5 (Or.inl (List.mem_of_getElem? (i := 0) rfl))
  have N5 := Fr.snoc X5 N4 g_a1
  refine Gl.go (fun _ k => st5 _ k) ?_
  show Gl p.tables e below (QQof s (Q_ini Z a1 x1 x2 x3 x4 u_speedup u_tardiness u_late u_cranes h0 n0) 0 0) (T5.setTop (mkF m 26 #[.val (.ref a1), .val (.double x1), .second, .val (.double x2), .second, .val (.double x3), .second, .val (.double x4), .second] []))
  refine leafV X5 hx hlk Bd.returns (hb hby d1_26) ?_ (by decide) (by decide)
  rw [e5]
  exact ⟨rfl, N5, K5, E_a1_5, F_a1_speedup_5, F_a1_tardiness_5, F_a1_late_5, F_a1_cranes_5⟩
def Q_tot (Z : State) (a1 : Addr) (A B C D : Int64) (h0 : Heap) (n0 : Nat) (v : Option Value) (h : Heap) (L : List Loc) : Prop := v = some (.double (FP.l2d (((A + B) + C) + D))) ∧ Fr n0 L ∧ h = h0
set_option maxRecDepth 65536 in
set_option maxHeartbeats 40000000 in
theorem rm_tot (l : Launch) (Z : State) (a0 : Array Value) (hw : ∀ d ∈ tables_1, d.before a0 Z = true) (ws : List Jvm.Cond) (a1 : Addr) (A B C D : Int64) (h0 : Heap) (n0 : Nat) (Z0 : n0 ≤ h0.size) (hA : B53 A) (hB : B53 B) (hC : B53 C) (hD : B53 D) (hAB : B53 (A + B)) (hABC : B53 ((A + B) + C)) (F_speedup : Fld Z h0 a1 "com/example/berthwise/berthwise/model/Cost" "speedup" "D" (.double (FP.l2d A))) (F_tardiness : Fld Z h0 a1 "com/example/berthwise/berthwise/model/Cost" "tardiness" "D" (.double (FP.l2d B))) (F_late : Fld Z h0 a1 "com/example/berthwise/berthwise/model/Cost" "late" "D" (.double (FP.l2d C))) (F_cranes : Fld Z h0 a1 "com/example/berthwise/berthwise/model/Cost" "cranes" "D" (.double (FP.l2d D))) :
    MetFree l (⟨"com/example/berthwise/berthwise/model/Cost", "total", "()D"⟩ : MethodName) (head1 (Jvm.Cond.code (⟨"com/example/berthwise/berthwise/model/Cost", "total", "()D"⟩ : MethodName) prog_20_method_3_code 1 (some .double) :: ws) ({ frames := 0, cells := 0, slots := 0, locals := 0 } : Room)) (fun aa U => aa = #[(.ref a1)] ∧ Z.Warmed39 U.vm ∧ U.heap = h0) (fun _ _ _ _ _ => True) (fun _ U o U' => ∃ v L, o = .returned v ∧ Q_tot Z a1 A B C D h0 n0 v U'.heap L ∧ FrameEnd U o U' L ({ frames := 0, cells := 0, slots := 0, locals := 0 } : Room).cells ({ frames := 0, cells := 0, slots := 0, locals := 0 } : Room).slots) := by
  refine MetFree.of_bodySF (plainFor_of_name pn_1) hisR ?_
  intro p e s m args below meth c s₁ Bd hml0 hP hK
  obtain ⟨rfl, hZ, hh⟩ := hP
  have hx := Bd.exec
  have hby := Bd.bytes
  have hml : c.maxLocals = 1 := hml0
  have hown : s.vm.findClass "com/example/berthwise/berthwise/model/Cost" = some m.cls := findClass_of_methodNamed Bd.named
  have hnm := (name_of_methodNamed Bd.named Bd.method).1
  have hlk : meth.locks = false := BodyLoose.notSynchronized Bd
  have X0 : Stand p l e ({ frames := 0, cells := 0, slots := 0, locals := 0 } : Room) s m #[(.ref a1)] below meth c s₁ [] 0 0 := Stand.of_body Bd
  have e0 : s₁.heap = h0 := by rw [← hh, Bd.state]; rfl
  have N0 := Fr.nil n0
  have K0 : Keep h0 h0 [] := Keep.refl _ _
  show Gl p.tables e below (QQof s (Q_tot Z a1 A B C D h0 n0) 0 0) (s₁.setTop (entryFrame m #[(.ref a1)] 1))
  refine Gl.go (fun t k => castTop (ef_tot m a1) k) ?_
  show Gl p.tables e below (QQof s (Q_tot Z a1 A B C D h0 n0) 0 0) (s₁.setTop (mkF m 0 #[.val (.ref a1)] []))
  refine Gl.go (fun _ k => XS.aloadN X0.here hx rfl (hb hby d4_0) rfl rfl  k) ?_
  show Gl p.tables e below (QQof s (Q_tot Z a1 A B C D h0 n0) 0 0) (s₁.setTop (mkF m 1 #[.val (.ref a1)] [(.ref a1)]))
  obtain ⟨T1, X1, e1, st1⟩ := getF X0 hx hZ hown (host := "") (Or.inl (hw _ (List.mem_of_getElem? (i := 14) rfl))) Via.refl e0 F_speedup (g := (mkF m 1 #[.val (.ref a1)] [(.ref a1)])) rfl rfl (hb hby d4_1)
  refine Gl.go (fun _ k => st1 _ k) ?_
  show Gl p.tables e below (QQof s (Q_tot Z a1 A B C D h0 n0) 0 0) (T1.setTop (mkF m 4 #[.val (.ref a1)] [(.double (FP.l2d A))]))
  refine Gl.go (fun _ k => XS.aloadN X1.here hx rfl (hb hby d4_4) rfl rfl  k) ?_
  show Gl p.tables e below (QQof s (Q_tot Z a1 A B C D h0 n0) 0 0) (T1.setTop (mkF m 5 #[.val (.ref a1)] [(.ref a1), (.double (FP.l2d A))]))
  obtain ⟨T2, X2, e2, st2⟩ := getF X1 hx hZ hown (host := "") (Or.inl (hw _ (List.mem_of_getElem? (i := 16) rfl))) Via.refl e1 F_tardiness (g := (mkF m 5 #[.val (.ref a1)] [(.ref a1), (.double (FP.l2d A))])) rfl rfl (hb hby d4_5)
  refine Gl.go (fun _ k => st2 _ k) ?_
  show Gl p.tables e below (QQof s (Q_tot Z a1 A B C D h0 n0) 0 0) (T2.setTop (mkF m 8 #[.val (.ref a1)] [(.double (FP.l2d B)), (.double (FP.l2d A))]))
  refine Gl.go (fun _ k => XS.daddS X2.here hx rfl (hb hby d4_8) rfl (nn_w (dadd_w hA hB)) (dadd_w hA hB) k) ?_
  show Gl p.tables e below (QQof s (Q_tot Z a1 A B C D h0 n0) 0 0) (T2.setTop (mkF m 9 #[.val (.ref a1)] [(.double (FP.l2d (A + B)))]))
  refine Gl.go (fun _ k => XS.aloadN X2.here hx rfl (hb hby d4_9) rfl rfl  k) ?_
  show Gl p.tables e below (QQof s (Q_tot Z a1 A B C D h0 n0) 0 0) (T2.setTop (mkF m 10 #[.val (.ref a1)] [(.ref a1), (.double (FP.l2d (A + B)))]))
  obtain ⟨T3, X3, e3, st3⟩ := getF X2 hx hZ hown (host := "") (Or.inl (hw _ (List.mem_of_getElem? (i := 18) rfl))) Via.refl e2 F_late (g := (mkF m 10 #[.val (.ref a1)] [(.ref a1), (.double (FP.l2d (A + B)))])) rfl rfl (hb hby d4_10)
  refine Gl.go (fun _ k => st3 _ k) ?_
  show Gl p.tables e below (QQof s (Q_tot Z a1 A B C D h0 n0) 0 0) (T3.setTop (mkF m 13 #[.val (.ref a1)] [(.double (FP.l2d C)), (.double (FP.l2d (A + B)))]))
  refine Gl.go (fun _ k => XS.daddS X3.here hx rfl (hb hby d4_13) rfl (nn_w (dadd_w hAB hC)) (dadd_w hAB hC) k) ?_
  show Gl p.tables e below (QQof s (Q_tot Z a1 A B C D h0 n0) 0 0) (T3.setTop (mkF m 14 #[.val (.ref a1)] [(.double (FP.l2d ((A + B) + C)))]))
  refine Gl.go (fun _ k => XS.aloadN X3.here hx rfl (hb hby d4_14) rfl rfl  k) ?_
  show Gl p.tables e below (QQof s (Q_tot Z a1 A B C D h0 n0) 0 0) (T3.setTop (mkF m 15 #[.val (.ref a1)] [(.ref a1), (.double (FP.l2d ((A + B) + C)))]))
  obtain ⟨T4, X4, e4, st4⟩ := getF X3 hx hZ hown (host := "") (Or.inl (hw _ (List.mem_of_getElem? (i := 20) rfl))) Via.refl e3 F_cranes (g := (mkF m 15 #[.val (.ref a1)] [(.ref a1), (.double (FP.l2d ((A + B) + C)))])) rfl rfl (hb hby d4_15)
  refine Gl.go (fun _ k => st4 _ k) ?_
  show Gl p.tables e below (QQof s (Q_tot Z a1 A B C D h0 n0) 0 0) (T4.setTop (mkF m 18 #[.val (.ref a1)] [(.double (FP.l2d D)), (.double (FP.l2d ((A + B) + C)))]))
  refine Gl.go (fun _ k => XS.daddS X4.here hx rfl (hb hby d4_18) rfl (nn_w (dadd_w hABC hD)) (dadd_w hABC hD) k) ?_
  show Gl p.tables e below (QQof s (Q_tot Z a1 A B C D h0 n0) 0 0) (T4.setTop (mkF m 19 #[.val (.ref a1)] [(.double (FP.l2d (((A + B) + C) + D)))]))
  refine leafD X4 hx hlk Bd.returns (hb hby d4_19) ?_ (by decide) (by decide)
  exact ⟨rfl, N0, e4⟩
def Q_law (Z : State) (a b c_ d : Int32) (h0 : Heap) (n0 : Nat) (v : Option Value) (h : Heap) (L : List Loc) : Prop := v = some (.int 1) ∧ Fr n0 L
set_option maxRecDepth 65536 in
set_option maxHeartbeats 40000000 in
theorem rm_law (l : Launch) (Z : State) (a0 : Array Value) (hw : ∀ d ∈ tables_1, d.before a0 Z = true) (ws : List Jvm.Cond) (a b c_ d : Int32) (h0 : Heap) (n0 : Nat) (Z0 : n0 ≤ h0.size)  :
    MetFree l x (head1 (Jvm.Cond.code x code maxLocals ret :: ws) room_1) (fun aa U => aa = #[(.int a), (.int b), (.int c_), (.int d)] ∧ Z.Warmed39 U.vm ∧ U.heap = h0) (fun _ _ _ _ _ => True) (fun _ U o U' => ∃ v L, o = .returned v ∧ Q_law Z a b c_ d h0 n0 v U'.heap L ∧ FrameEnd U o U' L 1 4) := by
  refine MetFree.of_bodySF (plainFor_of_name pn_2) hisR ?_
  intro p e s m args below meth c s₁ Bd hml0 hP hK
  obtain ⟨rfl, hZ, hh⟩ := hP
  have hx := Bd.exec
  have hby := Bd.bytes
  have hml : c.maxLocals = 7 := hml0
  have hown : s.vm.findClass "com/example/berthwise/berthwise/model/CostTotalPinLaw" = some m.cls := findClass_of_methodNamed Bd.named
  have hnm := (name_of_methodNamed Bd.named Bd.method).1
  have hlk : meth.locks = false := BodyLoose.notSynchronized Bd
  have X0 : Stand p l e room_1 s m #[(.int a), (.int b), (.int c_), (.int d)] below meth c s₁ [] 0 0 := Stand.of_body Bd
  have e0 : s₁.heap = h0 := by rw [← hh, Bd.state]; rfl
  have N0 := Fr.nil n0
  have K0 : Keep h0 h0 [] := Keep.refl _ _
  show Gl p.tables e below (QQof s (Q_law Z a b c_ d h0 n0) 1 4) (s₁.setTop (entryFrame m #[(.int a), (.int b), (.int c_), (.int d)] maxLocals))
  refine Gl.go (fun t k => castTop (ef_law m a b c_ d) k) ?_
  show Gl p.tables e below (QQof s (Q_law Z a b c_ d h0 n0) 1 4) (s₁.setTop (mkF m 0 #[.val (.int a), .val (.int b), .val (.int c_), .val (.int d), .unset, .unset, .unset] []))
  obtain ⟨T1, h1, X1, e1, E1, A1, D1, -, st1⟩ := newO X0 hx hZ hown (hw _ (List.mem_of_getElem? (i := 0) rfl)) (hw _ (List.mem_of_getElem? (i := 1) rfl)) (hw _ (List.mem_of_getElem? (i := 2) rfl)) e0 (g := (mkF m 0 #[.val (.int a), .val (.int b), .val (.int c_), .val (.int d), .unset, .unset, .unset] [])) rfl (hb hby at_0) (by decide) (by decide)
  obtain ⟨b1, g1⟩ : ∃ z, z = h0.size := ⟨_, rfl⟩
  rw [← g1] at A1 D1 st1
  have g_b1 : n0 ≤ b1 := Nat.le_trans Z0 (Nat.le_of_eq g1.symm)
  have sz_b1 : h0.size ≤ b1 := Nat.le_trans K0.1 (Nat.le_of_eq g1.symm)
  have SZ1 : n0 ≤ h1.size := Nat.le_trans Z0 E1.1
  have K1 : Keep h0 h1 [] := K0.ext E1
  have F_b1_speedup_1 : Fld Z h1 b1 "com/example/berthwise/berthwise/model/Cost" "speedup" "D" (.double (0 : UInt64)) := D1 (Or.inr (hw _ (List.mem_of_getElem? (i := 15) rfl))) (ty := .double) (by decide)
  have F_b1_tardiness_1 : Fld Z h1 b1 "com/example/berthwise/berthwise/model/Cost" "tardiness" "D" (.double (0 : UInt64)) := D1 (Or.inr (hw _ (List.mem_of_getElem? (i := 17) rfl))) (ty := .double) (by decide)
  have F_b1_late_1 : Fld Z h1 b1 "com/example/berthwise/berthwise/model/Cost" "late" "D" (.double (0 : UInt64)) := D1 (Or.inr (hw _ (List.mem_of_getElem? (i := 19) rfl))) (ty := .double) (by decide)
  have F_b1_cranes_1 : Fld Z h1 b1 "com/example/berthwise/berthwise/model/Cost" "cranes" "D" (.double (0 : UInt64)) := D1 (Or.inr (hw _ (List.mem_of_getElem? (i := 21) rfl))) (ty := .double) (by decide)
  refine Gl.go (fun _ k => st1 _ k) ?_
  show Gl p.tables e below (QQof s (Q_law Z a b c_ d h0 n0) 1 4) (T1.setTop (mkF m 3 #[.val (.int a), .val (.int b), .val (.int c_), .val (.int d), .unset, .unset, .unset] [(.ref b1)]))
  refine Gl.go (fun _ k => XS.dup X1.here hx rfl (hb hby at_3) rfl rfl k) ?_
  show Gl p.tables e below (QQof s (Q_law Z a b c_ d h0 n0) 1 4) (T1.setTop (mkF m 4 #[.val (.int a), .val (.int b), .val (.int c_), .val (.int d), .unset, .unset, .unset] [(.ref b1), (.ref b1)]))
  refine Gl.go (fun _ k => XS.iloadN X1.here hx rfl (hb hby at_4) rfl  k) ?_
  show Gl p.tables e below (QQof s (Q_law Z a b c_ d h0 n0) 1 4) (T1.setTop (mkF m 5 #[.val (.int a), .val (.int b), .val (.int c_), .val (.int d), .unset, .unset, .unset] [(.int a), (.ref b1), (.ref b1)]))
  refine Gl.go (fun _ k => XS.i2dS X1.here hx rfl (hb hby at_5) rfl (i2d_w a) k) ?_
  show Gl p.tables e below (QQof s (Q_law Z a b c_ d h0 n0) 1 4) (T1.setTop (mkF m 6 #[.val (.int a), .val (.int b), .val (.int c_), .val (.int d), .unset, .unset, .unset] [(.double (FP.l2d a.toInt64)), (.ref b1), (.ref b1)]))
  refine Gl.go (fun _ k => XS.iloadN X1.here hx rfl (hb hby at_6) rfl  k) ?_
  show Gl p.tables e below (QQof s (Q_law Z a b c_ d h0 n0) 1 4) (T1.setTop (mkF m 7 #[.val (.int a), .val (.int b), .val (.int c_), .val (.int d), .unset, .unset, .unset] [(.int b), (.double (FP.l2d a.toInt64)), (.ref b1), (.ref b1)]))
  refine Gl.go (fun _ k => XS.i2dS X1.here hx rfl (hb hby at_7) rfl (i2d_w b) k) ?_
  show Gl p.tables e below (QQof s (Q_law Z a b c_ d h0 n0) 1 4) (T1.setTop (mkF m 8 #[.val (.int a), .val (.int b), .val (.int c_), .val (.int d), .unset, .unset, .unset] [(.double (FP.l2d b.toInt64)), (.double (FP.l2d a.toInt64)), (.ref b1), (.ref b1)]))
  refine Gl.go (fun _ k => XS.iloadN X1.here hx rfl (hb hby at_8) rfl  k) ?_
  show Gl p.tables e below (QQof s (Q_law Z a b c_ d h0 n0) 1 4) (T1.setTop (mkF m 9 #[.val (.int a), .val (.int b), .val (.int c_), .val (.int d), .unset, .unset, .unset] [(.int c_), (.double (FP.l2d b.toInt64)), (.double (FP.l2d a.toInt64)), (.ref b1), (.ref b1)]))
  refine Gl.go (fun _ k => XS.i2dS X1.here hx rfl (hb hby at_9) rfl (i2d_w c_) k) ?_
  show Gl p.tables e below (QQof s (Q_law Z a b c_ d h0 n0) 1 4) (T1.setTop (mkF m 10 #[.val (.int a), .val (.int b), .val (.int c_), .val (.int d), .unset, .unset, .unset] [(.double (FP.l2d c_.toInt64)), (.double (FP.l2d b.toInt64)), (.double (FP.l2d a.toInt64)), (.ref b1), (.ref b1)]))
  refine Gl.go (fun _ k => XS.iloadN X1.here hx rfl (hb hby at_10) rfl  k) ?_
  show Gl p.tables e below (QQof s (Q_law Z a b c_ d h0 n0) 1 4) (T1.setTop (mkF m 11 #[.val (.int a), .val (.int b), .val (.int c_), .val (.int d), .unset, .unset, .unset] [(.int d), (.double (FP.l2d c_.toInt64)), (.double (FP.l2d b.toInt64)), (.double (FP.l2d a.toInt64)), (.ref b1), (.ref b1)]))
  refine Gl.go (fun _ k => XS.i2dS X1.here hx rfl (hb hby at_11) rfl (i2d_w d) k) ?_
  show Gl p.tables e below (QQof s (Q_law Z a b c_ d h0 n0) 1 4) (T1.setTop (mkF m 12 #[.val (.int a), .val (.int b), .val (.int c_), .val (.int d), .unset, .unset, .unset] [(.double (FP.l2d d.toInt64)), (.double (FP.l2d c_.toInt64)), (.double (FP.l2d b.toInt64)), (.double (FP.l2d a.toInt64)), (.ref b1), (.ref b1)]))
  obtain ⟨_, _, ⟨T2, L2, k2, n2⟩, -, X2, ⟨Lc2, hQ2, l2, y2, z2⟩, st2⟩ := X1.specialBack hx (y := (⟨"com/example/berthwise/berthwise/model/Cost", "<init>", "(DDDD)V"⟩ : MethodName)) rfl hown (mvT hZ (hw _ (List.mem_of_getElem? (i := 3) rfl))) (mvT hZ (hw _ (List.mem_of_getElem? (i := 4) rfl))) (mvT hZ (hw _ (List.mem_of_getElem? (i := 5) rfl))) (by decide) (backOf (W := 1) (rm_ini l Z a0 hw [] b1 (FP.l2d a.toInt64) (FP.l2d b.toInt64) (FP.l2d c_.toInt64) (FP.l2d d.toInt64) (.double 0) (.double 0) (.double 0) (.double 0) h1 n0 SZ1 A1 F_b1_speedup_1 F_b1_tardiness_1 F_b1_late_1 F_b1_cranes_1 g_b1) hZ (hw _ (List.mem_of_getElem? (i := 5) rfl)) (hw _ (List.mem_of_getElem? (i := 2) rfl)) (by decide) (by decide)) (g := (mkF m 12 #[.val (.int a), .val (.int b), .val (.int c_), .val (.int d), .unset, .unset, .unset] [(.double (FP.l2d d.toInt64)), (.double (FP.l2d c_.toInt64)), (.double (FP.l2d b.toInt64)), (.double (FP.l2d a.toInt64)), (.ref b1), (.ref b1)])) rfl (by rw [hml]; rfl) (Steps.refl _) (a := b1) (argsL := [(.double (FP.l2d a.toInt64)), (.double (FP.l2d b.toInt64)), (.double (FP.l2d c_.toInt64)), (.double (FP.l2d d.toInt64))]) (rest := [(.ref b1)]) (lenOf pd_1 rfl) rfl (by show 2 * 0 + _ ≤ _; exact Nat.le_of_eq rfl) (hb hby at_12) (fun _ _ => ⟨rfl, e1, (by decide : 1 + 0 ≤ _), (by decide : 4 + 0 ≤ _)⟩)
  dsimp only [Pt.U, Pt.locs, Pt.cells, Pt.slots] at X2 l2 y2 z2 st2 hQ2
  subst l2 y2 z2
  obtain ⟨rfl, Nq2, Kc2, Ec2, F12, F22, F32, F42⟩ := hQ2
  have N2 := Fr.app N0 Nq2
  refine Gl.go (fun _ k => st2.trans k) ?_
  have E_b1_2 : Exa Z T2.heap b1 "com/example/berthwise/berthwise/model/Cost" := A1.keep Kc2
  have SZ2 : n0 ≤ T2.heap.size := Nat.le_trans SZ1 Kc2.1
  have K2 : Keep h0 T2.heap [] := K1.trans Kc2 (allS (Or.inr sz_b1) all0)
  show Gl p.tables e below (QQof s (Q_law Z a b c_ d h0 n0) 1 4) (T2.setTop (mkF m 15 #[.val (.int a), .val (.int b), .val (.int c_), .val (.int d), .unset, .unset, .unset] [(.ref b1)]))
  refine Gl.go (fun _ k => XS.astore X2.here hx rfl (hb hby at_15) rfl rfl (l' := #[.val (.int a), .val (.int b), .val (.int c_), .val (.int d), .val (.ref b1), .unset, .unset]) rfl k) ?_
  show Gl p.tables e below (QQof s (Q_law Z a b c_ d h0 n0) 1 4) (T2.setTop (mkF m 17 #[.val (.int a), .val (.int b), .val (.int c_), .val (.int d), .val (.ref b1), .unset, .unset] []))
  refine Gl.go (fun _ k => XS.iloadN X2.here hx rfl (hb hby at_17) rfl  k) ?_
  show Gl p.tables e below (QQof s (Q_law Z a b c_ d h0 n0) 1 4) (T2.setTop (mkF m 18 #[.val (.int a), .val (.int b), .val (.int c_), .val (.int d), .val (.ref b1), .unset, .unset] [(.int a)]))
  refine Gl.go (fun _ k => XS.i2l X2.here hx rfl (hb hby at_18) rfl k) ?_
  show Gl p.tables e below (QQof s (Q_law Z a b c_ d h0 n0) 1 4) (T2.setTop (mkF m 19 #[.val (.int a), .val (.int b), .val (.int c_), .val (.int d), .val (.ref b1), .unset, .unset] [(.long (a.toInt64))]))
  refine Gl.go (fun _ k => XS.iloadN X2.here hx rfl (hb hby at_19) rfl  k) ?_
  show Gl p.tables e below (QQof s (Q_law Z a b c_ d h0 n0) 1 4) (T2.setTop (mkF m 20 #[.val (.int a), .val (.int b), .val (.int c_), .val (.int d), .val (.ref b1), .unset, .unset] [(.int b), (.long (a.toInt64))]))
  refine Gl.go (fun _ k => XS.i2l X2.here hx rfl (hb hby at_20) rfl k) ?_
  show Gl p.tables e below (QQof s (Q_law Z a b c_ d h0 n0) 1 4) (T2.setTop (mkF m 21 #[.val (.int a), .val (.int b), .val (.int c_), .val (.int d), .val (.ref b1), .unset, .unset] [(.long (b.toInt64)), (.long (a.toInt64))]))
  refine Gl.go (fun _ k => XS.ladd X2.here hx rfl (hb hby at_21) rfl k) ?_
  show Gl p.tables e below (QQof s (Q_law Z a b c_ d h0 n0) 1 4) (T2.setTop (mkF m 22 #[.val (.int a), .val (.int b), .val (.int c_), .val (.int d), .val (.ref b1), .unset, .unset] [(.long ((a.toInt64) + (b.toInt64)))]))
  refine Gl.go (fun _ k => XS.iloadN X2.here hx rfl (hb hby at_22) rfl  k) ?_
  show Gl p.tables e below (QQof s (Q_law Z a b c_ d h0 n0) 1 4) (T2.setTop (mkF m 23 #[.val (.int a), .val (.int b), .val (.int c_), .val (.int d), .val (.ref b1), .unset, .unset] [(.int c_), (.long ((a.toInt64) + (b.toInt64)))]))
  refine Gl.go (fun _ k => XS.i2l X2.here hx rfl (hb hby at_23) rfl k) ?_
  show Gl p.tables e below (QQof s (Q_law Z a b c_ d h0 n0) 1 4) (T2.setTop (mkF m 24 #[.val (.int a), .val (.int b), .val (.int c_), .val (.int d), .val (.ref b1), .unset, .unset] [(.long (c_.toInt64)), (.long ((a.toInt64) + (b.toInt64)))]))
  refine Gl.go (fun _ k => XS.ladd X2.here hx rfl (hb hby at_24) rfl k) ?_
  show Gl p.tables e below (QQof s (Q_law Z a b c_ d h0 n0) 1 4) (T2.setTop (mkF m 25 #[.val (.int a), .val (.int b), .val (.int c_), .val (.int d), .val (.ref b1), .unset, .unset] [(.long (((a.toInt64) + (b.toInt64)) + (c_.toInt64)))]))
  refine Gl.go (fun _ k => XS.iloadN X2.here hx rfl (hb hby at_25) rfl  k) ?_
  show Gl p.tables e below (QQof s (Q_law Z a b c_ d h0 n0) 1 4) (T2.setTop (mkF m 26 #[.val (.int a), .val (.int b), .val (.int c_), .val (.int d), .val (.ref b1), .unset, .unset] [(.int d), (.long (((a.toInt64) + (b.toInt64)) + (c_.toInt64)))]))
  refine Gl.go (fun _ k => XS.i2l X2.here hx rfl (hb hby at_26) rfl k) ?_
  show Gl p.tables e below (QQof s (Q_law Z a b c_ d h0 n0) 1 4) (T2.setTop (mkF m 27 #[.val (.int a), .val (.int b), .val (.int c_), .val (.int d), .val (.ref b1), .unset, .unset] [(.long (d.toInt64)), (.long (((a.toInt64) + (b.toInt64)) + (c_.toInt64)))]))
  refine Gl.go (fun _ k => XS.ladd X2.here hx rfl (hb hby at_27) rfl k) ?_
  show Gl p.tables e below (QQof s (Q_law Z a b c_ d h0 n0) 1 4) (T2.setTop (mkF m 28 #[.val (.int a), .val (.int b), .val (.int c_), .val (.int d), .val (.ref b1), .unset, .unset] [(.long ((((a.toInt64) + (b.toInt64)) + (c_.toInt64)) + (d.toInt64)))]))
  refine Gl.go (fun _ k => XS.lstore X2.here hx rfl (hb hby at_28) rfl (l' := #[.val (.int a), .val (.int b), .val (.int c_), .val (.int d), .val (.ref b1), .val (.long ((((a.toInt64) + (b.toInt64)) + (c_.toInt64)) + (d.toInt64))), .second]) rfl k) ?_
  show Gl p.tables e below (QQof s (Q_law Z a b c_ d h0 n0) 1 4) (T2.setTop (mkF m 30 #[.val (.int a), .val (.int b), .val (.int c_), .val (.int d), .val (.ref b1), .val (.long ((((a.toInt64) + (b.toInt64)) + (c_.toInt64)) + (d.toInt64))), .second] []))
  refine Gl.go (fun _ k => XS.aload X2.here hx rfl (hb hby at_30) rfl rfl  k) ?_
  show Gl p.tables e below (QQof s (Q_law Z a b c_ d h0 n0) 1 4) (T2.setTop (mkF m 32 #[.val (.int a), .val (.int b), .val (.int c_), .val (.int d), .val (.ref b1), .val (.long ((((a.toInt64) + (b.toInt64)) + (c_.toInt64)) + (d.toInt64))), .second] [(.ref b1)]))
  have oa := own_b a
  have ob := own_b b
  have oc := own_b c_
  have od := own_b d
  have oab := own_s (k := 2147483648) ⟨oa.1, by omega, by omega⟩ (by omega) ob
  have oabc := own_s (k := 2147483648 + 2147483648) oab (by omega) oc
  obtain ⟨cq3, kq3, q3a, q3b, q3c⟩ := isOf hZ rfl E_b1_2
  obtain ⟨_, _, ⟨T3, L3, k3, n3⟩, -, X3, ⟨Lc3, hQ3, l3, y3, z3⟩, st3⟩ := X2.virtualBack hx (y := (⟨"com/example/berthwise/berthwise/model/Cost", "total", "()D"⟩ : MethodName)) (z := (⟨"com/example/berthwise/berthwise/model/Cost", "total", "()D"⟩ : MethodName)) hown (mvT hZ (hw _ (List.mem_of_getElem? (i := 22) rfl))) (mvT hZ (hw _ (List.mem_of_getElem? (i := 23) rfl))) (notFace_of_selects (args := #[]) (mvT hZ (hw _ (List.mem_of_getElem? (i := 25) rfl)))) (mvT hZ (hw _ (List.mem_of_getElem? (i := 25) rfl))) (mvT hZ (hw _ (List.mem_of_getElem? (i := 24) rfl))) (by decide) (backOf (W := 0) (rm_tot l Z a0 hw [] b1 a.toInt64 b.toInt64 c_.toInt64 d.toInt64 T2.heap n0 SZ2 oa.1 ob.1 oc.1 od.1 oab.1 oabc.1 F12 F22 F32 F42) hZ (hw _ (List.mem_of_getElem? (i := 26) rfl)) (hw _ (List.mem_of_getElem? (i := 2) rfl)) (by decide) (by decide)) q3a q3c (g := (mkF m 32 #[.val (.int a), .val (.int b), .val (.int c_), .val (.int d), .val (.ref b1), .val (.long ((((a.toInt64) + (b.toInt64)) + (c_.toInt64)) + (d.toInt64))), .second] [(.ref b1)])) rfl (by rw [hml]; rfl) (Steps.refl _) (argsL := []) (rest := []) (lenOf pd_2 rfl) rfl (by show 2 * 0 + _ ≤ _; exact Nat.le_of_eq rfl) (hb hby at_32) (fun _ _ => ⟨rfl, rfl, (by decide : 1 + 0 ≤ _), (by decide : 4 + 0 ≤ _)⟩)
  dsimp only [Pt.U, Pt.locs, Pt.cells, Pt.slots] at X3 l3 y3 z3 st3 hQ3
  subst l3 y3 z3
  obtain ⟨rfl, Nq3, e3⟩ := hQ3
  have N3 := Fr.app N2 Nq3
  refine Gl.go (fun _ k => st3.trans k) ?_
  show Gl p.tables e below (QQof s (Q_law Z a b c_ d h0 n0) 1 4) (T3.setTop (mkF m 35 #[.val (.int a), .val (.int b), .val (.int c_), .val (.int d), .val (.ref b1), .val (.long ((((a.toInt64) + (b.toInt64)) + (c_.toInt64)) + (d.toInt64))), .second] [(.double (FP.l2d (((a.toInt64 + b.toInt64) + c_.toInt64) + d.toInt64)))]))
  refine Gl.go (fun _ k => XS.lload X3.here hx rfl (hb hby at_35) rfl  k) ?_
  show Gl p.tables e below (QQof s (Q_law Z a b c_ d h0 n0) 1 4) (T3.setTop (mkF m 37 #[.val (.int a), .val (.int b), .val (.int c_), .val (.int d), .val (.ref b1), .val (.long ((((a.toInt64) + (b.toInt64)) + (c_.toInt64)) + (d.toInt64))), .second] [(.long ((((a.toInt64) + (b.toInt64)) + (c_.toInt64)) + (d.toInt64))), (.double (FP.l2d (((a.toInt64 + b.toInt64) + c_.toInt64) + d.toInt64)))]))
  refine Gl.go (fun _ k => XS.l2dS X3.here hx rfl (hb hby at_37) rfl rfl k) ?_
  show Gl p.tables e below (QQof s (Q_law Z a b c_ d h0 n0) 1 4) (T3.setTop (mkF m 38 #[.val (.int a), .val (.int b), .val (.int c_), .val (.int d), .val (.ref b1), .val (.long ((((a.toInt64) + (b.toInt64)) + (c_.toInt64)) + (d.toInt64))), .second] [(.double (FP.l2d ((((a.toInt64) + (b.toInt64)) + (c_.toInt64)) + (d.toInt64)))), (.double (FP.l2d (((a.toInt64 + b.toInt64) + c_.toInt64) + d.toInt64)))]))
  refine Gl.go (fun _ k => XS.dcmpS X3.here hx rfl (hb hby at_38) rfl rfl k) ?_
  show Gl p.tables e below (QQof s (Q_law Z a b c_ d h0 n0) 1 4) (T3.setTop (mkF m 39 #[.val (.int a), .val (.int b), .val (.int c_), .val (.int d), .val (.ref b1), .val (.long ((((a.toInt64) + (b.toInt64)) + (c_.toInt64)) + (d.toInt64))), .second] [(.int (cmpValue (FP.dcmp (FP.l2d (((a.toInt64 + b.toInt64) + c_.toInt64) + d.toInt64)) (FP.l2d ((((a.toInt64) + (b.toInt64)) + (c_.toInt64)) + (d.toInt64)))) .l))]))
  refine Gl.go (fun _ k => XS.ifNo X3.here hx rfl (hb hby at_39) rfl ((if0 _ _).trans (teq (dcmpV_self (nn_w rfl) .l)).2) k) ?_
  show Gl p.tables e below (QQof s (Q_law Z a b c_ d h0 n0) 1 4) (T3.setTop (mkF m 42 #[.val (.int a), .val (.int b), .val (.int c_), .val (.int d), .val (.ref b1), .val (.long ((((a.toInt64) + (b.toInt64)) + (c_.toInt64)) + (d.toInt64))), .second] []))
  refine Gl.go (fun _ k => XS.iconst X3.here hx rfl (hb hby at_42) k) ?_
  show Gl p.tables e below (QQof s (Q_law Z a b c_ d h0 n0) 1 4) (T3.setTop (mkF m 43 #[.val (.int a), .val (.int b), .val (.int c_), .val (.int d), .val (.ref b1), .val (.long ((((a.toInt64) + (b.toInt64)) + (c_.toInt64)) + (d.toInt64))), .second] [(.int (1 : Int32))]))
  refine Gl.go (fun _ k => XS.goto X3.here hx rfl (pc0 := 43) (pc' := 47) rfl (hb hby at_43) (by decide) (by decide) k) ?_
  show Gl p.tables e below (QQof s (Q_law Z a b c_ d h0 n0) 1 4) (T3.setTop (mkF m 47 #[.val (.int a), .val (.int b), .val (.int c_), .val (.int d), .val (.ref b1), .val (.long ((((a.toInt64) + (b.toInt64)) + (c_.toInt64)) + (d.toInt64))), .second] [(.int (1 : Int32))]))
  refine leafN X3 hx hlk (t := .boolean) Bd.returns (by simp) (hb hby at_47) ?_ (by decide) (by decide)
  exact ⟨rfl, N3⟩
set_option maxRecDepth 65536 in
set_option maxHeartbeats 40000000 in
theorem comes_1 {Post : Tables → Env → Array Value → State → Outcome → State → Prop} (hpost : ∀ tb e args s v u, (limb_1_1.after args s (.returned v) u = true ∧ limb_1_2.after args s (.returned v) u = true ∧ True) → FrameEnd s (.returned v) u (Jvm.fieldLocs frame_1_writes args s ++ Jvm.arrayLocs frame_1_arrays args s ++ Jvm.staticLocs frame_1_statics s) 16 128 → Post tb e args s (.returned v) u) :
    ArmFor flags0 classFile x code maxLocals ret World_1 tables_1 room_1 Calls_1 rest_1 Pre_1 Post := by
  intro l hfl _ _ p e ha hc hk s m args below hf hA hF happ hP
  obtain ⟨hcalls, hrest, hpre⟩ := hP
  obtain ⟨-, -, -, hnamed, -, -, -, hat⟩ := (Spec.applies_iff hf).mp happ
  obtain ⟨hg, hn⟩ := and_e (Cond.before_iff.mp (show (Jvm.Cond.and given_1 narrow_1).before args s = true from hpre))
  obtain ⟨hcount, hg0⟩ := and_e hg
  obtain ⟨hk0, hg1⟩ := and_e hg0
  obtain ⟨hk1, hg2⟩ := and_e hg1
  obtain ⟨hk2, hg3⟩ := and_e hg2
  have hk3 := hg3
  obtain ⟨w0, w1, w2, w3, rfl⟩ : ∃ w0 w1 w2 w3 : Value, args = #[w0, w1, w2, w3] := by
    have hs : args.size = 4 := by simpa [Cond.value, given_1] using hcount
    obtain ⟨L⟩ := args
    match L, hs with
    | [w0, w1, w2, w3], _ => exact ⟨w0, w1, w2, w3, rfl⟩
  have hw := fun d (hd : d ∈ tables_1) => atoms_spec (ws := Jvm.Cond.code x code maxLocals ret :: tables_1) hat d (List.mem_cons_of_mem _ hd)
  have hfit : Fit s := fun {y c} hc i hi => by
    obtain ⟨ha, rfl⟩ := Array.getElem?_eq_some_iff.mp hc
    have q := List.all_eq_true.mp ((Array.all_eq_true_iff_forall_mem.mp hF) _ (Array.getElem_mem ha)) i (List.mem_range.mpr hi)
    simpa [Array.getElem?_eq_getElem hi] using q
  obtain ⟨i0, ei0⟩ := is_v hk0
  obtain rfl : w0 = (.int i0) := Option.some.inj ei0
  obtain ⟨i1, ei1⟩ := is_v hk1
  obtain rfl : w1 = (.int i1) := Option.some.inj ei1
  obtain ⟨i2, ei2⟩ := is_v hk2
  obtain rfl : w2 = (.int i2) := Option.some.inj ei2
  obtain ⟨i3, ei3⟩ := is_v hk3
  obtain rfl : w3 = (.int i3) := Option.some.inj ei3
  obtain ⟨n, o, h1, h2, h3, _, L, rfl, ⟨rfl, N⟩, hq⟩ := rm_law l s _ hw tables_1 i0 i1 i2 i3 s.heap s.heap.size (Nat.le_refl _)  p e ha hc hk s m _ below hf ((Spec.applies_iff_loose hf).mp happ).1 ⟨rfl, State.Warmed39.refl s, rfl⟩ trivial
  refine ⟨n, _, h1, h2, h3, hpost _ _ _ _ _ _ ⟨Cond.after_iff.mpr rfl, Cond.after_iff.mpr (eq_i res_at (Term.int_eval (1)) rfl), trivial⟩ ⟨hq.1, hq.2.1, (hq.2.2.sift fun y hy => Or.inr (N y hy)).mono (by decide) (by decide)⟩⟩
theorem main_1_1 : Claimed_1_1 := comes_1 fun _ _ _ _ _ _ h hF => ⟨h.1, hF⟩
theorem main_1_2 : Claimed_1_2 := comes_1 fun _ _ _ _ _ _ h hF => ⟨h.2.1, hF⟩
end Jvm.Pilot.@@N@@
namespace Jvm.Pilot.@@N@@
open Jvm Jvm.ClassFile Sem Op Lib Jvm.Free Jvm.Stand Jvm.Pilot.@@N@@.Jvm.D
/-! MADE BY PROGRAM (witnessworld.py) out of the Statement's table words and the real class files: 10 classes; the members and pool entries that the words name. The judged class is class 1, her method 1. -/
namespace start1
open Jvm.ClassFile
def u (s : String) : CpInfo := .utf8 (stringToUtf16 s)
/-- a pool by its gaps: so many unusable entries, then the entry; so many at the end -/
def gap : Nat → List CpInfo → List CpInfo
  | 0, r => r
  | n + 1, r => .unusable :: gap n r
def poolList (es : List (Nat × CpInfo)) (last : Nat) : List CpInfo := es.foldr (fun e r => gap e.1 (e.2 :: r)) (gap last [])
def pool (es : List (Nat × CpInfo)) (last : Nat) : Array CpInfo := ⟨poolList es last⟩
def fileOf (pool : Array CpInfo) (this : Nat) (attrs : Array Attribute := #[]) (ms : Array MethodInfo := #[]) (fl : Nat := 33) (sup : Nat := 0) (ifs : Array Nat := #[]) (fds : Array FieldInfo := #[]) : ClassFile where
  minorVersion := 0
  majorVersion := 65
  constantPool := pool
  accessFlags := fl
  thisClass := this
  superClass := sup
  interfaces := ifs
  fields := fds
  methods := ms
  attributes := attrs
def plain (name : String) (sup : Option ClassId) : Class where
  name := name
  kind := .ordinary
  loader := none
  accessFlags := 33
  super := sup
  interfaces := #[]
  cf := none
  fields := #[]
  methods := #[]
  instanceTypes := #[]
  staticTypes := #[]
  resolved := #[]
  callSites := []
  init := .initialized
  statics := none
  mirror := none

def pool0 : Array CpInfo := pool [(5, u "<init>"), (0, u "()V"), (1, .class_ 10), (1, u "java/lang/Object")] 113

def k0c0 : Code := { maxStack := 0, maxLocals := 1, code := object_method_1_code, exceptionTable := #[], attributes := #[] }
def k0m0 : Method := { name := "<init>", desc := "()V", sig := { parameters := [], returnType := none }, accessFlags := 1, code := some k0c0 }
/-- java/lang/Object -/
def k0 : Class := { plain "java/lang/Object" none with
  accessFlags := 33
  interfaces := #[]
  cf := some (fileOf pool0 8 #[] #[{ accessFlags := 1, nameIndex := 5, descriptorIndex := 6, attributes := #[] }] 33 0 #[] #[])
  fields := #[]
  methods := #[k0m0]
  instanceTypes := #[]
  staticTypes := #[]
  resolved := Array.replicate 124 none
  statics := none }

def pool1 : Array CpInfo := pool [(2, .class_ 4), (1, u "java/lang/Object"), (0, u "<init>"), (0, u "()V"), (0, .class_ 8), (0, u "com/example/berthwise/berthwise/model/Cost"), (0, .methodref 7 10), (0, .nameAndType 5 11), (0, u "(DDDD)V"), (0, .methodref 7 13), (0, .nameAndType 14 15), (0, u "total"), (0, u "()D"), (0, .class_ 17), (0, u "com/example/berthwise/berthwise/model/CostTotalPinLaw"), (2, u "law"), (0, u "(IIII)Z")] 3

def k1m0 : Method := { name := "<init>", desc := "()V", sig := { parameters := [], returnType := none }, accessFlags := 1, code := none }
def k1c1 : Code := { maxStack := 10, maxLocals := 7, code := code, exceptionTable := #[], attributes := #[] }
def k1m1 : Method := { name := "law", desc := "(IIII)Z", sig := { parameters := [.int, .int, .int, .int], returnType := some .boolean }, accessFlags := 9, code := some k1c1 }
/-- com/example/berthwise/berthwise/model/CostTotalPinLaw -/
def k1 : Class := { plain "com/example/berthwise/berthwise/model/CostTotalPinLaw" (some 0) with
  accessFlags := 49
  interfaces := #[]
  cf := some (fileOf pool1 16 #[] #[{ accessFlags := 1, nameIndex := 5, descriptorIndex := 6, attributes := #[] }, { accessFlags := 9, nameIndex := 20, descriptorIndex := 21, attributes := #[] }] 49 2 #[] #[])
  fields := #[]
  methods := #[k1m0, k1m1]
  instanceTypes := #[]
  staticTypes := #[]
  resolved := Array.replicate 25 none
  statics := none }

def pool2 : Array CpInfo := pool [(1, .methodref 2 3), (0, .class_ 4), (0, .nameAndType 5 6), (0, u "java/lang/Object"), (0, u "<init>"), (0, u "()V"), (0, .class_ 8), (0, u "java/lang/Record")] 13

def k2c0 : Code := { maxStack := 1, maxLocals := 1, code := jdk_30_method_1_code, exceptionTable := #[], attributes := #[] }
def k2m0 : Method := { name := "<init>", desc := "()V", sig := { parameters := [], returnType := none }, accessFlags := 4, code := some k2c0 }
/-- java/lang/Record -/
def k2 : Class := { plain "java/lang/Record" (some 0) with
  accessFlags := 1057
  interfaces := #[]
  cf := some (fileOf pool2 7 #[] #[{ accessFlags := 4, nameIndex := 5, descriptorIndex := 6, attributes := #[] }] 1057 2 #[] #[])
  fields := #[]
  methods := #[k2m0]
  instanceTypes := #[]
  staticTypes := #[]
  resolved := Array.replicate 22 none
  statics := none }

def pool3 : Array CpInfo := pool [(1, .methodref 2 3), (0, .class_ 4), (0, .nameAndType 5 6), (0, u "java/lang/Record"), (0, u "<init>"), (0, u "()V"), (0, .fieldref 8 9), (0, .class_ 10), (0, .nameAndType 11 12), (0, u "com/example/berthwise/berthwise/model/Cost"), (0, u "speedup"), (0, u "D"), (0, .fieldref 8 14), (0, .nameAndType 15 12), (0, u "tardiness"), (0, .fieldref 8 17), (0, .nameAndType 18 12), (0, u "late"), (0, .fieldref 8 20), (0, .nameAndType 21 12), (0, u "cranes"), (33, u "()D"), (17, u "(DDDD)V"), (14, u "ZERO"), (0, u "Lcom/example/berthwise/berthwise/model/Cost;"), (0, u "TOLERANCE"), (9, u "total")] 28

def k3c0 : Code := { maxStack := 3, maxLocals := 9, code := prog_20_method_1_code, exceptionTable := #[], attributes := #[] }
def k3m0 : Method := { name := "<init>", desc := "(DDDD)V", sig := { parameters := [.double, .double, .double, .double], returnType := none }, accessFlags := 1, code := some k3c0 }
def k3c1 : Code := { maxStack := 4, maxLocals := 1, code := prog_20_method_3_code, exceptionTable := #[], attributes := #[] }
def k3m1 : Method := { name := "total", desc := "()D", sig := { parameters := [], returnType := some .double }, accessFlags := 1, code := some k3c1 }
/-- com/example/berthwise/berthwise/model/Cost -/
def k3 : Class := { plain "com/example/berthwise/berthwise/model/Cost" (some 2) with
  accessFlags := 49
  interfaces := #[]
  cf := some (fileOf pool3 8 #[] #[{ accessFlags := 1, nameIndex := 5, descriptorIndex := 73, attributes := #[] }, { accessFlags := 1, nameIndex := 100, descriptorIndex := 55, attributes := #[] }] 49 2 #[] #[{ accessFlags := 18, nameIndex := 11, descriptorIndex := 12, attributes := #[] }, { accessFlags := 18, nameIndex := 15, descriptorIndex := 12, attributes := #[] }, { accessFlags := 18, nameIndex := 18, descriptorIndex := 12, attributes := #[] }, { accessFlags := 18, nameIndex := 21, descriptorIndex := 12, attributes := #[] }, { accessFlags := 25, nameIndex := 88, descriptorIndex := 89, attributes := #[] }, { accessFlags := 25, nameIndex := 90, descriptorIndex := 12, attributes := #[] }])
  fields := #[{ name := "speedup", type := .double, accessFlags := 18, slot := 0, constantValue := 0 }, { name := "tardiness", type := .double, accessFlags := 18, slot := 1, constantValue := 0 }, { name := "late", type := .double, accessFlags := 18, slot := 2, constantValue := 0 }, { name := "cranes", type := .double, accessFlags := 18, slot := 3, constantValue := 0 }, { name := "ZERO", type := (.object "com/example/berthwise/berthwise/model/Cost"), accessFlags := 25, slot := 0, constantValue := 0 }, { name := "TOLERANCE", type := .double, accessFlags := 25, slot := 1, constantValue := 0 }]
  methods := #[k3m0, k3m1]
  instanceTypes := #[.double, .double, .double, .double]
  staticTypes := #[(.object "com/example/berthwise/berthwise/model/Cost"), .double]
  resolved := Array.replicate 129 none
  statics := none }

def pool4 : Array CpInfo := pool [(1, u "java/lang/Cloneable"), (0, .class_ 1), (0, u "java/lang/Object"), (0, .class_ 3)] 3

/-- java/lang/Cloneable -/
def k4 : Class := { plain "java/lang/Cloneable" (some 0) with
  accessFlags := 1537
  interfaces := #[]
  cf := some (fileOf pool4 2 #[] #[] 1537 4 #[] #[])
  fields := #[]
  methods := #[]
  instanceTypes := #[]
  staticTypes := #[]
  resolved := Array.replicate 8 none
  statics := none }

def pool5 : Array CpInfo := pool [(1, u "java/io/Serializable"), (0, .class_ 1), (0, u "java/lang/Object"), (0, .class_ 3)] 3

/-- java/io/Serializable -/
def k5 : Class := { plain "java/io/Serializable" (some 0) with
  accessFlags := 1537
  interfaces := #[]
  cf := some (fileOf pool5 2 #[] #[] 1537 4 #[] #[])
  fields := #[]
  methods := #[]
  instanceTypes := #[]
  staticTypes := #[]
  resolved := Array.replicate 8 none
  statics := none }

/-- the primitive byte -/
def k6 : Class := { plain "byte" none with kind := .primitive 'B', accessFlags := 0x411 }
/-- [B -/
def k7 : Class := { plain "[B" (some 0) with kind := .array 6 .byte, interfaces := #[4, 5], accessFlags := 1041 }

/-- the primitive int -/
def k8 : Class := { plain "int" none with kind := .primitive 'I', accessFlags := 0x411 }
/-- [I -/
def k9 : Class := { plain "[I" (some 0) with kind := .array 8 .int, interfaces := #[4, 5], accessFlags := 1041 }

def heap : Heap := #[]
def classes : Array Class := #[k0, k1, k2, k3, k4, k5, k6, k7, k8, k9]
def interned : List (Array UInt16 × Addr) := []
def slotsUsed : Nat := 0
def theMethod : MethodId := ⟨1, 1⟩
def args0 : Array Value := #[.int 5, .int 7, .int 9, .int 2]
def aboutOver (below : List Frame) : State where
  vm := { classes := classes, interned := interned.toArray }
  heap := heap
  slotsUsed := slotsUsed
  threads := #[{ frames := .invoking theMethod args0 :: below }]
def below0 : List Frame := [.native { method := ⟨0, 0⟩, args := #[] }]
def about1 : State := aboutOver below0
def p0 : Program := .bare "" "" ""
def e0 : Env := launch0.env 0 0 0
theorem w_frames : about1.frames = Frame.invoking theMethod args0 :: below0 := rfl
set_option maxRecDepth 65536 in
theorem w_args : argsFit about1.vm theMethod args0 = true := by decide +kernel
set_option maxRecDepth 65536 in
theorem w_heap : heapFits about1 = true := by decide +kernel
set_option maxRecDepth 65536 in
theorem w_runnable : about1.curStatus? = some .runnable := by decide +kernel
set_option maxRecDepth 65536 in
theorem w_alone : about1.alone = true := by decide +kernel
set_option maxRecDepth 65536 in
theorem w_named : about1.methodNamed? x = some theMethod := by decide +kernel
set_option maxRecDepth 65536 in
theorem w_hears : about1.hears theMethod below0 = true := by decide +kernel
set_option maxRecDepth 65536 in
theorem w_ripe : about1.ripe theMethod args0 below0 = true := by decide +kernel
theorem w_running : about1.status = .running := rfl
set_option maxRecDepth 65536 in
theorem w_room : about1.hasRoom e0.platform room_1 = true :=
  launch0.hasRoom_least _ room_1 (by decide +kernel) (by decide +kernel) (by decide +kernel) (by decide +kernel) (by decide +kernel) (by decide +kernel)
theorem allAtoms_all (ts : List Jvm.Cond) (a : Array Jvm.Value) (st : Jvm.State) : (allAtoms ts).before a st = ts.all (fun c => c.before a st) := by
  induction ts with
  | nil => rfl
  | cons c t ih =>
    show (Jvm.Cond.and c (allAtoms t)).before a st = _
    rw [Jvm.Cond.before_and, ih, List.all_cons]
def words1 : List Jvm.Cond := Jvm.Cond.code x code maxLocals ret :: tables_1
/-- a 'code' word, met by the world's own term for the bytes: nothing is compared byte by byte -/
theorem code_word {y : MethodName} {bytes : ByteArray} {mx : Nat} {rt : Option FieldType} {a : Array Value} {s : State} {m : MethodId} {meth : Method} {c : Code} (h1 : s.methodNamed? y = some m) (h2 : s.vm.method? m = some meth) (h3 : meth.code = some c) (h4 : c.code = bytes)
    (h5 : (c.maxLocals == mx && c.exceptionTable.isEmpty && decide (c.maxStack ≤ mostOperands) && decide (meth.sig.returnType = rt) && !meth.locks && decide (parseMethodDescriptor y.desc = some meth.sig)) = true) : (Jvm.Cond.code y bytes mx rt).before a s = true := by
  simp only [Bool.and_eq_true, beq_iff_eq, Bool.not_eq_true', decide_eq_true_eq] at h5
  obtain ⟨⟨⟨⟨⟨g1, g2⟩, g3⟩, g4⟩, g5⟩, g6⟩ := h5
  simp [Cond.before, Cond.holds, Cond.value, h1, h2, h3, h4, g1, g2, g3, g4, g5, g6]
def isCode : Jvm.Cond → Bool
  | .code _ _ _ _ => true
  | _ => false
theorem all_split {L : List Jvm.Cond} {P : Jvm.Cond → Bool} (h1 : L.all (fun c => isCode c || P c) = true) (h2 : ∀ c ∈ L.filter isCode, P c = true) : L.all P = true := by
  refine List.all_eq_true.mpr fun c hc => ?_
  have h := List.all_eq_true.mp h1 c hc
  rcases Bool.eq_false_or_eq_true (isCode c) with hi | hi
  · exact h2 c (List.mem_filter.mpr ⟨hc, hi⟩)
  · simpa [hi] using h
set_option maxRecDepth 65536 in
theorem w_c0 : (Jvm.Cond.code x code maxLocals ret).before args0 about1 = true := code_word (m := ⟨1, 1⟩) (meth := k1m1) (c := k1c1) (by decide +kernel) rfl rfl rfl (by decide +kernel)
set_option maxRecDepth 65536 in
theorem w_c1 : (Jvm.Cond.code ({ cls := "com/example/berthwise/berthwise/model/Cost", name := "<init>", desc := "(DDDD)V" } : Jvm.MethodName) prog_20_method_1_code (9 : Nat) (Option.none : Option Jvm.ClassFile.FieldType)).before args0 about1 = true := code_word (m := ⟨3, 0⟩) (meth := k3m0) (c := k3c0) (by decide +kernel) rfl rfl rfl (by decide +kernel)
set_option maxRecDepth 65536 in
theorem w_c2 : (Jvm.Cond.code ({ cls := "java/lang/Record", name := "<init>", desc := "()V" } : Jvm.MethodName) jdk_30_method_1_code (1 : Nat) (Option.none : Option Jvm.ClassFile.FieldType)).before args0 about1 = true := code_word (m := ⟨2, 0⟩) (meth := k2m0) (c := k2c0) (by decide +kernel) rfl rfl rfl (by decide +kernel)
set_option maxRecDepth 65536 in
theorem w_c3 : (Jvm.Cond.code ({ cls := "java/lang/Object", name := "<init>", desc := "()V" } : Jvm.MethodName) object_method_1_code (1 : Nat) (Option.none : Option Jvm.ClassFile.FieldType)).before args0 about1 = true := code_word (m := ⟨0, 0⟩) (meth := k0m0) (c := k0c0) (by decide +kernel) rfl rfl rfl (by decide +kernel)
set_option maxRecDepth 65536 in
theorem w_c4 : (Jvm.Cond.code ({ cls := "com/example/berthwise/berthwise/model/Cost", name := "total", desc := "()D" } : Jvm.MethodName) prog_20_method_3_code (1 : Nat) (Option.some Jvm.ClassFile.FieldType.double)).before args0 about1 = true := code_word (m := ⟨3, 1⟩) (meth := k3m1) (c := k3c1) (by decide +kernel) rfl rfl rfl (by decide +kernel)
def codes1 : List Jvm.Cond := [Jvm.Cond.code x code maxLocals ret, Jvm.Cond.code ({ cls := "com/example/berthwise/berthwise/model/Cost", name := "<init>", desc := "(DDDD)V" } : Jvm.MethodName) prog_20_method_1_code (9 : Nat) (Option.none : Option Jvm.ClassFile.FieldType), Jvm.Cond.code ({ cls := "java/lang/Record", name := "<init>", desc := "()V" } : Jvm.MethodName) jdk_30_method_1_code (1 : Nat) (Option.none : Option Jvm.ClassFile.FieldType), Jvm.Cond.code ({ cls := "java/lang/Object", name := "<init>", desc := "()V" } : Jvm.MethodName) object_method_1_code (1 : Nat) (Option.none : Option Jvm.ClassFile.FieldType), Jvm.Cond.code ({ cls := "com/example/berthwise/berthwise/model/Cost", name := "total", desc := "()D" } : Jvm.MethodName) prog_20_method_3_code (1 : Nat) (Option.some Jvm.ClassFile.FieldType.double)]
set_option maxRecDepth 65536 in
theorem codes_eq : words1.filter isCode = codes1 := rfl
theorem w_codes : ∀ c ∈ words1.filter isCode, c.before args0 about1 = true := by
  rw [codes_eq]
  intro c hc
  simp only [codes1, List.mem_cons, List.not_mem_nil, or_false] at hc
  rcases hc with rfl | rfl | rfl | rfl | rfl
  · exact w_c0
  · exact w_c1
  · exact w_c2
  · exact w_c3
  · exact w_c4
set_option maxRecDepth 65536 in
theorem w_t1 : (words1.take 24).all (fun c => isCode c || c.before args0 about1) = true := by decide +kernel
set_option maxRecDepth 65536 in
theorem w_t2 : (words1.drop 24).all (fun c => isCode c || c.before args0 about1) = true := by decide +kernel
theorem w_tables : (allAtoms (Jvm.Cond.code x code maxLocals ret :: tables_1)).before args0 about1 = true := by
  rw [allAtoms_all]
  show words1.all (fun c => c.before args0 about1) = true
  refine all_split ?_ w_codes
  rw [← List.take_append_drop 24 words1, List.all_append, w_t1, w_t2]
  rfl
set_option maxRecDepth 65536 in
theorem w_case : (Jvm.Cond.and given_1 narrow_1).before args0 about1 = true := by decide +kernel
theorem w_applies : (headSpec (Jvm.Cond.code x code maxLocals ret :: tables_1) room_1).applies x e0.platform about1 = true :=
  (Spec.applies_iff w_frames).mpr ⟨w_running, w_runnable, w_alone, w_named, w_hears, w_ripe, w_room, w_tables⟩
theorem atStart : AtStart classFile x code maxLocals ret World_1 tables_1 room_1 Calls_1 rest_1 Pre_1 launch0 p0 e0 about1 theMethod args0 below0 :=
  ⟨lists_1, trivial, launch0.admits_env _ _ _, launch0.least_env, fairChoices_fair.cas, fairChoices_fair.clock, w_frames, w_args, w_heap, w_applies, trivial, trivial, w_case⟩
end start1
theorem witness_1 : WitnessClaimed_1 := ⟨start1.p0, start1.e0, start1.about1, start1.theMethod, start1.args0, start1.below0, start1.atStart⟩
end Jvm.Pilot.@@N@@
