import JvmDerived
import JvmDerived.Pilot.@@N@@Statement
import JvmDerived.Pilot.@@N@@Code
set_option linter.unusedVariables false
set_option linter.unusedSimpArgs false
namespace Jvm.Pilot.@@N@@
open Jvm Jvm.ClassFile Sem Op Lib Jvm.Free Jvm.Stand Jvm.LawKit Jvm.RoadKit Bundle Jvm.Pilot.@@N@@.Jvm.D
/-! own small kit: the goal of a walk, backward; the leaves -/
def Gl (tb : Tables) (e : Env) (below : List Frame) (QQ : Outcome → State → Prop) (st : State) : Prop := ∃ s₂ o, Steps tb e below st s₂ ∧ s₂.status = .running ∧ Ended s₂ below o ∧ QQ o s₂
theorem Gl.go {tb : Tables} {e : Env} {below : List Frame} {QQ : Outcome → State → Prop} {st st' : State} (h : ∀ t, Steps tb e below st' t → Steps tb e below st t) (g : Gl tb e below QQ st') : Gl tb e below QQ st := by
  obtain ⟨s2, o, h1, h2⟩ := g
  exact ⟨s2, o, h _ h1, h2⟩
def QQof (s : State) (Q : Option Value → Heap → List Loc → Prop) (k n : Nat) : Outcome → State → Prop := fun o U => ∃ v L, o = .returned v ∧ Q v U.heap L ∧ FrameEnd s o U L k n
section Leaf
variable {p : Program} {l : Launch} {e : Env} {R : Room} {s : State} {m : MethodId} {args : Array Value} {below : List Frame} {meth : Method} {c : Code} {T : State} {locs : List Loc} {cells slots : Nat} {pc : Nat} {Ls : Array Slot} {rest : List Value} {Q : Option Value → Heap → List Loc → Prop} {k n : Nat}
theorem leafN (X : Stand p l e R s m args below meth c T locs cells slots) (hx : p.tables.exec = Jvm.exec) (hlk : meth.locks = false) {z : Int32} {t : FieldType} (hret : meth.sig.returnType = some t) (ht : t = .boolean ∨ t = .byte ∨ t = .char ∨ t = .short) (hd : decode c.code pc = .ok (.ireturn, 1))
    (hq : Q (some (.int (nar t z))) T.heap locs) (hk : cells ≤ k) (hn : slots ≤ n) : Gl p.tables e below (QQof s Q k n) (T.setTop (mkF m pc Ls (.int z :: rest))) := by
  obtain ⟨fs, hr, hrun, hended, hW, hsame⟩ := X.leave (v := some (.int (nar t z))) (fun h => by rw [hret] at h; cases h) hlk
  exact ⟨_, _, retN X hx hret ht hd hr, hrun, hended, _, _, rfl, hq, ⟨_, rfl⟩, hW, hsame.mono hk hn⟩
theorem leafI (X : Stand p l e R s m args below meth c T locs cells slots) (hx : p.tables.exec = Jvm.exec) (hlk : meth.locks = false) {z : Int32} (hret : meth.sig.returnType = some .int) (hd : decode c.code pc = .ok (.ireturn, 1))
    (hq : Q (some (.int z)) T.heap locs) (hk : cells ≤ k) (hn : slots ≤ n) : Gl p.tables e below (QQof s Q k n) (T.setTop (mkF m pc Ls (.int z :: rest))) := by
  obtain ⟨fs, hr, hrun, hended, hW, hsame⟩ := X.leave (v := some (.int z)) (fun h => by rw [hret] at h; cases h) hlk
  exact ⟨_, _, retOut X hx hret rfl (Or.inl ⟨rfl, Or.inl rfl, _, rfl⟩) hd hr, hrun, hended, _, _, rfl, hq, ⟨_, rfl⟩, hW, hsame.mono hk hn⟩
theorem leafL (X : Stand p l e R s m args below meth c T locs cells slots) (hx : p.tables.exec = Jvm.exec) (hlk : meth.locks = false) {z : Int64} (hret : meth.sig.returnType = some .long) (hd : decode c.code pc = .ok (.lreturn, 1))
    (hq : Q (some (.long z)) T.heap locs) (hk : cells ≤ k) (hn : slots ≤ n) : Gl p.tables e below (QQof s Q k n) (T.setTop (mkF m pc Ls (.long z :: rest))) := by
  obtain ⟨fs, hr, hrun, hended, hW, hsame⟩ := X.leave (v := some (.long z)) (fun h => by rw [hret] at h; cases h) hlk
  exact ⟨_, _, retOut X hx hret rfl (Or.inr (Or.inl ⟨rfl, rfl, _, rfl⟩)) hd hr, hrun, hended, _, _, rfl, hq, ⟨_, rfl⟩, hW, hsame.mono hk hn⟩
theorem leafD (X : Stand p l e R s m args below meth c T locs cells slots) (hx : p.tables.exec = Jvm.exec) (hlk : meth.locks = false) {z : UInt64} (hret : meth.sig.returnType = some .double) (hd : decode c.code pc = .ok (.dreturn, 1))
    (hq : Q (some (.double z)) T.heap locs) (hk : cells ≤ k) (hn : slots ≤ n) : Gl p.tables e below (QQof s Q k n) (T.setTop (mkF m pc Ls (.double z :: rest))) := by
  obtain ⟨fs, hr, hrun, hended, hW, hsame⟩ := X.leave (v := some (.double z)) (fun h => by rw [hret] at h; cases h) hlk
  exact ⟨_, _, retOut X hx hret rfl (Or.inr (Or.inr (Or.inl ⟨rfl, rfl, _, rfl⟩))) hd hr, hrun, hended, _, _, rfl, hq, ⟨_, rfl⟩, hW, hsame.mono hk hn⟩
theorem narrowR {t : FieldType} {w : Value} (ht : t.isReference = true) (hw : w.isRef = true) : narrow t w = w := by
  cases w <;> simp [Value.isRef] at hw <;> cases t <;> simp [FieldType.isReference] at ht <;> rfl
theorem leafA (X : Stand p l e R s m args below meth c T locs cells slots) (hx : p.tables.exec = Jvm.exec) (hlk : meth.locks = false) {w : Value} {t : FieldType} (hret : meth.sig.returnType = some t) (ht : t.isReference = true) (hw : w.isRef = true) (hd : decode c.code pc = .ok (.areturn, 1))
    (hq : Q (some w) T.heap locs) (hk : cells ≤ k) (hn : slots ≤ n) : Gl p.tables e below (QQof s Q k n) (T.setTop (mkF m pc Ls (w :: rest))) := by
  obtain ⟨fs, hr, hrun, hended, hW, hsame⟩ := X.leave (v := some w) (fun h => by rw [hret] at h; cases h) hlk
  exact ⟨_, _, retOut X hx hret (narrowR ht hw) (Or.inr (Or.inr (Or.inr (Or.inr ⟨rfl, ht, hw⟩)))) hd hr, hrun, hended, _, _, rfl, hq, ⟨_, rfl⟩, hW, hsame.mono hk hn⟩
theorem leafV (X : Stand p l e R s m args below meth c T locs cells slots) (hx : p.tables.exec = Jvm.exec) (hlk : meth.locks = false) (hret : meth.sig.returnType = none) (hd : decode c.code pc = .ok (.return_, 1))
    (hq : Q none T.heap locs) (hk : cells ≤ k) (hn : slots ≤ n) : Gl p.tables e below (QQof s Q k n) (T.setTop (mkF m pc Ls [])) := by
  obtain ⟨fs, hr, hrun, hended, hW, hsame⟩ := X.leave (v := none) (fun _ => rfl) hlk
  exact ⟨_, _, X.returnOut hx hret hd hr, hrun, hended, _, _, rfl, hq, ⟨_, rfl⟩, hW, hsame.mono hk hn⟩
end Leaf
theorem fitsR {t : FieldType} {w : Value} (ht : t.isReference = true) (hw : w.isRef = true) : fits t w = true := by
  cases w <;> simp [Value.isRef] at hw <;> cases t <;> simp [FieldType.isReference] at ht <;> rfl
theorem nar1 : nar .boolean (1 : Int32) = 1 := by decide
theorem nar0 : nar .boolean (0 : Int32) = 0 := by decide
theorem int_at {args : Array Value} {s : State} {t : Term} {k : Int32} (h : (Jvm.Cond.eq t (.int k)).value args s none s [] = some true) : t.eval args s none [] s = some (.int k) := by
  obtain ⟨x, y, hx, hy, kx, ky⟩ := cmp_v (Or.inl h)
  have hk : y = .int k := Option.some.inj (hy.symm.trans (Term.int_eval k))
  subst hk
  obtain ⟨z, rfl⟩ := ky
  have hz := gotT (Cond.eq_ints hx (Term.int_eval k)) h
  rw [hx, hz]
theorem fld_int {args : Array Value} {s : State} {t : Term} {C n d : String} {k : Int32} {x : Addr} (ht : t.eval args s none [] s = some (.ref x)) (h : (Jvm.Cond.eq (.field t C n d) (.int k)).value args s none s [] = some true) : Fld s s.heap x C n d (.int k) := Fld.start ((fld_at ht).symm.trans (int_at h))
theorem ref_at {args : Array Value} {s : State} {a b : Term} {x : Addr} (hb : b.eval args s none [] s = some (.ref x)) (h : (Jvm.Cond.eq a b).value args s none s [] = some true) : a.eval args s none [] s = some (.ref x) := by
  obtain ⟨y, z, hy, hz, ky, kz⟩ := cmp_v (Or.inl h)
  have hk : z = .ref x := Option.some.inj (hz.symm.trans hb)
  subst hk
  have hr : y.isRef = true := kz.2
  have he := gotT (eq_R hy hb hr rfl) h
  rw [hy, he]
theorem ext_of_keep {h h' : Heap} (K : Keep h h' []) : Ext h h' := ⟨K.1, fun a c q => K.2.1 a c q nin0⟩
theorem arr_len {args : Array Value} {s : State} {t : Term} {a : Addr} {cl : Cell} {ty : FieldType} {k : Int32} (ev : t.eval args s none [] s = some (.ref a)) (A : Arr s s.heap a cl ty) (h : (Jvm.Cond.eq (.length t) (.int k)).value args s none s [] = some true) : cl.slots.size < 2 ^ 31 ∧ cl.slots.size.toInt32 = k := by
  obtain ⟨b, cell, e1, e2, e3, e4⟩ := Jvm.Lib.length_spec (int_at h)
  have hb : a = b := Value.ref.inj (Option.some.inj (ev.symm.trans e1))
  subst hb
  have hc : cl = cell := Option.some.inj ((A.fin (Vm.Alike.refl _)).symm.trans e2)
  subst hc
  exact ⟨e3, (Value.int.inj e4).symm⟩
theorem arr_elem {args : Array Value} {s : State} {t : Term} {a : Addr} {cl : Cell} {ty : FieldType} {j : Int32} {v : Value} (ev : t.eval args s none [] s = some (.ref a)) (A : Arr s s.heap a cl ty) (h : (Term.elem t (.int j)).eval args s none [] s = some v) : cl.slots[j.toNatClampNeg]? = some v := (elem_in h ev (Term.int_eval j) A.1).2

def cntV (a rM rP : Addr) : Int32 := if a = rM then (1 : Int32) else if a = rP then (1 : Int32) else (0 : Int32)
theorem own_c1 (rM rP : Addr) : cntV rM rM rP = 1 := by unfold cntV; simp
theorem own_c2 (rM rP : Addr) : cntV rP rM rP = 1 := by unfold cntV; simp
theorem own_c3 {a rM rP : Addr} (h1 : a ≠ rM) (h2 : a ≠ rP) : cntV a rM rP = 0 := by unfold cntV; simp [h1, h2]
theorem pn_0 : plainName "com/example/cornice/cornice/thames/Effect$Kind" = true := by first | (simp [plainName, overriddenIn]; done) | decide +kernel
theorem ef_cn (m : MethodId) (x0 : Addr) : entryFrame m #[(.ref x0)] 1 = mkF m 0 #[.val (.ref x0)] [] := by first | (simp [entryFrame, mkF, argsToLocals, Value.category]; done) | rfl
theorem d1_0 : decode prog_39_method_4_code 0 = .ok (.aload_n 0, 1) := by decide +kernel
theorem d1_1 : decode prog_39_method_4_code 1 = .ok (.getstatic 3, 3) := by decide +kernel
theorem d1_4 : decode prog_39_method_4_code 4 = .ok (.if_acmp .eq 10, 3) := by decide +kernel
theorem d1_14 : decode prog_39_method_4_code 14 = .ok (.iconst 1, 1) := by decide +kernel
theorem d1_15 : decode prog_39_method_4_code 15 = .ok (.goto 4, 3) := by decide +kernel
theorem d1_19 : decode prog_39_method_4_code 19 = .ok (.ireturn, 1) := by decide +kernel
theorem d1_7 : decode prog_39_method_4_code 7 = .ok (.aload_n 0, 1) := by decide +kernel
theorem d1_8 : decode prog_39_method_4_code 8 = .ok (.getstatic 7, 3) := by decide +kernel
theorem d1_11 : decode prog_39_method_4_code 11 = .ok (.if_acmp .ne 7, 3) := by decide +kernel
theorem d1_18 : decode prog_39_method_4_code 18 = .ok (.iconst 0, 1) := by decide +kernel
theorem pn_1 : plainName "com/example/cornice/cornice/thames/KindCountablePinLaw" = true := by first | (simp [plainName, overriddenIn]; done) | decide +kernel
theorem ef_law (m : MethodId) (x0 : Int32) : entryFrame m #[(.int x0)] maxLocals = mkF m 0 #[.val (.int x0), .unset, .unset, .unset] [] := by first | (simp [entryFrame, mkF, argsToLocals, Value.category, maxLocals]; done) | rfl
theorem pd_0 : parseMethodDescriptor "()Z" = some ⟨[], some .boolean⟩ := by decide +kernel
def Q_cn (Z : State) (a1 rM rP : Addr) (h0 : Heap) (n0 : Nat) (v : Option Value) (h : Heap) (L : List Loc) : Prop := v = some (.int (cntV a1 rM rP)) ∧ Fr n0 L ∧ h = h0
set_option maxRecDepth 65536 in
set_option maxHeartbeats 40000000 in
theorem rm_cn (l : Launch) (Z : State) (a0 : Array Value) (hw : ∀ d ∈ tables_1, d.before a0 Z = true) (ws : List Jvm.Cond) (a1 rM rP : Addr) (h0 : Heap) (n0 : Nat) (Z0 : n0 ≤ h0.size) (SM : Sta Z h0 "com/example/cornice/cornice/thames/Effect$Kind" "MONEY" "Lcom/example/cornice/cornice/thames/Effect$Kind;" (.ref rM)) (SP : Sta Z h0 "com/example/cornice/cornice/thames/Effect$Kind" "PRESTIGE" "Lcom/example/cornice/cornice/thames/Effect$Kind;" (.ref rP)) :
    MetFree l (⟨"com/example/cornice/cornice/thames/Effect$Kind", "countable", "()Z"⟩ : MethodName) (head1 (Jvm.Cond.code (⟨"com/example/cornice/cornice/thames/Effect$Kind", "countable", "()Z"⟩ : MethodName) prog_39_method_4_code 1 (some .boolean) :: ws) ({ frames := 0, cells := 0, slots := 0, locals := 0 } : Room)) (fun aa U => aa = #[(.ref a1)] ∧ Z.Warmed39 U.vm ∧ U.heap = h0) (fun _ _ _ _ _ => True) (fun _ U o U' => ∃ v L, o = .returned v ∧ Q_cn Z a1 rM rP h0 n0 v U'.heap L ∧ FrameEnd U o U' L ({ frames := 0, cells := 0, slots := 0, locals := 0 } : Room).cells ({ frames := 0, cells := 0, slots := 0, locals := 0 } : Room).slots) := by
  refine MetFree.of_bodySF (plainFor_of_name pn_0) hisR ?_
  intro p e s m args below meth c s₁ Bd hml0 hP hK
  obtain ⟨rfl, hZ, hh⟩ := hP
  have hx := Bd.exec
  have hby := Bd.bytes
  have hml : c.maxLocals = 1 := hml0
  have hown : s.vm.findClass "com/example/cornice/cornice/thames/Effect$Kind" = some m.cls := findClass_of_methodNamed Bd.named
  have hnm := (name_of_methodNamed Bd.named Bd.method).1
  have hlk : meth.locks = false := BodyLoose.notSynchronized Bd
  have X0 : Stand p l e ({ frames := 0, cells := 0, slots := 0, locals := 0 } : Room) s m #[(.ref a1)] below meth c s₁ [] 0 0 := Stand.of_body Bd
  have e0 : s₁.heap = h0 := by rw [← hh, Bd.state]; rfl
  have N0 := Fr.nil n0
  have K0 : Keep h0 h0 [] := Keep.refl _ _
  show Gl p.tables e below (QQof s (Q_cn Z a1 rM rP h0 n0) 0 0) (s₁.setTop (entryFrame m #[(.ref a1)] 1))
  refine Gl.go (fun t k => castTop (ef_cn m a1) k) ?_
  show Gl p.tables e below (QQof s (Q_cn Z a1 rM rP h0 n0) 0 0) (s₁.setTop (mkF m 0 #[.val (.ref a1)] []))
  refine Gl.go (fun _ k => XS.aloadN X0.here hx rfl (hb hby d1_0) rfl rfl  k) ?_
  show Gl p.tables e below (QQof s (Q_cn Z a1 rM rP h0 n0) 0 0) (s₁.setTop (mkF m 1 #[.val (.ref a1)] [(.ref a1)]))
  obtain ⟨T1, X1, e1, st1⟩ := getS2 X0 hx hZ hown (host := "") (Or.inl (hw _ (List.mem_of_getElem? (i := 9) rfl))) Via.refl e0 SM (g := (mkF m 1 #[.val (.ref a1)] [(.ref a1)])) rfl (hb hby d1_1)
  refine Gl.go (fun _ k => st1 _ k) ?_
  show Gl p.tables e below (QQof s (Q_cn Z a1 rM rP h0 n0) 0 0) (T1.setTop (mkF m 4 #[.val (.ref a1)] [(.ref rM), (.ref a1)]))
  by_cases h4 : a1 = rM
  · skip
    refine Gl.go (fun _ k => Jvm.RoadKit.acmp (g := (mkF m 4 #[.val (.ref a1)] [(.ref rM), (.ref a1)])) X1 hx rfl rfl rfl (pc0 := 4) (pc' := 14) (same := true) rfl (hb hby d1_4) rfl (decide_eq_true (congrArg Value.ref h4)) (by decide) (by decide) k) ?_
    show Gl p.tables e below (QQof s (Q_cn Z a1 rM rP h0 n0) 0 0) (T1.setTop (mkF m 14 #[.val (.ref a1)] []))
    refine Gl.go (fun _ k => XS.iconst X1.here hx rfl (hb hby d1_14) k) ?_
    show Gl p.tables e below (QQof s (Q_cn Z a1 rM rP h0 n0) 0 0) (T1.setTop (mkF m 15 #[.val (.ref a1)] [(.int (1 : Int32))]))
    refine Gl.go (fun _ k => XS.goto X1.here hx rfl (pc0 := 15) (pc' := 19) rfl (hb hby d1_15) (by decide) (by decide) k) ?_
    show Gl p.tables e below (QQof s (Q_cn Z a1 rM rP h0 n0) 0 0) (T1.setTop (mkF m 19 #[.val (.ref a1)] [(.int (1 : Int32))]))
    refine leafN X1 hx hlk (t := .boolean) Bd.returns (by simp) (hb hby d1_19) ?_ (by decide) (by decide)
    exact ⟨by rw [nar1, cntV, if_pos h4], N0, e1⟩
  · skip
    refine Gl.go (fun _ k => Jvm.RoadKit.acmp (g := (mkF m 4 #[.val (.ref a1)] [(.ref rM), (.ref a1)])) X1 hx rfl rfl rfl (pc0 := 4) (pc' := 7) (same := false) rfl (hb hby d1_4) rfl (decide_eq_false fun q => h4 (Value.ref.inj q)) (by decide) (by decide) k) ?_
    show Gl p.tables e below (QQof s (Q_cn Z a1 rM rP h0 n0) 0 0) (T1.setTop (mkF m 7 #[.val (.ref a1)] []))
    refine Gl.go (fun _ k => XS.aloadN X1.here hx rfl (hb hby d1_7) rfl rfl  k) ?_
    show Gl p.tables e below (QQof s (Q_cn Z a1 rM rP h0 n0) 0 0) (T1.setTop (mkF m 8 #[.val (.ref a1)] [(.ref a1)]))
    obtain ⟨T2, X2, e2, st2⟩ := getS2 X1 hx hZ hown (host := "") (Or.inl (hw _ (List.mem_of_getElem? (i := 12) rfl))) Via.refl e1 SP (g := (mkF m 8 #[.val (.ref a1)] [(.ref a1)])) rfl (hb hby d1_8)
    refine Gl.go (fun _ k => st2 _ k) ?_
    show Gl p.tables e below (QQof s (Q_cn Z a1 rM rP h0 n0) 0 0) (T2.setTop (mkF m 11 #[.val (.ref a1)] [(.ref rP), (.ref a1)]))
    by_cases h11 : a1 = rP
    · skip
      refine Gl.go (fun _ k => Jvm.RoadKit.acmp (g := (mkF m 11 #[.val (.ref a1)] [(.ref rP), (.ref a1)])) X2 hx rfl rfl rfl (pc0 := 11) (pc' := 14) (same := true) rfl (hb hby d1_11) rfl (decide_eq_true (congrArg Value.ref h11)) (by decide) (by decide) k) ?_
      show Gl p.tables e below (QQof s (Q_cn Z a1 rM rP h0 n0) 0 0) (T2.setTop (mkF m 14 #[.val (.ref a1)] []))
      refine Gl.go (fun _ k => XS.iconst X2.here hx rfl (hb hby d1_14) k) ?_
      show Gl p.tables e below (QQof s (Q_cn Z a1 rM rP h0 n0) 0 0) (T2.setTop (mkF m 15 #[.val (.ref a1)] [(.int (1 : Int32))]))
      refine Gl.go (fun _ k => XS.goto X2.here hx rfl (pc0 := 15) (pc' := 19) rfl (hb hby d1_15) (by decide) (by decide) k) ?_
      show Gl p.tables e below (QQof s (Q_cn Z a1 rM rP h0 n0) 0 0) (T2.setTop (mkF m 19 #[.val (.ref a1)] [(.int (1 : Int32))]))
      refine leafN X2 hx hlk (t := .boolean) Bd.returns (by simp) (hb hby d1_19) ?_ (by decide) (by decide)
      exact ⟨by rw [nar1, cntV, if_neg h4, if_pos h11], N0, e2⟩
    · skip
      refine Gl.go (fun _ k => Jvm.RoadKit.acmp (g := (mkF m 11 #[.val (.ref a1)] [(.ref rP), (.ref a1)])) X2 hx rfl rfl rfl (pc0 := 11) (pc' := 18) (same := false) rfl (hb hby d1_11) rfl (decide_eq_false fun q => h11 (Value.ref.inj q)) (by decide) (by decide) k) ?_
      show Gl p.tables e below (QQof s (Q_cn Z a1 rM rP h0 n0) 0 0) (T2.setTop (mkF m 18 #[.val (.ref a1)] []))
      refine Gl.go (fun _ k => XS.iconst X2.here hx rfl (hb hby d1_18) k) ?_
      show Gl p.tables e below (QQof s (Q_cn Z a1 rM rP h0 n0) 0 0) (T2.setTop (mkF m 19 #[.val (.ref a1)] [(.int (0 : Int32))]))
      refine leafN X2 hx hlk (t := .boolean) Bd.returns (by simp) (hb hby d1_19) ?_ (by decide) (by decide)
      exact ⟨by rw [nar0, cntV, if_neg h4, if_neg h11], N0, e2⟩
def Q_law (Z : State) (a : Int32) (rM rP rV rR rD : Addr) (h0 : Heap) (n0 : Nat) (v : Option Value) (h : Heap) (L : List Loc) : Prop := v = some (.int 1) ∧ Fr n0 L
set_option maxRecDepth 65536 in
set_option maxHeartbeats 40000000 in
theorem rm_law (l : Launch) (Z : State) (a0 : Array Value) (hw : ∀ d ∈ tables_1, d.before a0 Z = true) (ws : List Jvm.Cond) (a : Int32) (rM rP rV rR rD : Addr) (h0 : Heap) (n0 : Nat) (Z0 : n0 ≤ h0.size) (SM : Sta Z h0 "com/example/cornice/cornice/thames/Effect$Kind" "MONEY" "Lcom/example/cornice/cornice/thames/Effect$Kind;" (.ref rM)) (SP : Sta Z h0 "com/example/cornice/cornice/thames/Effect$Kind" "PRESTIGE" "Lcom/example/cornice/cornice/thames/Effect$Kind;" (.ref rP)) (SV : Sta Z h0 "com/example/cornice/cornice/thames/Effect$Kind" "POVERTY" "Lcom/example/cornice/cornice/thames/Effect$Kind;" (.ref rV)) (SR : Sta Z h0 "com/example/cornice/cornice/thames/Effect$Kind" "RELIEF" "Lcom/example/cornice/cornice/thames/Effect$Kind;" (.ref rR)) (SD : Sta Z h0 "com/example/cornice/cornice/thames/Effect$Kind" "DRAW" "Lcom/example/cornice/cornice/thames/Effect$Kind;" (.ref rD)) (EM : Exa Z h0 rM "com/example/cornice/cornice/thames/Effect$Kind") (EP : Exa Z h0 rP "com/example/cornice/cornice/thames/Effect$Kind") (EV : Exa Z h0 rV "com/example/cornice/cornice/thames/Effect$Kind") (ER : Exa Z h0 rR "com/example/cornice/cornice/thames/Effect$Kind") (ED : Exa Z h0 rD "com/example/cornice/cornice/thames/Effect$Kind") (nVM : rV ≠ rM) (nVP : rV ≠ rP) (nRM : rR ≠ rM) (nRP : rR ≠ rP) (nDM : rD ≠ rM) (nDP : rD ≠ rP) :
    MetFree l x (head1 (Jvm.Cond.code x code maxLocals ret :: ws) room_1) (fun aa U => aa = #[(.int a)] ∧ Z.Warmed39 U.vm ∧ U.heap = h0) (fun _ _ _ _ _ => True) (fun _ U o U' => ∃ v L, o = .returned v ∧ Q_law Z a rM rP rV rR rD h0 n0 v U'.heap L ∧ FrameEnd U o U' L 0 0) := by
  refine MetFree.of_bodySF (plainFor_of_name pn_1) hisR ?_
  intro p e s m args below meth c s₁ Bd hml0 hP hK
  obtain ⟨rfl, hZ, hh⟩ := hP
  have hx := Bd.exec
  have hby := Bd.bytes
  have hml : c.maxLocals = 4 := hml0
  have hown : s.vm.findClass "com/example/cornice/cornice/thames/KindCountablePinLaw" = some m.cls := findClass_of_methodNamed Bd.named
  have hnm := (name_of_methodNamed Bd.named Bd.method).1
  have hlk : meth.locks = false := BodyLoose.notSynchronized Bd
  have X0 : Stand p l e room_1 s m #[(.int a)] below meth c s₁ [] 0 0 := Stand.of_body Bd
  have e0 : s₁.heap = h0 := by rw [← hh, Bd.state]; rfl
  have N0 := Fr.nil n0
  have K0 : Keep h0 h0 [] := Keep.refl _ _
  show Gl p.tables e below (QQof s (Q_law Z a rM rP rV rR rD h0 n0) 0 0) (s₁.setTop (entryFrame m #[(.int a)] maxLocals))
  refine Gl.go (fun t k => castTop (ef_law m a) k) ?_
  show Gl p.tables e below (QQof s (Q_law Z a rM rP rV rR rD h0 n0) 0 0) (s₁.setTop (mkF m 0 #[.val (.int a), .unset, .unset, .unset] []))
  refine Gl.go (fun _ k => XS.iloadN X0.here hx rfl (hb hby at_0) rfl  k) ?_
  show Gl p.tables e below (QQof s (Q_law Z a rM rP rV rR rD h0 n0) 0 0) (s₁.setTop (mkF m 1 #[.val (.int a), .unset, .unset, .unset] [(.int a)]))
  refine Gl.go (fun _ k => X0.ldcInt hx hown (mvT hZ (hw _ (List.mem_of_getElem? (i := 0) rfl))) (g := (mkF m 1 #[.val (.int a), .unset, .unset, .unset] [(.int a)])) rfl (hb hby at_1) _ k) ?_
  show Gl p.tables e below (QQof s (Q_law Z a rM rP rV rR rD h0 n0) 0 0) (s₁.setTop (mkF m 3 #[.val (.int a), .unset, .unset, .unset] [(.int (2147483647 : Int32)), (.int a)]))
  refine Gl.go (fun _ k => XS.iand X0.here hx rfl (hb hby at_3) rfl k) ?_
  show Gl p.tables e below (QQof s (Q_law Z a rM rP rV rR rD h0 n0) 0 0) (s₁.setTop (mkF m 4 #[.val (.int a), .unset, .unset, .unset] [(.int (a &&& (2147483647 : Int32)))]))
  refine Gl.go (fun _ k => XS.iconst X0.here hx rfl (hb hby at_4) k) ?_
  show Gl p.tables e below (QQof s (Q_law Z a rM rP rV rR rD h0 n0) 0 0) (s₁.setTop (mkF m 5 #[.val (.int a), .unset, .unset, .unset] [(.int (5 : Int32)), (.int (a &&& (2147483647 : Int32)))]))
  refine Gl.go (fun _ k => iremM X0 hx rfl (hb hby at_5) rfl (by decide) k) ?_
  show Gl p.tables e below (QQof s (Q_law Z a rM rP rV rR rD h0 n0) 0 0) (s₁.setTop (mkF m 6 #[.val (.int a), .unset, .unset, .unset] [(.int ((a &&& (2147483647 : Int32)) % (5 : Int32)))]))
  generalize h_i_ : ((a &&& (2147483647 : Int32)) % (5 : Int32)) = i_
  show Gl p.tables e below (QQof s (Q_law Z a rM rP rV rR rD h0 n0) 0 0) (s₁.setTop (mkF m 6 #[.val (.int a), .unset, .unset, .unset] [(.int i_)]))
  refine Gl.go (fun _ k => XS.istoreN X0.here hx rfl (hb hby at_6) rfl (l' := #[.val (.int a), .val (.int i_), .unset, .unset]) rfl k) ?_
  show Gl p.tables e below (QQof s (Q_law Z a rM rP rV rR rD h0 n0) 0 0) (s₁.setTop (mkF m 7 #[.val (.int a), .val (.int i_), .unset, .unset] []))
  refine Gl.go (fun _ k => XS.iloadN X0.here hx rfl (hb hby at_7) rfl  k) ?_
  show Gl p.tables e below (QQof s (Q_law Z a rM rP rV rR rD h0 n0) 0 0) (s₁.setTop (mkF m 8 #[.val (.int a), .val (.int i_), .unset, .unset] [(.int i_)]))
  by_cases h8 : i_ = (0 : Int32)
  · skip
    refine Gl.go (fun _ k => XS.ifNo X0.here hx rfl (hb hby at_8) rfl ((if0 _ _).trans (teq h8).2) k) ?_
    show Gl p.tables e below (QQof s (Q_law Z a rM rP rV rR rD h0 n0) 0 0) (s₁.setTop (mkF m 11 #[.val (.int a), .val (.int i_), .unset, .unset] []))
    obtain ⟨T1, X1, e1, st1⟩ := getS2 X0 hx hZ hown (host := "") (Or.inl (hw _ (List.mem_of_getElem? (i := 1) rfl))) Via.refl e0 SM (g := (mkF m 11 #[.val (.int a), .val (.int i_), .unset, .unset] [])) rfl (hb hby at_11)
    refine Gl.go (fun _ k => st1 _ k) ?_
    show Gl p.tables e below (QQof s (Q_law Z a rM rP rV rR rD h0 n0) 0 0) (T1.setTop (mkF m 14 #[.val (.int a), .val (.int i_), .unset, .unset] [(.ref rM)]))
    refine Gl.go (fun _ k => XS.astoreN X1.here hx rfl (hb hby at_14) rfl rfl (l' := #[.val (.int a), .val (.int i_), .val (.ref rM), .unset]) rfl k) ?_
    show Gl p.tables e below (QQof s (Q_law Z a rM rP rV rR rD h0 n0) 0 0) (T1.setTop (mkF m 15 #[.val (.int a), .val (.int i_), .val (.ref rM), .unset] []))
    refine Gl.go (fun _ k => XS.iconst X1.here hx rfl (hb hby at_15) k) ?_
    show Gl p.tables e below (QQof s (Q_law Z a rM rP rV rR rD h0 n0) 0 0) (T1.setTop (mkF m 16 #[.val (.int a), .val (.int i_), .val (.ref rM), .unset] [(.int (1 : Int32))]))
    refine Gl.go (fun _ k => XS.istoreN X1.here hx rfl (hb hby at_16) rfl (l' := #[.val (.int a), .val (.int i_), .val (.ref rM), .val (.int (1 : Int32))]) rfl k) ?_
    show Gl p.tables e below (QQof s (Q_law Z a rM rP rV rR rD h0 n0) 0 0) (T1.setTop (mkF m 17 #[.val (.int a), .val (.int i_), .val (.ref rM), .val (.int (1 : Int32))] []))
    refine Gl.go (fun _ k => XS.goto X1.here hx rfl (pc0 := 17) (pc' := 68) rfl (hb hby at_17) (by decide) (by decide) k) ?_
    show Gl p.tables e below (QQof s (Q_law Z a rM rP rV rR rD h0 n0) 0 0) (T1.setTop (mkF m 68 #[.val (.int a), .val (.int i_), .val (.ref rM), .val (.int (1 : Int32))] []))
    refine Gl.go (fun _ k => XS.aloadN X1.here hx rfl (hb hby at_68) rfl rfl  k) ?_
    show Gl p.tables e below (QQof s (Q_law Z a rM rP rV rR rD h0 n0) 0 0) (T1.setTop (mkF m 69 #[.val (.int a), .val (.int i_), .val (.ref rM), .val (.int (1 : Int32))] [(.ref rM)]))
    obtain ⟨cq2, kq2, q2a, q2b, q2c⟩ := isOf hZ e1 EM
    obtain ⟨_, _, ⟨T2, L2, k2, n2⟩, -, X2, ⟨Lc2, hQ2, l2, y2, z2⟩, st2⟩ := X1.virtualBack hx (y := (⟨"com/example/cornice/cornice/thames/Effect$Kind", "countable", "()Z"⟩ : MethodName)) (z := (⟨"com/example/cornice/cornice/thames/Effect$Kind", "countable", "()Z"⟩ : MethodName)) hown (mvT hZ (hw _ (List.mem_of_getElem? (i := 4) rfl))) (mvT hZ (hw _ (List.mem_of_getElem? (i := 5) rfl))) (notFace_of_selects (args := #[]) (mvT hZ (hw _ (List.mem_of_getElem? (i := 7) rfl)))) (mvT hZ (hw _ (List.mem_of_getElem? (i := 7) rfl))) (mvT hZ (hw _ (List.mem_of_getElem? (i := 6) rfl))) (by decide) (backOf (W := 0) (rm_cn l Z a0 hw [] rM rM rP h0 n0 Z0 SM SP) hZ (hw _ (List.mem_of_getElem? (i := 8) rfl)) (hw _ (List.mem_of_getElem? (i := 2) rfl)) (by decide) (by decide)) q2a q2c (g := (mkF m 69 #[.val (.int a), .val (.int i_), .val (.ref rM), .val (.int (1 : Int32))] [(.ref rM)])) rfl (by rw [hml]; rfl) (Steps.refl _) (argsL := []) (rest := []) (lenOf pd_0 rfl) rfl (by show 2 * 0 + _ ≤ _; exact Nat.le_of_eq rfl) (hb hby at_69) (fun _ _ => ⟨rfl, e1, (by decide : 0 + 0 ≤ _), (by decide : 0 + 0 ≤ _)⟩)
    dsimp only [Pt.U, Pt.locs, Pt.cells, Pt.slots] at X2 l2 y2 z2 st2 hQ2
    subst l2 y2 z2
    obtain ⟨rfl, Nq2, e2⟩ := hQ2
    have N2 := Fr.app N0 Nq2
    refine Gl.go (fun _ k => st2.trans k) ?_
    show Gl p.tables e below (QQof s (Q_law Z a rM rP rV rR rD h0 n0) 0 0) (T2.setTop (mkF m 72 #[.val (.int a), .val (.int i_), .val (.ref rM), .val (.int (1 : Int32))] [(.int (cntV rM rM rP))]))
    refine Gl.go (fun _ k => XS.iloadN X2.here hx rfl (hb hby at_72) rfl  k) ?_
    show Gl p.tables e below (QQof s (Q_law Z a rM rP rV rR rD h0 n0) 0 0) (T2.setTop (mkF m 73 #[.val (.int a), .val (.int i_), .val (.ref rM), .val (.int (1 : Int32))] [(.int (1 : Int32)), (.int (cntV rM rM rP))]))
    refine Gl.go (fun _ k => XS.icmpNo X2.here hx rfl (hb hby at_73) rfl (teq (own_c1 rM rP)).2 k) ?_
    show Gl p.tables e below (QQof s (Q_law Z a rM rP rV rR rD h0 n0) 0 0) (T2.setTop (mkF m 76 #[.val (.int a), .val (.int i_), .val (.ref rM), .val (.int (1 : Int32))] []))
    refine Gl.go (fun _ k => XS.iconst X2.here hx rfl (hb hby at_76) k) ?_
    show Gl p.tables e below (QQof s (Q_law Z a rM rP rV rR rD h0 n0) 0 0) (T2.setTop (mkF m 77 #[.val (.int a), .val (.int i_), .val (.ref rM), .val (.int (1 : Int32))] [(.int (1 : Int32))]))
    refine Gl.go (fun _ k => XS.goto X2.here hx rfl (pc0 := 77) (pc' := 81) rfl (hb hby at_77) (by decide) (by decide) k) ?_
    show Gl p.tables e below (QQof s (Q_law Z a rM rP rV rR rD h0 n0) 0 0) (T2.setTop (mkF m 81 #[.val (.int a), .val (.int i_), .val (.ref rM), .val (.int (1 : Int32))] [(.int (1 : Int32))]))
    refine leafN X2 hx hlk (t := .boolean) Bd.returns (by simp) (hb hby at_81) ?_ (by decide) (by decide)
    exact ⟨rfl, N2⟩
  · skip
    refine Gl.go (fun _ k => XS.ifYes X0.here hx rfl (pc0 := 8) (pc' := 20) rfl (hb hby at_8) rfl ((if0 _ _).trans (feq h8).2) (by decide) (by decide) k) ?_
    show Gl p.tables e below (QQof s (Q_law Z a rM rP rV rR rD h0 n0) 0 0) (s₁.setTop (mkF m 20 #[.val (.int a), .val (.int i_), .unset, .unset] []))
    refine Gl.go (fun _ k => XS.iloadN X0.here hx rfl (hb hby at_20) rfl  k) ?_
    show Gl p.tables e below (QQof s (Q_law Z a rM rP rV rR rD h0 n0) 0 0) (s₁.setTop (mkF m 21 #[.val (.int a), .val (.int i_), .unset, .unset] [(.int i_)]))
    refine Gl.go (fun _ k => XS.iconst X0.here hx rfl (hb hby at_21) k) ?_
    show Gl p.tables e below (QQof s (Q_law Z a rM rP rV rR rD h0 n0) 0 0) (s₁.setTop (mkF m 22 #[.val (.int a), .val (.int i_), .unset, .unset] [(.int (1 : Int32)), (.int i_)]))
    by_cases h22 : i_ = (1 : Int32)
    · skip
      refine Gl.go (fun _ k => XS.icmpNo X0.here hx rfl (hb hby at_22) rfl (teq h22).2 k) ?_
      show Gl p.tables e below (QQof s (Q_law Z a rM rP rV rR rD h0 n0) 0 0) (s₁.setTop (mkF m 25 #[.val (.int a), .val (.int i_), .unset, .unset] []))
      obtain ⟨T3, X3, e3, st3⟩ := getS2 X0 hx hZ hown (host := "") (Or.inl (hw _ (List.mem_of_getElem? (i := 14) rfl))) Via.refl e0 SP (g := (mkF m 25 #[.val (.int a), .val (.int i_), .unset, .unset] [])) rfl (hb hby at_25)
      refine Gl.go (fun _ k => st3 _ k) ?_
      show Gl p.tables e below (QQof s (Q_law Z a rM rP rV rR rD h0 n0) 0 0) (T3.setTop (mkF m 28 #[.val (.int a), .val (.int i_), .unset, .unset] [(.ref rP)]))
      refine Gl.go (fun _ k => XS.astoreN X3.here hx rfl (hb hby at_28) rfl rfl (l' := #[.val (.int a), .val (.int i_), .val (.ref rP), .unset]) rfl k) ?_
      show Gl p.tables e below (QQof s (Q_law Z a rM rP rV rR rD h0 n0) 0 0) (T3.setTop (mkF m 29 #[.val (.int a), .val (.int i_), .val (.ref rP), .unset] []))
      refine Gl.go (fun _ k => XS.iconst X3.here hx rfl (hb hby at_29) k) ?_
      show Gl p.tables e below (QQof s (Q_law Z a rM rP rV rR rD h0 n0) 0 0) (T3.setTop (mkF m 30 #[.val (.int a), .val (.int i_), .val (.ref rP), .unset] [(.int (1 : Int32))]))
      refine Gl.go (fun _ k => XS.istoreN X3.here hx rfl (hb hby at_30) rfl (l' := #[.val (.int a), .val (.int i_), .val (.ref rP), .val (.int (1 : Int32))]) rfl k) ?_
      show Gl p.tables e below (QQof s (Q_law Z a rM rP rV rR rD h0 n0) 0 0) (T3.setTop (mkF m 31 #[.val (.int a), .val (.int i_), .val (.ref rP), .val (.int (1 : Int32))] []))
      refine Gl.go (fun _ k => XS.goto X3.here hx rfl (pc0 := 31) (pc' := 68) rfl (hb hby at_31) (by decide) (by decide) k) ?_
      show Gl p.tables e below (QQof s (Q_law Z a rM rP rV rR rD h0 n0) 0 0) (T3.setTop (mkF m 68 #[.val (.int a), .val (.int i_), .val (.ref rP), .val (.int (1 : Int32))] []))
      refine Gl.go (fun _ k => XS.aloadN X3.here hx rfl (hb hby at_68) rfl rfl  k) ?_
      show Gl p.tables e below (QQof s (Q_law Z a rM rP rV rR rD h0 n0) 0 0) (T3.setTop (mkF m 69 #[.val (.int a), .val (.int i_), .val (.ref rP), .val (.int (1 : Int32))] [(.ref rP)]))
      obtain ⟨cq4, kq4, q4a, q4b, q4c⟩ := isOf hZ e3 EP
      obtain ⟨_, _, ⟨T4, L4, k4, n4⟩, -, X4, ⟨Lc4, hQ4, l4, y4, z4⟩, st4⟩ := X3.virtualBack hx (y := (⟨"com/example/cornice/cornice/thames/Effect$Kind", "countable", "()Z"⟩ : MethodName)) (z := (⟨"com/example/cornice/cornice/thames/Effect$Kind", "countable", "()Z"⟩ : MethodName)) hown (mvT hZ (hw _ (List.mem_of_getElem? (i := 4) rfl))) (mvT hZ (hw _ (List.mem_of_getElem? (i := 5) rfl))) (notFace_of_selects (args := #[]) (mvT hZ (hw _ (List.mem_of_getElem? (i := 7) rfl)))) (mvT hZ (hw _ (List.mem_of_getElem? (i := 7) rfl))) (mvT hZ (hw _ (List.mem_of_getElem? (i := 6) rfl))) (by decide) (backOf (W := 0) (rm_cn l Z a0 hw [] rP rM rP h0 n0 Z0 SM SP) hZ (hw _ (List.mem_of_getElem? (i := 8) rfl)) (hw _ (List.mem_of_getElem? (i := 2) rfl)) (by decide) (by decide)) q4a q4c (g := (mkF m 69 #[.val (.int a), .val (.int i_), .val (.ref rP), .val (.int (1 : Int32))] [(.ref rP)])) rfl (by rw [hml]; rfl) (Steps.refl _) (argsL := []) (rest := []) (lenOf pd_0 rfl) rfl (by show 2 * 0 + _ ≤ _; exact Nat.le_of_eq rfl) (hb hby at_69) (fun _ _ => ⟨rfl, e3, (by decide : 0 + 0 ≤ _), (by decide : 0 + 0 ≤ _)⟩)
      dsimp only [Pt.U, Pt.locs, Pt.cells, Pt.slots] at X4 l4 y4 z4 st4 hQ4
      subst l4 y4 z4
      obtain ⟨rfl, Nq4, e4⟩ := hQ4
      have N4 := Fr.app N0 Nq4
      refine Gl.go (fun _ k => st4.trans k) ?_
      show Gl p.tables e below (QQof s (Q_law Z a rM rP rV rR rD h0 n0) 0 0) (T4.setTop (mkF m 72 #[.val (.int a), .val (.int i_), .val (.ref rP), .val (.int (1 : Int32))] [(.int (cntV rP rM rP))]))
      refine Gl.go (fun _ k => XS.iloadN X4.here hx rfl (hb hby at_72) rfl  k) ?_
      show Gl p.tables e below (QQof s (Q_law Z a rM rP rV rR rD h0 n0) 0 0) (T4.setTop (mkF m 73 #[.val (.int a), .val (.int i_), .val (.ref rP), .val (.int (1 : Int32))] [(.int (1 : Int32)), (.int (cntV rP rM rP))]))
      refine Gl.go (fun _ k => XS.icmpNo X4.here hx rfl (hb hby at_73) rfl (teq (own_c2 rM rP)).2 k) ?_
      show Gl p.tables e below (QQof s (Q_law Z a rM rP rV rR rD h0 n0) 0 0) (T4.setTop (mkF m 76 #[.val (.int a), .val (.int i_), .val (.ref rP), .val (.int (1 : Int32))] []))
      refine Gl.go (fun _ k => XS.iconst X4.here hx rfl (hb hby at_76) k) ?_
      show Gl p.tables e below (QQof s (Q_law Z a rM rP rV rR rD h0 n0) 0 0) (T4.setTop (mkF m 77 #[.val (.int a), .val (.int i_), .val (.ref rP), .val (.int (1 : Int32))] [(.int (1 : Int32))]))
      refine Gl.go (fun _ k => XS.goto X4.here hx rfl (pc0 := 77) (pc' := 81) rfl (hb hby at_77) (by decide) (by decide) k) ?_
      show Gl p.tables e below (QQof s (Q_law Z a rM rP rV rR rD h0 n0) 0 0) (T4.setTop (mkF m 81 #[.val (.int a), .val (.int i_), .val (.ref rP), .val (.int (1 : Int32))] [(.int (1 : Int32))]))
      refine leafN X4 hx hlk (t := .boolean) Bd.returns (by simp) (hb hby at_81) ?_ (by decide) (by decide)
      exact ⟨rfl, N4⟩
    · skip
      refine Gl.go (fun _ k => XS.icmpYes X0.here hx rfl (pc0 := 22) (pc' := 34) rfl (hb hby at_22) rfl (feq h22).2 (by decide) (by decide) k) ?_
      show Gl p.tables e below (QQof s (Q_law Z a rM rP rV rR rD h0 n0) 0 0) (s₁.setTop (mkF m 34 #[.val (.int a), .val (.int i_), .unset, .unset] []))
      refine Gl.go (fun _ k => XS.iloadN X0.here hx rfl (hb hby at_34) rfl  k) ?_
      show Gl p.tables e below (QQof s (Q_law Z a rM rP rV rR rD h0 n0) 0 0) (s₁.setTop (mkF m 35 #[.val (.int a), .val (.int i_), .unset, .unset] [(.int i_)]))
      refine Gl.go (fun _ k => XS.iconst X0.here hx rfl (hb hby at_35) k) ?_
      show Gl p.tables e below (QQof s (Q_law Z a rM rP rV rR rD h0 n0) 0 0) (s₁.setTop (mkF m 36 #[.val (.int a), .val (.int i_), .unset, .unset] [(.int (2 : Int32)), (.int i_)]))
      by_cases h36 : i_ = (2 : Int32)
      · skip
        refine Gl.go (fun _ k => XS.icmpNo X0.here hx rfl (hb hby at_36) rfl (teq h36).2 k) ?_
        show Gl p.tables e below (QQof s (Q_law Z a rM rP rV rR rD h0 n0) 0 0) (s₁.setTop (mkF m 39 #[.val (.int a), .val (.int i_), .unset, .unset] []))
        obtain ⟨T5, X5, e5, st5⟩ := getS2 X0 hx hZ hown (host := "") (Or.inl (hw _ (List.mem_of_getElem? (i := 17) rfl))) Via.refl e0 SV (g := (mkF m 39 #[.val (.int a), .val (.int i_), .unset, .unset] [])) rfl (hb hby at_39)
        refine Gl.go (fun _ k => st5 _ k) ?_
        show Gl p.tables e below (QQof s (Q_law Z a rM rP rV rR rD h0 n0) 0 0) (T5.setTop (mkF m 42 #[.val (.int a), .val (.int i_), .unset, .unset] [(.ref rV)]))
        refine Gl.go (fun _ k => XS.astoreN X5.here hx rfl (hb hby at_42) rfl rfl (l' := #[.val (.int a), .val (.int i_), .val (.ref rV), .unset]) rfl k) ?_
        show Gl p.tables e below (QQof s (Q_law Z a rM rP rV rR rD h0 n0) 0 0) (T5.setTop (mkF m 43 #[.val (.int a), .val (.int i_), .val (.ref rV), .unset] []))
        refine Gl.go (fun _ k => XS.iconst X5.here hx rfl (hb hby at_43) k) ?_
        show Gl p.tables e below (QQof s (Q_law Z a rM rP rV rR rD h0 n0) 0 0) (T5.setTop (mkF m 44 #[.val (.int a), .val (.int i_), .val (.ref rV), .unset] [(.int (0 : Int32))]))
        refine Gl.go (fun _ k => XS.istoreN X5.here hx rfl (hb hby at_44) rfl (l' := #[.val (.int a), .val (.int i_), .val (.ref rV), .val (.int (0 : Int32))]) rfl k) ?_
        show Gl p.tables e below (QQof s (Q_law Z a rM rP rV rR rD h0 n0) 0 0) (T5.setTop (mkF m 45 #[.val (.int a), .val (.int i_), .val (.ref rV), .val (.int (0 : Int32))] []))
        refine Gl.go (fun _ k => XS.goto X5.here hx rfl (pc0 := 45) (pc' := 68) rfl (hb hby at_45) (by decide) (by decide) k) ?_
        show Gl p.tables e below (QQof s (Q_law Z a rM rP rV rR rD h0 n0) 0 0) (T5.setTop (mkF m 68 #[.val (.int a), .val (.int i_), .val (.ref rV), .val (.int (0 : Int32))] []))
        refine Gl.go (fun _ k => XS.aloadN X5.here hx rfl (hb hby at_68) rfl rfl  k) ?_
        show Gl p.tables e below (QQof s (Q_law Z a rM rP rV rR rD h0 n0) 0 0) (T5.setTop (mkF m 69 #[.val (.int a), .val (.int i_), .val (.ref rV), .val (.int (0 : Int32))] [(.ref rV)]))
        obtain ⟨cq6, kq6, q6a, q6b, q6c⟩ := isOf hZ e5 EV
        obtain ⟨_, _, ⟨T6, L6, k6, n6⟩, -, X6, ⟨Lc6, hQ6, l6, y6, z6⟩, st6⟩ := X5.virtualBack hx (y := (⟨"com/example/cornice/cornice/thames/Effect$Kind", "countable", "()Z"⟩ : MethodName)) (z := (⟨"com/example/cornice/cornice/thames/Effect$Kind", "countable", "()Z"⟩ : MethodName)) hown (mvT hZ (hw _ (List.mem_of_getElem? (i := 4) rfl))) (mvT hZ (hw _ (List.mem_of_getElem? (i := 5) rfl))) (notFace_of_selects (args := #[]) (mvT hZ (hw _ (List.mem_of_getElem? (i := 7) rfl)))) (mvT hZ (hw _ (List.mem_of_getElem? (i := 7) rfl))) (mvT hZ (hw _ (List.mem_of_getElem? (i := 6) rfl))) (by decide) (backOf (W := 0) (rm_cn l Z a0 hw [] rV rM rP h0 n0 Z0 SM SP) hZ (hw _ (List.mem_of_getElem? (i := 8) rfl)) (hw _ (List.mem_of_getElem? (i := 2) rfl)) (by decide) (by decide)) q6a q6c (g := (mkF m 69 #[.val (.int a), .val (.int i_), .val (.ref rV), .val (.int (0 : Int32))] [(.ref rV)])) rfl (by rw [hml]; rfl) (Steps.refl _) (argsL := []) (rest := []) (lenOf pd_0 rfl) rfl (by show 2 * 0 + _ ≤ _; exact Nat.le_of_eq rfl) (hb hby at_69) (fun _ _ => ⟨rfl, e5, (by decide : 0 + 0 ≤ _), (by decide : 0 + 0 ≤ _)⟩)
        dsimp only [Pt.U, Pt.locs, Pt.cells, Pt.slots] at X6 l6 y6 z6 st6 hQ6
        subst l6 y6 z6
        obtain ⟨rfl, Nq6, e6⟩ := hQ6
        have N6 := Fr.app N0 Nq6
        refine Gl.go (fun _ k => st6.trans k) ?_
        show Gl p.tables e below (QQof s (Q_law Z a rM rP rV rR rD h0 n0) 0 0) (T6.setTop (mkF m 72 #[.val (.int a), .val (.int i_), .val (.ref rV), .val (.int (0 : Int32))] [(.int (cntV rV rM rP))]))
        refine Gl.go (fun _ k => XS.iloadN X6.here hx rfl (hb hby at_72) rfl  k) ?_
        show Gl p.tables e below (QQof s (Q_law Z a rM rP rV rR rD h0 n0) 0 0) (T6.setTop (mkF m 73 #[.val (.int a), .val (.int i_), .val (.ref rV), .val (.int (0 : Int32))] [(.int (0 : Int32)), (.int (cntV rV rM rP))]))
        refine Gl.go (fun _ k => XS.icmpNo X6.here hx rfl (hb hby at_73) rfl (teq (own_c3 nVM nVP)).2 k) ?_
        show Gl p.tables e below (QQof s (Q_law Z a rM rP rV rR rD h0 n0) 0 0) (T6.setTop (mkF m 76 #[.val (.int a), .val (.int i_), .val (.ref rV), .val (.int (0 : Int32))] []))
        refine Gl.go (fun _ k => XS.iconst X6.here hx rfl (hb hby at_76) k) ?_
        show Gl p.tables e below (QQof s (Q_law Z a rM rP rV rR rD h0 n0) 0 0) (T6.setTop (mkF m 77 #[.val (.int a), .val (.int i_), .val (.ref rV), .val (.int (0 : Int32))] [(.int (1 : Int32))]))
        refine Gl.go (fun _ k => XS.goto X6.here hx rfl (pc0 := 77) (pc' := 81) rfl (hb hby at_77) (by decide) (by decide) k) ?_
        show Gl p.tables e below (QQof s (Q_law Z a rM rP rV rR rD h0 n0) 0 0) (T6.setTop (mkF m 81 #[.val (.int a), .val (.int i_), .val (.ref rV), .val (.int (0 : Int32))] [(.int (1 : Int32))]))
        refine leafN X6 hx hlk (t := .boolean) Bd.returns (by simp) (hb hby at_81) ?_ (by decide) (by decide)
        exact ⟨rfl, N6⟩
      · skip
        refine Gl.go (fun _ k => XS.icmpYes X0.here hx rfl (pc0 := 36) (pc' := 48) rfl (hb hby at_36) rfl (feq h36).2 (by decide) (by decide) k) ?_
        show Gl p.tables e below (QQof s (Q_law Z a rM rP rV rR rD h0 n0) 0 0) (s₁.setTop (mkF m 48 #[.val (.int a), .val (.int i_), .unset, .unset] []))
        refine Gl.go (fun _ k => XS.iloadN X0.here hx rfl (hb hby at_48) rfl  k) ?_
        show Gl p.tables e below (QQof s (Q_law Z a rM rP rV rR rD h0 n0) 0 0) (s₁.setTop (mkF m 49 #[.val (.int a), .val (.int i_), .unset, .unset] [(.int i_)]))
        refine Gl.go (fun _ k => XS.iconst X0.here hx rfl (hb hby at_49) k) ?_
        show Gl p.tables e below (QQof s (Q_law Z a rM rP rV rR rD h0 n0) 0 0) (s₁.setTop (mkF m 50 #[.val (.int a), .val (.int i_), .unset, .unset] [(.int (3 : Int32)), (.int i_)]))
        by_cases h50 : i_ = (3 : Int32)
        · skip
          refine Gl.go (fun _ k => XS.icmpNo X0.here hx rfl (hb hby at_50) rfl (teq h50).2 k) ?_
          show Gl p.tables e below (QQof s (Q_law Z a rM rP rV rR rD h0 n0) 0 0) (s₁.setTop (mkF m 53 #[.val (.int a), .val (.int i_), .unset, .unset] []))
          obtain ⟨T7, X7, e7, st7⟩ := getS2 X0 hx hZ hown (host := "") (Or.inl (hw _ (List.mem_of_getElem? (i := 10) rfl))) Via.refl e0 SR (g := (mkF m 53 #[.val (.int a), .val (.int i_), .unset, .unset] [])) rfl (hb hby at_53)
          refine Gl.go (fun _ k => st7 _ k) ?_
          show Gl p.tables e below (QQof s (Q_law Z a rM rP rV rR rD h0 n0) 0 0) (T7.setTop (mkF m 56 #[.val (.int a), .val (.int i_), .unset, .unset] [(.ref rR)]))
          refine Gl.go (fun _ k => XS.astoreN X7.here hx rfl (hb hby at_56) rfl rfl (l' := #[.val (.int a), .val (.int i_), .val (.ref rR), .unset]) rfl k) ?_
          show Gl p.tables e below (QQof s (Q_law Z a rM rP rV rR rD h0 n0) 0 0) (T7.setTop (mkF m 57 #[.val (.int a), .val (.int i_), .val (.ref rR), .unset] []))
          refine Gl.go (fun _ k => XS.iconst X7.here hx rfl (hb hby at_57) k) ?_
          show Gl p.tables e below (QQof s (Q_law Z a rM rP rV rR rD h0 n0) 0 0) (T7.setTop (mkF m 58 #[.val (.int a), .val (.int i_), .val (.ref rR), .unset] [(.int (0 : Int32))]))
          refine Gl.go (fun _ k => XS.istoreN X7.here hx rfl (hb hby at_58) rfl (l' := #[.val (.int a), .val (.int i_), .val (.ref rR), .val (.int (0 : Int32))]) rfl k) ?_
          show Gl p.tables e below (QQof s (Q_law Z a rM rP rV rR rD h0 n0) 0 0) (T7.setTop (mkF m 59 #[.val (.int a), .val (.int i_), .val (.ref rR), .val (.int (0 : Int32))] []))
          refine Gl.go (fun _ k => XS.goto X7.here hx rfl (pc0 := 59) (pc' := 68) rfl (hb hby at_59) (by decide) (by decide) k) ?_
          show Gl p.tables e below (QQof s (Q_law Z a rM rP rV rR rD h0 n0) 0 0) (T7.setTop (mkF m 68 #[.val (.int a), .val (.int i_), .val (.ref rR), .val (.int (0 : Int32))] []))
          refine Gl.go (fun _ k => XS.aloadN X7.here hx rfl (hb hby at_68) rfl rfl  k) ?_
          show Gl p.tables e below (QQof s (Q_law Z a rM rP rV rR rD h0 n0) 0 0) (T7.setTop (mkF m 69 #[.val (.int a), .val (.int i_), .val (.ref rR), .val (.int (0 : Int32))] [(.ref rR)]))
          obtain ⟨cq8, kq8, q8a, q8b, q8c⟩ := isOf hZ e7 ER
          obtain ⟨_, _, ⟨T8, L8, k8, n8⟩, -, X8, ⟨Lc8, hQ8, l8, y8, z8⟩, st8⟩ := X7.virtualBack hx (y := (⟨"com/example/cornice/cornice/thames/Effect$Kind", "countable", "()Z"⟩ : MethodName)) (z := (⟨"com/example/cornice/cornice/thames/Effect$Kind", "countable", "()Z"⟩ : MethodName)) hown (mvT hZ (hw _ (List.mem_of_getElem? (i := 4) rfl))) (mvT hZ (hw _ (List.mem_of_getElem? (i := 5) rfl))) (notFace_of_selects (args := #[]) (mvT hZ (hw _ (List.mem_of_getElem? (i := 7) rfl)))) (mvT hZ (hw _ (List.mem_of_getElem? (i := 7) rfl))) (mvT hZ (hw _ (List.mem_of_getElem? (i := 6) rfl))) (by decide) (backOf (W := 0) (rm_cn l Z a0 hw [] rR rM rP h0 n0 Z0 SM SP) hZ (hw _ (List.mem_of_getElem? (i := 8) rfl)) (hw _ (List.mem_of_getElem? (i := 2) rfl)) (by decide) (by decide)) q8a q8c (g := (mkF m 69 #[.val (.int a), .val (.int i_), .val (.ref rR), .val (.int (0 : Int32))] [(.ref rR)])) rfl (by rw [hml]; rfl) (Steps.refl _) (argsL := []) (rest := []) (lenOf pd_0 rfl) rfl (by show 2 * 0 + _ ≤ _; exact Nat.le_of_eq rfl) (hb hby at_69) (fun _ _ => ⟨rfl, e7, (by decide : 0 + 0 ≤ _), (by decide : 0 + 0 ≤ _)⟩)
          dsimp only [Pt.U, Pt.locs, Pt.cells, Pt.slots] at X8 l8 y8 z8 st8 hQ8
          subst l8 y8 z8
          obtain ⟨rfl, Nq8, e8⟩ := hQ8
          have N8 := Fr.app N0 Nq8
          refine Gl.go (fun _ k => st8.trans k) ?_
          show Gl p.tables e below (QQof s (Q_law Z a rM rP rV rR rD h0 n0) 0 0) (T8.setTop (mkF m 72 #[.val (.int a), .val (.int i_), .val (.ref rR), .val (.int (0 : Int32))] [(.int (cntV rR rM rP))]))
          refine Gl.go (fun _ k => XS.iloadN X8.here hx rfl (hb hby at_72) rfl  k) ?_
          show Gl p.tables e below (QQof s (Q_law Z a rM rP rV rR rD h0 n0) 0 0) (T8.setTop (mkF m 73 #[.val (.int a), .val (.int i_), .val (.ref rR), .val (.int (0 : Int32))] [(.int (0 : Int32)), (.int (cntV rR rM rP))]))
          refine Gl.go (fun _ k => XS.icmpNo X8.here hx rfl (hb hby at_73) rfl (teq (own_c3 nRM nRP)).2 k) ?_
          show Gl p.tables e below (QQof s (Q_law Z a rM rP rV rR rD h0 n0) 0 0) (T8.setTop (mkF m 76 #[.val (.int a), .val (.int i_), .val (.ref rR), .val (.int (0 : Int32))] []))
          refine Gl.go (fun _ k => XS.iconst X8.here hx rfl (hb hby at_76) k) ?_
          show Gl p.tables e below (QQof s (Q_law Z a rM rP rV rR rD h0 n0) 0 0) (T8.setTop (mkF m 77 #[.val (.int a), .val (.int i_), .val (.ref rR), .val (.int (0 : Int32))] [(.int (1 : Int32))]))
          refine Gl.go (fun _ k => XS.goto X8.here hx rfl (pc0 := 77) (pc' := 81) rfl (hb hby at_77) (by decide) (by decide) k) ?_
          show Gl p.tables e below (QQof s (Q_law Z a rM rP rV rR rD h0 n0) 0 0) (T8.setTop (mkF m 81 #[.val (.int a), .val (.int i_), .val (.ref rR), .val (.int (0 : Int32))] [(.int (1 : Int32))]))
          refine leafN X8 hx hlk (t := .boolean) Bd.returns (by simp) (hb hby at_81) ?_ (by decide) (by decide)
          exact ⟨rfl, N8⟩
        · skip
          refine Gl.go (fun _ k => XS.icmpYes X0.here hx rfl (pc0 := 50) (pc' := 62) rfl (hb hby at_50) rfl (feq h50).2 (by decide) (by decide) k) ?_
          show Gl p.tables e below (QQof s (Q_law Z a rM rP rV rR rD h0 n0) 0 0) (s₁.setTop (mkF m 62 #[.val (.int a), .val (.int i_), .unset, .unset] []))
          obtain ⟨T9, X9, e9, st9⟩ := getS2 X0 hx hZ hown (host := "") (Or.inl (hw _ (List.mem_of_getElem? (i := 15) rfl))) Via.refl e0 SD (g := (mkF m 62 #[.val (.int a), .val (.int i_), .unset, .unset] [])) rfl (hb hby at_62)
          refine Gl.go (fun _ k => st9 _ k) ?_
          show Gl p.tables e below (QQof s (Q_law Z a rM rP rV rR rD h0 n0) 0 0) (T9.setTop (mkF m 65 #[.val (.int a), .val (.int i_), .unset, .unset] [(.ref rD)]))
          refine Gl.go (fun _ k => XS.astoreN X9.here hx rfl (hb hby at_65) rfl rfl (l' := #[.val (.int a), .val (.int i_), .val (.ref rD), .unset]) rfl k) ?_
          show Gl p.tables e below (QQof s (Q_law Z a rM rP rV rR rD h0 n0) 0 0) (T9.setTop (mkF m 66 #[.val (.int a), .val (.int i_), .val (.ref rD), .unset] []))
          refine Gl.go (fun _ k => XS.iconst X9.here hx rfl (hb hby at_66) k) ?_
          show Gl p.tables e below (QQof s (Q_law Z a rM rP rV rR rD h0 n0) 0 0) (T9.setTop (mkF m 67 #[.val (.int a), .val (.int i_), .val (.ref rD), .unset] [(.int (0 : Int32))]))
          refine Gl.go (fun _ k => XS.istoreN X9.here hx rfl (hb hby at_67) rfl (l' := #[.val (.int a), .val (.int i_), .val (.ref rD), .val (.int (0 : Int32))]) rfl k) ?_
          show Gl p.tables e below (QQof s (Q_law Z a rM rP rV rR rD h0 n0) 0 0) (T9.setTop (mkF m 68 #[.val (.int a), .val (.int i_), .val (.ref rD), .val (.int (0 : Int32))] []))
          refine Gl.go (fun _ k => XS.aloadN X9.here hx rfl (hb hby at_68) rfl rfl  k) ?_
          show Gl p.tables e below (QQof s (Q_law Z a rM rP rV rR rD h0 n0) 0 0) (T9.setTop (mkF m 69 #[.val (.int a), .val (.int i_), .val (.ref rD), .val (.int (0 : Int32))] [(.ref rD)]))
          obtain ⟨cq10, kq10, q10a, q10b, q10c⟩ := isOf hZ e9 ED
          obtain ⟨_, _, ⟨T10, L10, k10, n10⟩, -, X10, ⟨Lc10, hQ10, l10, y10, z10⟩, st10⟩ := X9.virtualBack hx (y := (⟨"com/example/cornice/cornice/thames/Effect$Kind", "countable", "()Z"⟩ : MethodName)) (z := (⟨"com/example/cornice/cornice/thames/Effect$Kind", "countable", "()Z"⟩ : MethodName)) hown (mvT hZ (hw _ (List.mem_of_getElem? (i := 4) rfl))) (mvT hZ (hw _ (List.mem_of_getElem? (i := 5) rfl))) (notFace_of_selects (args := #[]) (mvT hZ (hw _ (List.mem_of_getElem? (i := 7) rfl)))) (mvT hZ (hw _ (List.mem_of_getElem? (i := 7) rfl))) (mvT hZ (hw _ (List.mem_of_getElem? (i := 6) rfl))) (by decide) (backOf (W := 0) (rm_cn l Z a0 hw [] rD rM rP h0 n0 Z0 SM SP) hZ (hw _ (List.mem_of_getElem? (i := 8) rfl)) (hw _ (List.mem_of_getElem? (i := 2) rfl)) (by decide) (by decide)) q10a q10c (g := (mkF m 69 #[.val (.int a), .val (.int i_), .val (.ref rD), .val (.int (0 : Int32))] [(.ref rD)])) rfl (by rw [hml]; rfl) (Steps.refl _) (argsL := []) (rest := []) (lenOf pd_0 rfl) rfl (by show 2 * 0 + _ ≤ _; exact Nat.le_of_eq rfl) (hb hby at_69) (fun _ _ => ⟨rfl, e9, (by decide : 0 + 0 ≤ _), (by decide : 0 + 0 ≤ _)⟩)
          dsimp only [Pt.U, Pt.locs, Pt.cells, Pt.slots] at X10 l10 y10 z10 st10 hQ10
          subst l10 y10 z10
          obtain ⟨rfl, Nq10, e10⟩ := hQ10
          have N10 := Fr.app N0 Nq10
          refine Gl.go (fun _ k => st10.trans k) ?_
          show Gl p.tables e below (QQof s (Q_law Z a rM rP rV rR rD h0 n0) 0 0) (T10.setTop (mkF m 72 #[.val (.int a), .val (.int i_), .val (.ref rD), .val (.int (0 : Int32))] [(.int (cntV rD rM rP))]))
          refine Gl.go (fun _ k => XS.iloadN X10.here hx rfl (hb hby at_72) rfl  k) ?_
          show Gl p.tables e below (QQof s (Q_law Z a rM rP rV rR rD h0 n0) 0 0) (T10.setTop (mkF m 73 #[.val (.int a), .val (.int i_), .val (.ref rD), .val (.int (0 : Int32))] [(.int (0 : Int32)), (.int (cntV rD rM rP))]))
          refine Gl.go (fun _ k => XS.icmpNo X10.here hx rfl (hb hby at_73) rfl (teq (own_c3 nDM nDP)).2 k) ?_
          show Gl p.tables e below (QQof s (Q_law Z a rM rP rV rR rD h0 n0) 0 0) (T10.setTop (mkF m 76 #[.val (.int a), .val (.int i_), .val (.ref rD), .val (.int (0 : Int32))] []))
          refine Gl.go (fun _ k => XS.iconst X10.here hx rfl (hb hby at_76) k) ?_
          show Gl p.tables e below (QQof s (Q_law Z a rM rP rV rR rD h0 n0) 0 0) (T10.setTop (mkF m 77 #[.val (.int a), .val (.int i_), .val (.ref rD), .val (.int (0 : Int32))] [(.int (1 : Int32))]))
          refine Gl.go (fun _ k => XS.goto X10.here hx rfl (pc0 := 77) (pc' := 81) rfl (hb hby at_77) (by decide) (by decide) k) ?_
          show Gl p.tables e below (QQof s (Q_law Z a rM rP rV rR rD h0 n0) 0 0) (T10.setTop (mkF m 81 #[.val (.int a), .val (.int i_), .val (.ref rD), .val (.int (0 : Int32))] [(.int (1 : Int32))]))
          refine leafN X10 hx hlk (t := .boolean) Bd.returns (by simp) (hb hby at_81) ?_ (by decide) (by decide)
          exact ⟨rfl, N10⟩
set_option maxRecDepth 65536 in
set_option maxHeartbeats 40000000 in
theorem comes_1 {Post : Tables → Env → Array Value → State → Outcome → State → Prop} (hpost : ∀ tb e args s v u, (limb_1_1.after args s (.returned v) u = true ∧ limb_1_2.after args s (.returned v) u = true ∧ True) → FrameEnd s (.returned v) u (Jvm.fieldLocs frame_1_writes args s ++ Jvm.arrayLocs frame_1_arrays args s ++ Jvm.staticLocs frame_1_statics s) 0 0 → Post tb e args s (.returned v) u) :
    ArmFor flags0 classFile x code maxLocals ret World_1 tables_1 room_1 Calls_1 rest_1 Pre_1 Post := by
  intro l hfl _ _ p e ha hc hk s m args below hf hA hF happ hP
  obtain ⟨hcalls, hrest, hpre⟩ := hP
  obtain ⟨-, -, -, hnamed, -, -, -, hat⟩ := (Spec.applies_iff hf).mp happ
  obtain ⟨hg, hn⟩ := and_e (Cond.before_iff.mp (show (Jvm.Cond.and given_1 narrow_1).before args s = true from hpre))
  obtain ⟨hcount, hg0⟩ := and_e hg
  have hk0 := hg0
  obtain ⟨w0, rfl⟩ : ∃ w0 : Value, args = #[w0] := by
    have hs : args.size = 1 := by simpa [Cond.value, given_1] using hcount
    obtain ⟨L⟩ := args
    match L, hs with
    | [w0], _ => exact ⟨w0, rfl⟩
  have hw := fun d (hd : d ∈ tables_1) => atoms_spec (ws := Jvm.Cond.code x code maxLocals ret :: tables_1) hat d (List.mem_cons_of_mem _ hd)
  have hfit : Fit s := fun {y c} hc i hi => by
    obtain ⟨ha, rfl⟩ := Array.getElem?_eq_some_iff.mp hc
    have q := List.all_eq_true.mp ((Array.all_eq_true_iff_forall_mem.mp hF) _ (Array.getElem_mem ha)) i (List.mem_range.mpr hi)
    simpa [Array.getElem?_eq_getElem hi] using q
  obtain ⟨i0, ei0⟩ := is_v hk0
  obtain rfl : w0 = (.int i0) := Option.some.inj ei0
  obtain ⟨xM1, hn⟩ := and_e hn
  obtain ⟨xR1, hn⟩ := and_e hn
  obtain ⟨xR2, hn⟩ := and_e hn
  obtain ⟨xM2, hn⟩ := and_e hn
  obtain ⟨xP1, hn⟩ := and_e hn
  obtain ⟨xP2, hn⟩ := and_e hn
  obtain ⟨xD1, hn⟩ := and_e hn
  obtain ⟨xD2, hn⟩ := and_e hn
  obtain ⟨xV1, hn⟩ := and_e hn
  have xV2 := hn
  obtain ⟨rM, evM⟩ := exa_v xM1
  have SM : Sta s s.heap "com/example/cornice/cornice/thames/Effect$Kind" "MONEY" "Lcom/example/cornice/cornice/thames/Effect$Kind;" (.ref rM) := Sta.start evM (Or.inr ⟨(hw _ (List.mem_of_getElem? (i := 2) rfl)), (hw _ (List.mem_of_getElem? (i := 3) rfl))⟩)
  have EM : Exa s s.heap rM "com/example/cornice/cornice/thames/Effect$Kind" := Exa.start evM xM1
  have FM := fld_int evM xM2
  obtain ⟨rP, evP⟩ := exa_v xP1
  have SP : Sta s s.heap "com/example/cornice/cornice/thames/Effect$Kind" "PRESTIGE" "Lcom/example/cornice/cornice/thames/Effect$Kind;" (.ref rP) := Sta.start evP (Or.inr ⟨(hw _ (List.mem_of_getElem? (i := 2) rfl)), (hw _ (List.mem_of_getElem? (i := 13) rfl))⟩)
  have EP : Exa s s.heap rP "com/example/cornice/cornice/thames/Effect$Kind" := Exa.start evP xP1
  have FP := fld_int evP xP2
  obtain ⟨rV, evV⟩ := exa_v xV1
  have SV : Sta s s.heap "com/example/cornice/cornice/thames/Effect$Kind" "POVERTY" "Lcom/example/cornice/cornice/thames/Effect$Kind;" (.ref rV) := Sta.start evV (Or.inr ⟨(hw _ (List.mem_of_getElem? (i := 2) rfl)), (hw _ (List.mem_of_getElem? (i := 18) rfl))⟩)
  have EV : Exa s s.heap rV "com/example/cornice/cornice/thames/Effect$Kind" := Exa.start evV xV1
  have FV := fld_int evV xV2
  obtain ⟨rR, evR⟩ := exa_v xR1
  have SR : Sta s s.heap "com/example/cornice/cornice/thames/Effect$Kind" "RELIEF" "Lcom/example/cornice/cornice/thames/Effect$Kind;" (.ref rR) := Sta.start evR (Or.inr ⟨(hw _ (List.mem_of_getElem? (i := 2) rfl)), (hw _ (List.mem_of_getElem? (i := 11) rfl))⟩)
  have ER : Exa s s.heap rR "com/example/cornice/cornice/thames/Effect$Kind" := Exa.start evR xR1
  have FR := fld_int evR xR2
  obtain ⟨rD, evD⟩ := exa_v xD1
  have SD : Sta s s.heap "com/example/cornice/cornice/thames/Effect$Kind" "DRAW" "Lcom/example/cornice/cornice/thames/Effect$Kind;" (.ref rD) := Sta.start evD (Or.inr ⟨(hw _ (List.mem_of_getElem? (i := 2) rfl)), (hw _ (List.mem_of_getElem? (i := 16) rfl))⟩)
  have ED : Exa s s.heap rD "com/example/cornice/cornice/thames/Effect$Kind" := Exa.start evD xD1
  have FD := fld_int evD xD2
  obtain ⟨n, o, h1, h2, h3, _, L, rfl, ⟨rfl, N⟩, hq⟩ := rm_law l s _ hw tables_1 i0 rM rP rV rR rD s.heap s.heap.size (Nat.le_refl _) SM SP SV SR SD EM EP EV ER ED (Fld.ne FV FM (by decide)) (Fld.ne FV FP (by decide)) (Fld.ne FR FM (by decide)) (Fld.ne FR FP (by decide)) (Fld.ne FD FM (by decide)) (Fld.ne FD FP (by decide)) p e ha hc hk s m _ below hf ((Spec.applies_iff_loose hf).mp happ).1 ⟨rfl, State.Warmed39.refl s, rfl⟩ trivial
  refine ⟨n, _, h1, h2, h3, hpost _ _ _ _ _ _ ⟨Cond.after_iff.mpr rfl, Cond.after_iff.mpr (eq_i res_at (Term.int_eval (1)) rfl), trivial⟩ ⟨hq.1, hq.2.1, (hq.2.2.sift fun y hy => Or.inr (N y hy)).mono (by decide) (by decide)⟩⟩
theorem main_1_1 : Claimed_1_1 := comes_1 fun _ _ _ _ _ _ h hF => ⟨h.1, hF⟩
theorem main_1_2 : Claimed_1_2 := comes_1 fun _ _ _ _ _ _ h hF => ⟨h.2.1, hF⟩
end Jvm.Pilot.@@N@@
namespace Jvm.Pilot.@@N@@
open Jvm Jvm.ClassFile Sem Op Lib Jvm.Free Jvm.Stand Jvm.Pilot.@@N@@.Jvm.D
/-! MADE BY PROGRAM (witnessworld.py) out of the Statement's table words and the real class files: 12 classes; the members and pool entries that the words name. The judged class is class 1, her method 1. -/
namespace start1
open Jvm.ClassFile
def u (s : String) : CpInfo := .utf8 (stringToUtf16 s)
/-- a pool by its gaps: so many unusable entries, then the entry; so many at the end -/
def gap : Nat → List CpInfo → List CpInfo
  | 0, r => r
  | n + 1, r => .unusable :: gap n r
def poolList (es : List (Nat × CpInfo)) (last : Nat) : List CpInfo := es.foldr (fun e r => gap e.1 (e.2 :: r)) (gap last [])
def pool (es : List (Nat × CpInfo)) (last : Nat) : Array CpInfo := ⟨poolList es last⟩
def fileOf (pool : Array CpInfo) (this : Nat) (attrs : Array Attribute := #[]) (ms : Array MethodInfo := #[]) (fl : Nat := 33) (sup : Nat := 0) (ifs : Array Nat := #[]) (fds : Array FieldInfo := #[]) : ClassFile where
  minorVersion := 0
  majorVersion := 65
  constantPool := pool
  accessFlags := fl
  thisClass := this
  superClass := sup
  interfaces := ifs
  fields := fds
  methods := ms
  attributes := attrs
def plain (name : String) (sup : Option ClassId) : Class where
  name := name
  kind := .ordinary
  loader := none
  accessFlags := 33
  super := sup
  interfaces := #[]
  cf := none
  fields := #[]
  methods := #[]
  instanceTypes := #[]
  staticTypes := #[]
  resolved := #[]
  callSites := []
  init := .initialized
  statics := none
  mirror := none

def pool0 : Array CpInfo := pool [(5, u "<init>"), (0, u "()V"), (1, .class_ 10), (1, u "java/lang/Object")] 113

def k0m0 : Method := { name := "<init>", desc := "()V", sig := { parameters := [], returnType := none }, accessFlags := 1, code := none }
/-- java/lang/Object -/
def k0 : Class := { plain "java/lang/Object" none with
  accessFlags := 33
  interfaces := #[]
  cf := some (fileOf pool0 8 #[] #[{ accessFlags := 1, nameIndex := 5, descriptorIndex := 6, attributes := #[] }] 33 0 #[] #[])
  fields := #[]
  methods := #[k0m0]
  instanceTypes := #[]
  staticTypes := #[]
  resolved := Array.replicate 124 none
  statics := none }

def pool1 : Array CpInfo := pool [(2, .class_ 4), (1, u "java/lang/Object"), (0, u "<init>"), (0, u "()V"), (0, .integer 2147483647), (0, .fieldref 9 10), (0, .class_ 11), (0, .nameAndType 12 13), (0, u "com/example/cornice/cornice/thames/Effect$Kind"), (0, u "MONEY"), (0, u "Lcom/example/cornice/cornice/thames/Effect$Kind;"), (0, .fieldref 9 15), (0, .nameAndType 16 13), (0, u "PRESTIGE"), (0, .fieldref 9 18), (0, .nameAndType 19 13), (0, u "POVERTY"), (0, .fieldref 9 21), (0, .nameAndType 22 13), (0, u "RELIEF"), (0, .fieldref 9 24), (0, .nameAndType 25 13), (0, u "DRAW"), (0, .methodref 9 27), (0, .nameAndType 28 29), (0, u "countable"), (0, u "()Z"), (0, .class_ 31), (0, u "com/example/cornice/cornice/thames/KindCountablePinLaw"), (2, u "law"), (0, u "(I)Z")] 7

def k1m0 : Method := { name := "<init>", desc := "()V", sig := { parameters := [], returnType := none }, accessFlags := 2, code := none }
def k1c1 : Code := { maxStack := 2, maxLocals := 4, code := code, exceptionTable := #[], attributes := #[] }
def k1m1 : Method := { name := "law", desc := "(I)Z", sig := { parameters := [.int], returnType := some .boolean }, accessFlags := 9, code := some k1c1 }
/-- com/example/cornice/cornice/thames/KindCountablePinLaw -/
def k1 : Class := { plain "com/example/cornice/cornice/thames/KindCountablePinLaw" (some 0) with
  accessFlags := 49
  interfaces := #[]
  cf := some (fileOf pool1 30 #[] #[{ accessFlags := 2, nameIndex := 5, descriptorIndex := 6, attributes := #[] }, { accessFlags := 9, nameIndex := 34, descriptorIndex := 35, attributes := #[] }] 49 2 #[] #[])
  fields := #[]
  methods := #[k1m0, k1m1]
  instanceTypes := #[]
  staticTypes := #[]
  resolved := Array.replicate 43 none
  statics := none }

def pool2 : Array CpInfo := pool [(1, .class_ 2), (0, u "java/lang/constant/Constable"), (0, .class_ 4), (0, u "java/lang/Object")] 6

/-- java/lang/constant/Constable -/
def k2 : Class := { plain "java/lang/constant/Constable" (some 0) with
  accessFlags := 1537
  interfaces := #[]
  cf := some (fileOf pool2 1 #[] #[] 1537 3 #[] #[])
  fields := #[]
  methods := #[]
  instanceTypes := #[]
  staticTypes := #[]
  resolved := Array.replicate 11 none
  statics := none }

def pool3 : Array CpInfo := pool [(1, .class_ 2), (0, u "java/lang/Comparable"), (0, .class_ 4), (0, u "java/lang/Object")] 7

/-- java/lang/Comparable -/
def k3 : Class := { plain "java/lang/Comparable" (some 0) with
  accessFlags := 1537
  interfaces := #[]
  cf := some (fileOf pool3 1 #[] #[] 1537 3 #[] #[])
  fields := #[]
  methods := #[]
  instanceTypes := #[]
  staticTypes := #[]
  resolved := Array.replicate 12 none
  statics := none }

def pool4 : Array CpInfo := pool [(1, .class_ 2), (0, u "java/io/Serializable"), (0, .class_ 4), (0, u "java/lang/Object")] 2

/-- java/io/Serializable -/
def k4 : Class := { plain "java/io/Serializable" (some 0) with
  accessFlags := 1537
  interfaces := #[]
  cf := some (fileOf pool4 1 #[] #[] 1537 3 #[] #[])
  fields := #[]
  methods := #[]
  instanceTypes := #[]
  staticTypes := #[]
  resolved := Array.replicate 7 none
  statics := none }

def pool5 : Array CpInfo := pool [(2, .class_ 4), (1, u "java/lang/Enum"), (0, u "name"), (0, u "Ljava/lang/String;"), (2, u "ordinal"), (0, u "I"), (1, .class_ 14), (1, u "java/lang/Object"), (4, u "hash"), (86, .class_ 108), (1, u "java/lang/Enum$EnumDesc"), (2, .class_ 112), (0, u "java/lang/constant/Constable"), (0, .class_ 114), (0, u "java/lang/Comparable"), (0, .class_ 116), (0, u "java/io/Serializable")] 87

/-- java/lang/Enum -/
def k5 : Class := { plain "java/lang/Enum" (some 0) with
  accessFlags := 1057
  interfaces := #[2, 3, 4]
  cf := some (fileOf pool5 2 #[.nestMembers #[106]] #[] 1057 12 #[111, 113, 115] #[{ accessFlags := 18, nameIndex := 5, descriptorIndex := 6, attributes := #[] }, { accessFlags := 18, nameIndex := 9, descriptorIndex := 10, attributes := #[] }, { accessFlags := 2, nameIndex := 19, descriptorIndex := 10, attributes := #[] }])
  fields := #[{ name := "name", type := (.object "java/lang/String"), accessFlags := 18, slot := 0, constantValue := 0 }, { name := "ordinal", type := .int, accessFlags := 18, slot := 1, constantValue := 0 }, { name := "hash", type := .int, accessFlags := 2, slot := 2, constantValue := 0 }]
  methods := #[]
  instanceTypes := #[(.object "java/lang/String"), .int, .int]
  staticTypes := #[]
  resolved := Array.replicate 204 none
  statics := none }

def pool6 : Array CpInfo := pool [(1, .class_ 2), (0, u "com/example/cornice/cornice/thames/Effect$Kind"), (0, .fieldref 1 4), (0, .nameAndType 5 6), (0, u "MONEY"), (0, u "Lcom/example/cornice/cornice/thames/Effect$Kind;"), (0, .fieldref 1 8), (0, .nameAndType 9 6), (0, u "PRESTIGE"), (2, u "POVERTY"), (2, u "RELIEF"), (2, u "DRAW"), (2, u "$VALUES"), (0, u "[Lcom/example/cornice/cornice/thames/Effect$Kind;"), (6, .class_ 31), (1, u "java/lang/Enum"), (23, u "countable"), (0, u "()Z"), (6, .class_ 64), (0, u "com/example/cornice/cornice/thames/Effect")] 2

def k6c0 : Code := { maxStack := 2, maxLocals := 1, code := prog_39_method_4_code, exceptionTable := #[], attributes := #[] }
def k6m0 : Method := { name := "countable", desc := "()Z", sig := { parameters := [], returnType := some .boolean }, accessFlags := 1, code := some k6c0 }
/-- com/example/cornice/cornice/thames/Effect$Kind -/
def k6 : Class := { plain "com/example/cornice/cornice/thames/Effect$Kind" (some 5) with
  accessFlags := 16433
  interfaces := #[]
  cf := some (fileOf pool6 1 #[.nestHost 63] #[{ accessFlags := 1, nameIndex := 55, descriptorIndex := 56, attributes := #[] }] 16433 29 #[] #[{ accessFlags := 16409, nameIndex := 5, descriptorIndex := 6, attributes := #[] }, { accessFlags := 16409, nameIndex := 9, descriptorIndex := 6, attributes := #[] }, { accessFlags := 16409, nameIndex := 12, descriptorIndex := 6, attributes := #[] }, { accessFlags := 16409, nameIndex := 15, descriptorIndex := 6, attributes := #[] }, { accessFlags := 16409, nameIndex := 18, descriptorIndex := 6, attributes := #[] }, { accessFlags := 4122, nameIndex := 21, descriptorIndex := 22, attributes := #[] }])
  fields := #[{ name := "MONEY", type := (.object "com/example/cornice/cornice/thames/Effect$Kind"), accessFlags := 16409, slot := 0, constantValue := 0 }, { name := "PRESTIGE", type := (.object "com/example/cornice/cornice/thames/Effect$Kind"), accessFlags := 16409, slot := 1, constantValue := 0 }, { name := "POVERTY", type := (.object "com/example/cornice/cornice/thames/Effect$Kind"), accessFlags := 16409, slot := 2, constantValue := 0 }, { name := "RELIEF", type := (.object "com/example/cornice/cornice/thames/Effect$Kind"), accessFlags := 16409, slot := 3, constantValue := 0 }, { name := "DRAW", type := (.object "com/example/cornice/cornice/thames/Effect$Kind"), accessFlags := 16409, slot := 4, constantValue := 0 }, { name := "$VALUES", type := (.array (.object "com/example/cornice/cornice/thames/Effect$Kind")), accessFlags := 4122, slot := 5, constantValue := 0 }]
  methods := #[k6m0]
  instanceTypes := #[(.object "java/lang/String"), .int, .int]
  staticTypes := #[(.object "com/example/cornice/cornice/thames/Effect$Kind"), (.object "com/example/cornice/cornice/thames/Effect$Kind"), (.object "com/example/cornice/cornice/thames/Effect$Kind"), (.object "com/example/cornice/cornice/thames/Effect$Kind"), (.object "com/example/cornice/cornice/thames/Effect$Kind"), (.array (.object "com/example/cornice/cornice/thames/Effect$Kind"))]
  resolved := Array.replicate 67 none
  statics := some 0 }

def pool7 : Array CpInfo := pool [(1, u "java/lang/Cloneable"), (0, .class_ 1), (0, u "java/lang/Object"), (0, .class_ 3)] 3

/-- java/lang/Cloneable -/
def k7 : Class := { plain "java/lang/Cloneable" (some 0) with
  accessFlags := 1537
  interfaces := #[]
  cf := some (fileOf pool7 2 #[] #[] 1537 4 #[] #[])
  fields := #[]
  methods := #[]
  instanceTypes := #[]
  staticTypes := #[]
  resolved := Array.replicate 8 none
  statics := none }

/-- the primitive byte -/
def k8 : Class := { plain "byte" none with kind := .primitive 'B', accessFlags := 0x411 }
/-- [B -/
def k9 : Class := { plain "[B" (some 0) with kind := .array 8 .byte, interfaces := #[7, 4], accessFlags := 1041 }

/-- the primitive int -/
def k10 : Class := { plain "int" none with kind := .primitive 'I', accessFlags := 0x411 }
/-- [I -/
def k11 : Class := { plain "[I" (some 0) with kind := .array 10 .int, interfaces := #[7, 4], accessFlags := 1041 }

def heap : Heap := #[{ cls := 6, slots := #[.ref 1, .ref 2, .ref 3, .ref 4, .ref 5, .null], vm := .statics 6 },
  { cls := 6, slots := #[.null, .int 0, .int 0], vm := .none },
  { cls := 6, slots := #[.null, .int 1, .int 0], vm := .none },
  { cls := 6, slots := #[.null, .int 2, .int 0], vm := .none },
  { cls := 6, slots := #[.null, .int 3, .int 0], vm := .none },
  { cls := 6, slots := #[.null, .int 4, .int 0], vm := .none }]
def classes : Array Class := #[k0, k1, k2, k3, k4, k5, k6, k7, k8, k9, k10, k11]
def interned : List (Array UInt16 × Addr) := []
def slotsUsed : Nat := 21
def theMethod : MethodId := ⟨1, 1⟩
def args0 : Array Value := #[.int 3]
def aboutOver (below : List Frame) : State where
  vm := { classes := classes, interned := interned.toArray }
  heap := heap
  slotsUsed := slotsUsed
  threads := #[{ frames := .invoking theMethod args0 :: below }]
def below0 : List Frame := [.native { method := ⟨0, 0⟩, args := #[] }]
def about1 : State := aboutOver below0
def p0 : Program := .bare "" "" ""
def e0 : Env := launch0.env 0 0 0
theorem w_frames : about1.frames = Frame.invoking theMethod args0 :: below0 := rfl
set_option maxRecDepth 65536 in
theorem w_args : argsFit about1.vm theMethod args0 = true := by decide +kernel
set_option maxRecDepth 65536 in
theorem w_heap : heapFits about1 = true := by decide +kernel
set_option maxRecDepth 65536 in
theorem w_runnable : about1.curStatus? = some .runnable := by decide +kernel
set_option maxRecDepth 65536 in
theorem w_alone : about1.alone = true := by decide +kernel
set_option maxRecDepth 65536 in
theorem w_named : about1.methodNamed? x = some theMethod := by decide +kernel
set_option maxRecDepth 65536 in
theorem w_hears : about1.hears theMethod below0 = true := by decide +kernel
set_option maxRecDepth 65536 in
theorem w_ripe : about1.ripe theMethod args0 below0 = true := by decide +kernel
theorem w_running : about1.status = .running := rfl
set_option maxRecDepth 65536 in
theorem w_room : about1.hasRoom e0.platform room_1 = true :=
  launch0.hasRoom_least _ room_1 (by decide +kernel) (by decide +kernel) (by decide +kernel) (by decide +kernel) (by decide +kernel) (by decide +kernel)
theorem allAtoms_all (ts : List Jvm.Cond) (a : Array Jvm.Value) (st : Jvm.State) : (allAtoms ts).before a st = ts.all (fun c => c.before a st) := by
  induction ts with
  | nil => rfl
  | cons c t ih =>
    show (Jvm.Cond.and c (allAtoms t)).before a st = _
    rw [Jvm.Cond.before_and, ih, List.all_cons]
def words1 : List Jvm.Cond := Jvm.Cond.code x code maxLocals ret :: tables_1
/-- a 'code' word, met by the world's own term for the bytes: nothing is compared byte by byte -/
theorem code_word {y : MethodName} {bytes : ByteArray} {mx : Nat} {rt : Option FieldType} {a : Array Value} {s : State} {m : MethodId} {meth : Method} {c : Code} (h1 : s.methodNamed? y = some m) (h2 : s.vm.method? m = some meth) (h3 : meth.code = some c) (h4 : c.code = bytes)
    (h5 : (c.maxLocals == mx && c.exceptionTable.isEmpty && decide (c.maxStack ≤ mostOperands) && decide (meth.sig.returnType = rt) && !meth.locks && decide (parseMethodDescriptor y.desc = some meth.sig)) = true) : (Jvm.Cond.code y bytes mx rt).before a s = true := by
  simp only [Bool.and_eq_true, beq_iff_eq, Bool.not_eq_true', decide_eq_true_eq] at h5
  obtain ⟨⟨⟨⟨⟨g1, g2⟩, g3⟩, g4⟩, g5⟩, g6⟩ := h5
  simp [Cond.before, Cond.holds, Cond.value, h1, h2, h3, h4, g1, g2, g3, g4, g5, g6]
def isCode : Jvm.Cond → Bool
  | .code _ _ _ _ => true
  | _ => false
theorem all_split {L : List Jvm.Cond} {P : Jvm.Cond → Bool} (h1 : L.all (fun c => isCode c || P c) = true) (h2 : ∀ c ∈ L.filter isCode, P c = true) : L.all P = true := by
  refine List.all_eq_true.mpr fun c hc => ?_
  have h := List.all_eq_true.mp h1 c hc
  rcases Bool.eq_false_or_eq_true (isCode c) with hi | hi
  · exact h2 c (List.mem_filter.mpr ⟨hc, hi⟩)
  · simpa [hi] using h
set_option maxRecDepth 65536 in
theorem w_c0 : (Jvm.Cond.code x code maxLocals ret).before args0 about1 = true := code_word (m := ⟨1, 1⟩) (meth := k1m1) (c := k1c1) (by decide +kernel) rfl rfl rfl (by decide +kernel)
set_option maxRecDepth 65536 in
theorem w_c1 : (Jvm.Cond.code ({ cls := "com/example/cornice/cornice/thames/Effect$Kind", name := "countable", desc := "()Z" } : Jvm.MethodName) prog_39_method_4_code (1 : Nat) (Option.some Jvm.ClassFile.FieldType.boolean)).before args0 about1 = true := code_word (m := ⟨6, 0⟩) (meth := k6m0) (c := k6c0) (by decide +kernel) rfl rfl rfl (by decide +kernel)
def codes1 : List Jvm.Cond := [Jvm.Cond.code x code maxLocals ret, Jvm.Cond.code ({ cls := "com/example/cornice/cornice/thames/Effect$Kind", name := "countable", desc := "()Z" } : Jvm.MethodName) prog_39_method_4_code (1 : Nat) (Option.some Jvm.ClassFile.FieldType.boolean)]
set_option maxRecDepth 65536 in
theorem codes_eq : words1.filter isCode = codes1 := rfl
theorem w_codes : ∀ c ∈ words1.filter isCode, c.before args0 about1 = true := by
  rw [codes_eq]
  intro c hc
  simp only [codes1, List.mem_cons, List.not_mem_nil, or_false] at hc
  rcases hc with rfl | rfl
  · exact w_c0
  · exact w_c1
set_option maxRecDepth 65536 in
theorem w_t1 : words1.all (fun c => isCode c || c.before args0 about1) = true := by decide +kernel
theorem w_tables : (allAtoms (Jvm.Cond.code x code maxLocals ret :: tables_1)).before args0 about1 = true := by
  rw [allAtoms_all]
  show words1.all (fun c => c.before args0 about1) = true
  refine all_split ?_ w_codes
  rw [w_t1]
set_option maxRecDepth 65536 in
theorem w_case : (Jvm.Cond.and given_1 narrow_1).before args0 about1 = true := by decide +kernel
theorem w_applies : (headSpec (Jvm.Cond.code x code maxLocals ret :: tables_1) room_1).applies x e0.platform about1 = true :=
  (Spec.applies_iff w_frames).mpr ⟨w_running, w_runnable, w_alone, w_named, w_hears, w_ripe, w_room, w_tables⟩
theorem atStart : AtStart classFile x code maxLocals ret World_1 tables_1 room_1 Calls_1 rest_1 Pre_1 launch0 p0 e0 about1 theMethod args0 below0 :=
  ⟨lists_1, trivial, launch0.admits_env _ _ _, launch0.least_env, fairChoices_fair.cas, fairChoices_fair.clock, w_frames, w_args, w_heap, w_applies, trivial, trivial, w_case⟩
end start1
theorem witness_1 : WitnessClaimed_1 := ⟨start1.p0, start1.e0, start1.about1, start1.theMethod, start1.args0, start1.below0, start1.atStart⟩
end Jvm.Pilot.@@N@@
