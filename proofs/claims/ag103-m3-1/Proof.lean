import JvmDerived
import JvmDerived.Pilot.@@N@@Statement
import JvmDerived.Pilot.@@N@@Code
set_option linter.unusedVariables false
set_option linter.unusedSimpArgs false
namespace Jvm.Pilot.@@N@@
open Jvm Jvm.ClassFile Sem Op Lib Jvm.Free Jvm.Stand Jvm.LawKit Jvm.RoadKit Bundle Jvm.Pilot.@@N@@.Jvm.D
/-! own small kit: the goal of a walk, backward; the leaves -/
def Gl (tb : Tables) (e : Env) (below : List Frame) (QQ : Outcome → State → Prop) (st : State) : Prop := ∃ s₂ o, Steps tb e below st s₂ ∧ s₂.status = .running ∧ Ended s₂ below o ∧ QQ o s₂
theorem Gl.go {tb : Tables} {e : Env} {below : List Frame} {QQ : Outcome → State → Prop} {st st' : State} (h : ∀ t, Steps tb e below st' t → Steps tb e below st t) (g : Gl tb e below QQ st') : Gl tb e below QQ st := by
  obtain ⟨s2, o, h1, h2⟩ := g
  exact ⟨s2, o, h _ h1, h2⟩
def QQof (s : State) (Q : Option Value → Heap → List Loc → Prop) (k n : Nat) : Outcome → State → Prop := fun o U => ∃ v L, o = .returned v ∧ Q v U.heap L ∧ FrameEnd s o U L k n
section Leaf
variable {p : Program} {l : Launch} {e : Env} {R : Room} {s : State} {m : MethodId} {args : Array Value} {below : List Frame} {meth : Method} {c : Code} {T : State} {locs : List Loc} {cells slots : Nat} {pc : Nat} {Ls : Array Slot} {rest : List Value} {Q : Option Value → Heap → List Loc → Prop} {k n : Nat}
theorem leafN (X : Stand p l e R s m args below meth c T locs cells slots) (hx : p.tables.exec = Jvm.exec) (hlk : meth.locks = false) {z : Int32} {t : FieldType} (hret : meth.sig.returnType = some t) (ht : t = .boolean ∨ t = .byte ∨ t = .char ∨ t = .short) (hd : decode c.code pc = .ok (.ireturn, 1))
    (hq : Q (some (.int (nar t z))) T.heap locs) (hk : cells ≤ k) (hn : slots ≤ n) : Gl p.tables e below (QQof s Q k n) (T.setTop (mkF m pc Ls (.int z :: rest))) := by
  obtain ⟨fs, hr, hrun, hended, hW, hsame⟩ := X.leave (v := some (.int (nar t z))) (fun h => by rw [hret] at h; cases h) hlk
  exact ⟨_, _, retN X hx hret ht hd hr, hrun, hended, _, _, rfl, hq, ⟨_, rfl⟩, hW, hsame.mono hk hn⟩
theorem leafI (X : Stand p l e R s m args below meth c T locs cells slots) (hx : p.tables.exec = Jvm.exec) (hlk : meth.locks = false) {z : Int32} (hret : meth.sig.returnType = some .int) (hd : decode c.code pc = .ok (.ireturn, 1))
    (hq : Q (some (.int z)) T.heap locs) (hk : cells ≤ k) (hn : slots ≤ n) : Gl p.tables e below (QQof s Q k n) (T.setTop (mkF m pc Ls (.int z :: rest))) := by
  obtain ⟨fs, hr, hrun, hended, hW, hsame⟩ := X.leave (v := some (.int z)) (fun h => by rw [hret] at h; cases h) hlk
  exact ⟨_, _, retOut X hx hret rfl (Or.inl ⟨rfl, Or.inl rfl, _, rfl⟩) hd hr, hrun, hended, _, _, rfl, hq, ⟨_, rfl⟩, hW, hsame.mono hk hn⟩
theorem leafL (X : Stand p l e R s m args below meth c T locs cells slots) (hx : p.tables.exec = Jvm.exec) (hlk : meth.locks = false) {z : Int64} (hret : meth.sig.returnType = some .long) (hd : decode c.code pc = .ok (.lreturn, 1))
    (hq : Q (some (.long z)) T.heap locs) (hk : cells ≤ k) (hn : slots ≤ n) : Gl p.tables e below (QQof s Q k n) (T.setTop (mkF m pc Ls (.long z :: rest))) := by
  obtain ⟨fs, hr, hrun, hended, hW, hsame⟩ := X.leave (v := some (.long z)) (fun h => by rw [hret] at h; cases h) hlk
  exact ⟨_, _, retOut X hx hret rfl (Or.inr (Or.inl ⟨rfl, rfl, _, rfl⟩)) hd hr, hrun, hended, _, _, rfl, hq, ⟨_, rfl⟩, hW, hsame.mono hk hn⟩
theorem leafD (X : Stand p l e R s m args below meth c T locs cells slots) (hx : p.tables.exec = Jvm.exec) (hlk : meth.locks = false) {z : UInt64} (hret : meth.sig.returnType = some .double) (hd : decode c.code pc = .ok (.dreturn, 1))
    (hq : Q (some (.double z)) T.heap locs) (hk : cells ≤ k) (hn : slots ≤ n) : Gl p.tables e below (QQof s Q k n) (T.setTop (mkF m pc Ls (.double z :: rest))) := by
  obtain ⟨fs, hr, hrun, hended, hW, hsame⟩ := X.leave (v := some (.double z)) (fun h => by rw [hret] at h; cases h) hlk
  exact ⟨_, _, retOut X hx hret rfl (Or.inr (Or.inr (Or.inl ⟨rfl, rfl, _, rfl⟩))) hd hr, hrun, hended, _, _, rfl, hq, ⟨_, rfl⟩, hW, hsame.mono hk hn⟩
theorem narrowR {t : FieldType} {w : Value} (ht : t.isReference = true) (hw : w.isRef = true) : narrow t w = w := by
  cases w <;> simp [Value.isRef] at hw <;> cases t <;> simp [FieldType.isReference] at ht <;> rfl
theorem leafA (X : Stand p l e R s m args below meth c T locs cells slots) (hx : p.tables.exec = Jvm.exec) (hlk : meth.locks = false) {w : Value} {t : FieldType} (hret : meth.sig.returnType = some t) (ht : t.isReference = true) (hw : w.isRef = true) (hd : decode c.code pc = .ok (.areturn, 1))
    (hq : Q (some w) T.heap locs) (hk : cells ≤ k) (hn : slots ≤ n) : Gl p.tables e below (QQof s Q k n) (T.setTop (mkF m pc Ls (w :: rest))) := by
  obtain ⟨fs, hr, hrun, hended, hW, hsame⟩ := X.leave (v := some w) (fun h => by rw [hret] at h; cases h) hlk
  exact ⟨_, _, retOut X hx hret (narrowR ht hw) (Or.inr (Or.inr (Or.inr (Or.inr ⟨rfl, ht, hw⟩)))) hd hr, hrun, hended, _, _, rfl, hq, ⟨_, rfl⟩, hW, hsame.mono hk hn⟩
theorem leafV (X : Stand p l e R s m args below meth c T locs cells slots) (hx : p.tables.exec = Jvm.exec) (hlk : meth.locks = false) (hret : meth.sig.returnType = none) (hd : decode c.code pc = .ok (.return_, 1))
    (hq : Q none T.heap locs) (hk : cells ≤ k) (hn : slots ≤ n) : Gl p.tables e below (QQof s Q k n) (T.setTop (mkF m pc Ls [])) := by
  obtain ⟨fs, hr, hrun, hended, hW, hsame⟩ := X.leave (v := none) (fun _ => rfl) hlk
  exact ⟨_, _, X.returnOut hx hret hd hr, hrun, hended, _, _, rfl, hq, ⟨_, rfl⟩, hW, hsame.mono hk hn⟩
end Leaf
theorem fitsR {t : FieldType} {w : Value} (ht : t.isReference = true) (hw : w.isRef = true) : fits t w = true := by
  cases w <;> simp [Value.isRef] at hw <;> cases t <;> simp [FieldType.isReference] at ht <;> rfl
theorem nar1 : nar .boolean (1 : Int32) = 1 := by decide
theorem nar0 : nar .boolean (0 : Int32) = 0 := by decide
theorem int_at {args : Array Value} {s : State} {t : Term} {k : Int32} (h : (Jvm.Cond.eq t (.int k)).value args s none s [] = some true) : t.eval args s none [] s = some (.int k) := by
  obtain ⟨x, y, hx, hy, kx, ky⟩ := cmp_v (Or.inl h)
  have hk : y = .int k := Option.some.inj (hy.symm.trans (Term.int_eval k))
  subst hk
  obtain ⟨z, rfl⟩ := ky
  have hz := gotT (Cond.eq_ints hx (Term.int_eval k)) h
  rw [hx, hz]
theorem fld_int {args : Array Value} {s : State} {t : Term} {C n d : String} {k : Int32} {x : Addr} (ht : t.eval args s none [] s = some (.ref x)) (h : (Jvm.Cond.eq (.field t C n d) (.int k)).value args s none s [] = some true) : Fld s s.heap x C n d (.int k) := Fld.start ((fld_at ht).symm.trans (int_at h))
theorem ref_at {args : Array Value} {s : State} {a b : Term} {x : Addr} (hb : b.eval args s none [] s = some (.ref x)) (h : (Jvm.Cond.eq a b).value args s none s [] = some true) : a.eval args s none [] s = some (.ref x) := by
  obtain ⟨y, z, hy, hz, ky, kz⟩ := cmp_v (Or.inl h)
  have hk : z = .ref x := Option.some.inj (hz.symm.trans hb)
  subst hk
  have hr : y.isRef = true := kz.2
  have he := gotT (eq_R hy hb hr rfl) h
  rw [hy, he]
theorem ext_of_keep {h h' : Heap} (K : Keep h h' []) : Ext h h' := ⟨K.1, fun a c q => K.2.1 a c q nin0⟩
theorem arr_len {args : Array Value} {s : State} {t : Term} {a : Addr} {cl : Cell} {ty : FieldType} {k : Int32} (ev : t.eval args s none [] s = some (.ref a)) (A : Arr s s.heap a cl ty) (h : (Jvm.Cond.eq (.length t) (.int k)).value args s none s [] = some true) : cl.slots.size < 2 ^ 31 ∧ cl.slots.size.toInt32 = k := by
  obtain ⟨b, cell, e1, e2, e3, e4⟩ := Jvm.Lib.length_spec (int_at h)
  have hb : a = b := Value.ref.inj (Option.some.inj (ev.symm.trans e1))
  subst hb
  have hc : cl = cell := Option.some.inj ((A.fin (Vm.Alike.refl _)).symm.trans e2)
  subst hc
  exact ⟨e3, (Value.int.inj e4).symm⟩
theorem arr_elem {args : Array Value} {s : State} {t : Term} {a : Addr} {cl : Cell} {ty : FieldType} {j : Int32} {v : Value} (ev : t.eval args s none [] s = some (.ref a)) (A : Arr s s.heap a cl ty) (h : (Term.elem t (.int j)).eval args s none [] s = some v) : cl.slots[j.toNatClampNeg]? = some v := (elem_in h ev (Term.int_eval j) A.1).2

def unA (q : Int32) (rB rS rG : Addr) : Addr := if q < (18 : Int32) then (if q < (6 : Int32) then rB else rS) else rG
theorem own_and (x m : Int32) (hm : m.toBitVec.msb = false) : ¬ (x &&& m) < 0 := by
  intro h
  rw [Int32.lt_iff_toInt_lt] at h
  have hq : (x &&& m).toBitVec.msb = false := by rw [Int32.toBitVec_and, BitVec.msb_and, hm, Bool.and_false]
  rw [BitVec.msb_eq_toInt] at hq
  have h' : (x &&& m).toBitVec.toInt < 0 := h
  exact absurd h' (of_decide_eq_false hq)
theorem own_pos (a b : Int32) : ¬ (if (b &&& (1 : Int32)) = (0 : Int32) then (a &&& (31 : Int32)) else (a &&& (2147483647 : Int32))) < 0 := by
  split
  · exact own_and _ _ (by decide)
  · exact own_and _ _ (by decide)
theorem own_ne {q : Int32} {rB rS rG rT : Addr} (h1 : rB ≠ rT) (h2 : rS ≠ rT) (h3 : rG ≠ rT) : ¬ unA q rB rS rG = rT := by
  unfold unA
  split
  · split
    · exact h1
    · exact h2
  · exact h3
theorem pn_0 : plainName "com/example/cornice/cornice/skyline/Generation" = true := by first | (simp [plainName, overriddenIn]; done) | decide +kernel
theorem ef_va (m : MethodId)  : entryFrame m #[] 0 = mkF m 0 #[] [] := by first | (simp [entryFrame, mkF, argsToLocals, Value.category]; done) | rfl
theorem d2_0 : decode prog_20_method_1_code 0 = .ok (.getstatic 16, 3) := by decide +kernel
theorem d2_3 : decode prog_20_method_1_code 3 = .ok (.invokevirtual 20, 3) := by decide +kernel
theorem d2_6 : decode prog_20_method_1_code 6 = .ok (.checkcast 21, 3) := by decide +kernel
theorem d2_9 : decode prog_20_method_1_code 9 = .ok (.areturn, 1) := by decide +kernel
theorem ef_un (m : MethodId) (x0 : Int32) : entryFrame m #[(.int x0)] 6 = mkF m 0 #[.val (.int x0), .unset, .unset, .unset, .unset, .unset] [] := by first | (simp [entryFrame, mkF, argsToLocals, Value.category]; done) | rfl
theorem d1_0 : decode prog_20_method_4_code 0 = .ok (.getstatic 7, 3) := by decide +kernel
theorem d1_3 : decode prog_20_method_4_code 3 = .ok (.astore_n 1, 1) := by decide +kernel
theorem pd_0 : parseMethodDescriptor "()[Lcom/example/cornice/cornice/skyline/Generation;" = some ⟨[], some (.array (.object "com/example/cornice/cornice/skyline/Generation"))⟩ := by decide +kernel
theorem d1_4 : decode prog_20_method_4_code 4 = .ok (.invokestatic 39, 3) := by decide +kernel
theorem d1_7 : decode prog_20_method_4_code 7 = .ok (.astore_n 2, 1) := by decide +kernel
theorem d1_8 : decode prog_20_method_4_code 8 = .ok (.aload_n 2, 1) := by decide +kernel
theorem d1_9 : decode prog_20_method_4_code 9 = .ok (.arraylength, 1) := by decide +kernel
theorem d1_10 : decode prog_20_method_4_code 10 = .ok (.istore_n 3, 1) := by decide +kernel
theorem d1_11 : decode prog_20_method_4_code 11 = .ok (.iconst 0, 1) := by decide +kernel
theorem d1_12 : decode prog_20_method_4_code 12 = .ok (.istore 4, 2) := by decide +kernel
theorem d1_14 : decode prog_20_method_4_code 14 = .ok (.iload 4, 2) := by decide +kernel
theorem d1_16 : decode prog_20_method_4_code 16 = .ok (.iload_n 3, 1) := by decide +kernel
theorem d1_17 : decode prog_20_method_4_code 17 = .ok (.if_icmp .ge 35, 3) := by decide +kernel
theorem d1_20 : decode prog_20_method_4_code 20 = .ok (.aload_n 2, 1) := by decide +kernel
theorem d1_21 : decode prog_20_method_4_code 21 = .ok (.iload 4, 2) := by decide +kernel
theorem d1_23 : decode prog_20_method_4_code 23 = .ok (.aaload, 1) := by decide +kernel
theorem d1_24 : decode prog_20_method_4_code 24 = .ok (.astore 5, 2) := by decide +kernel
theorem d1_26 : decode prog_20_method_4_code 26 = .ok (.aload 5, 2) := by decide +kernel
theorem d1_28 : decode prog_20_method_4_code 28 = .ok (.getstatic 3, 3) := by decide +kernel
theorem d1_31 : decode prog_20_method_4_code 31 = .ok (.if_acmp .eq 15, 3) := by decide +kernel
theorem d1_46 : decode prog_20_method_4_code 46 = .ok (.iinc 4 1, 3) := by decide +kernel
theorem d1_49 : decode prog_20_method_4_code 49 = .ok (.goto (-35), 3) := by decide +kernel
theorem d1_34 : decode prog_20_method_4_code 34 = .ok (.iload_n 0, 1) := by decide +kernel
theorem d1_35 : decode prog_20_method_4_code 35 = .ok (.aload 5, 2) := by decide +kernel
theorem d1_37 : decode prog_20_method_4_code 37 = .ok (.getfield 35, 3) := by decide +kernel
theorem d1_40 : decode prog_20_method_4_code 40 = .ok (.if_icmp .lt 6, 3) := by decide +kernel
theorem d1_43 : decode prog_20_method_4_code 43 = .ok (.aload 5, 2) := by decide +kernel
theorem d1_45 : decode prog_20_method_4_code 45 = .ok (.astore_n 1, 1) := by decide +kernel
theorem d1_52 : decode prog_20_method_4_code 52 = .ok (.aload_n 1, 1) := by decide +kernel
theorem d1_53 : decode prog_20_method_4_code 53 = .ok (.areturn, 1) := by decide +kernel
theorem pn_1 : plainName "com/example/cornice/cornice/skyline/GenerationUnlockedPinLaw" = true := by first | (simp [plainName, overriddenIn]; done) | decide +kernel
theorem ef_ex (m : MethodId) (x0 : Int32) : entryFrame m #[(.int x0)] 1 = mkF m 0 #[.val (.int x0)] [] := by first | (simp [entryFrame, mkF, argsToLocals, Value.category]; done) | rfl
theorem d3_0 : decode method_2_code 0 = .ok (.iload_n 0, 1) := by decide +kernel
theorem d3_1 : decode method_2_code 1 = .ok (.bipush 18, 2) := by decide +kernel
theorem d3_3 : decode method_2_code 3 = .ok (.if_icmp .lt 7, 3) := by decide +kernel
theorem d3_10 : decode method_2_code 10 = .ok (.iload_n 0, 1) := by decide +kernel
theorem d3_11 : decode method_2_code 11 = .ok (.bipush 6, 2) := by decide +kernel
theorem d3_13 : decode method_2_code 13 = .ok (.if_icmp .lt 7, 3) := by decide +kernel
theorem d3_20 : decode method_2_code 20 = .ok (.getstatic 16, 3) := by decide +kernel
theorem d3_23 : decode method_2_code 23 = .ok (.areturn, 1) := by decide +kernel
theorem d3_16 : decode method_2_code 16 = .ok (.getstatic 13, 3) := by decide +kernel
theorem d3_19 : decode method_2_code 19 = .ok (.areturn, 1) := by decide +kernel
theorem d3_6 : decode method_2_code 6 = .ok (.getstatic 7, 3) := by decide +kernel
theorem d3_9 : decode method_2_code 9 = .ok (.areturn, 1) := by decide +kernel
theorem ef_law (m : MethodId) (x0 : Int32) (x1 : Int32) : entryFrame m #[(.int x0), (.int x1)] maxLocals = mkF m 0 #[.val (.int x0), .val (.int x1), .unset, .unset] [] := by first | (simp [entryFrame, mkF, argsToLocals, Value.category, maxLocals]; done) | rfl
theorem pd_1 : parseMethodDescriptor "(I)Lcom/example/cornice/cornice/skyline/Generation;" = some ⟨[.int], some (.object "com/example/cornice/cornice/skyline/Generation")⟩ := by decide +kernel
def Q_va (Z : State) (av : Addr) (kA : ClassId) (vs : List Value) (h0 : Heap) (n0 : Nat) (v : Option Value) (h : Heap) (L : List Loc) : Prop := ∃ b, v = some (.ref b) ∧ Fr n0 L ∧ Keep h0 h [] ∧ h0.size ≤ b ∧ Arv Z h b kA (.object "com/example/cornice/cornice/skyline/Generation") (4 : Int32) vs .null
set_option maxRecDepth 65536 in
set_option maxHeartbeats 40000000 in
theorem rm_va (l : Launch) (Z : State) (a0 : Array Value) (hw : ∀ d ∈ tables_1, d.before a0 Z = true) (ws : List Jvm.Cond) (av : Addr) (kA : ClassId) (vs : List Value) (h0 : Heap) (n0 : Nat) (Z0 : n0 ≤ h0.size) (SV : Sta Z h0 "com/example/cornice/cornice/skyline/Generation" "$VALUES" "[Lcom/example/cornice/cornice/skyline/Generation;" (.ref av)) (V0 : Arv Z h0 av kA (.object "com/example/cornice/cornice/skyline/Generation") (4 : Int32) vs .null) (EV : Exa Z h0 av "[Lcom/example/cornice/cornice/skyline/Generation;") :
    MetFree l (⟨"com/example/cornice/cornice/skyline/Generation", "values", "()[Lcom/example/cornice/cornice/skyline/Generation;"⟩ : MethodName) (head1 (Jvm.Cond.code (⟨"com/example/cornice/cornice/skyline/Generation", "values", "()[Lcom/example/cornice/cornice/skyline/Generation;"⟩ : MethodName) prog_20_method_1_code 0 (some (.array (.object "com/example/cornice/cornice/skyline/Generation"))) :: ws) ({ frames := 1, cells := 1, slots := 4, locals := 14 } : Room)) (fun aa U => aa = #[] ∧ Z.Warmed39 U.vm ∧ U.heap = h0) (fun _ _ _ _ _ => True) (fun _ U o U' => ∃ v L, o = .returned v ∧ Q_va Z av kA vs h0 n0 v U'.heap L ∧ FrameEnd U o U' L ({ frames := 1, cells := 1, slots := 4, locals := 14 } : Room).cells ({ frames := 1, cells := 1, slots := 4, locals := 14 } : Room).slots) := by
  refine MetFree.of_bodySF (plainFor_of_name pn_0) hisR ?_
  intro p e s m args below meth c s₁ Bd hml0 hP hK
  obtain ⟨rfl, hZ, hh⟩ := hP
  have hx := Bd.exec
  have hby := Bd.bytes
  have hml : c.maxLocals = 0 := hml0
  have hown : s.vm.findClass "com/example/cornice/cornice/skyline/Generation" = some m.cls := findClass_of_methodNamed Bd.named
  have hnm := (name_of_methodNamed Bd.named Bd.method).1
  have hlk : meth.locks = false := BodyLoose.notSynchronized Bd
  have X0 : Stand p l e ({ frames := 1, cells := 1, slots := 4, locals := 14 } : Room) s m #[] below meth c s₁ [] 0 0 := Stand.of_body Bd
  have e0 : s₁.heap = h0 := by rw [← hh, Bd.state]; rfl
  have N0 := Fr.nil n0
  have K0 : Keep h0 h0 [] := Keep.refl _ _
  show Gl p.tables e below (QQof s (Q_va Z av kA vs h0 n0) 1 4) (s₁.setTop (entryFrame m #[] 0))
  refine Gl.go (fun t k => castTop (ef_va m ) k) ?_
  show Gl p.tables e below (QQof s (Q_va Z av kA vs h0 n0) 1 4) (s₁.setTop (mkF m 0 #[] []))
  obtain ⟨T1, X1, e1, st1⟩ := getS2 X0 hx hZ hown (host := "") (Or.inl (hw _ (List.mem_of_getElem? (i := 10) rfl))) Via.refl e0 SV (g := (mkF m 0 #[] [])) rfl (hb hby d2_0)
  refine Gl.go (fun _ k => st1 _ k) ?_
  show Gl p.tables e below (QQof s (Q_va Z av kA vs h0 n0) 1 4) (T1.setTop (mkF m 3 #[] [(.ref av)]))
  obtain ⟨T2, h2, X2, e2, E2, A2, Y2, st2⟩ := cloneH X1 hx hZ hown (hw _ (List.mem_of_getElem? (i := 12) rfl)) (hw _ (List.mem_of_getElem? (i := 13) rfl)) (hw _ (List.mem_of_getElem? (i := 17) rfl)) (hw _ (List.mem_of_getElem? (i := 15) rfl)) (hw _ (List.mem_of_getElem? (i := 16) rfl)) (hw _ (List.mem_of_getElem? (i := 18) rfl)) e1 (Arv.arh V0) EV (g := (mkF m 3 #[] [(.ref av)])) rfl (by rw [hml]; rfl) rfl (hb hby d2_3) (by decide) (W := 0) (cap := 4) (by show 2 * 0 + _ ≤ _; exact Nat.le_of_eq rfl) (by decide) (by decide) (by decide) (by decide)
  obtain ⟨b2, g2⟩ : ∃ z, z = h0.size := ⟨_, rfl⟩
  rw [← g2] at A2 Y2 st2
  have g_b2 : n0 ≤ b2 := Nat.le_trans Z0 (Nat.le_of_eq g2.symm)
  have sz_b2 : h0.size ≤ b2 := Nat.le_trans K0.1 (Nat.le_of_eq g2.symm)
  have ne_av_b2 : av ≠ b2 := Nat.ne_of_lt (Nat.lt_of_lt_of_le V0.lt (Nat.le_of_eq g2.symm))
  have V_av_2 : Arv Z h2 av kA (.object "com/example/cornice/cornice/skyline/Generation") (4 : Int32) vs .null := V0.ext E2
  have E_av_2 : Exa Z h2 av "[Lcom/example/cornice/cornice/skyline/Generation;" := EV.ext E2
  have SZ2 : n0 ≤ h2.size := Nat.le_trans Z0 E2.1
  have K2 : Keep h0 h2 [] := K0.ext E2
  have V_b2_2 : Arv Z h2 b2 kA (.object "com/example/cornice/cornice/skyline/Generation") (4 : Int32) vs .null := A2
  refine Gl.go (fun _ k => st2 _ k) ?_
  show Gl p.tables e below (QQof s (Q_va Z av kA vs h0 n0) 1 4) (T2.setTop (mkF m 6 #[] [(.ref b2)]))
  obtain ⟨T3, X3, e3, st3⟩ := castY X2 hx hZ hown (hw _ (List.mem_of_getElem? (i := 23) rfl)) e2 (Ins.self Y2) (g := (mkF m 6 #[] [(.ref b2)])) rfl rfl (hb hby d2_6)
  refine Gl.go (fun _ k => st3 _ k) ?_
  show Gl p.tables e below (QQof s (Q_va Z av kA vs h0 n0) 1 4) (T3.setTop (mkF m 9 #[] [(.ref b2)]))
  refine leafA X3 hx hlk Bd.returns rfl rfl (hb hby d2_9) ?_ (by decide) (by decide)
  rw [e3]
  exact ⟨b2, rfl, N0, K2, sz_b2, V_b2_2⟩
def Q_un (Z : State) (q1 : Int32) (rT rB rS rG av : Addr) (kA : ClassId) (h0 : Heap) (n0 : Nat) (v : Option Value) (h : Heap) (L : List Loc) : Prop := v = some (.ref (unA q1 rB rS rG)) ∧ Fr n0 L ∧ Keep h0 h []
set_option maxRecDepth 65536 in
set_option maxHeartbeats 40000000 in
theorem rm_un (l : Launch) (Z : State) (a0 : Array Value) (hw : ∀ d ∈ tables_1, d.before a0 Z = true) (ws : List Jvm.Cond) (q1 : Int32) (rT rB rS rG av : Addr) (kA : ClassId) (h0 : Heap) (n0 : Nat) (Z0 : n0 ≤ h0.size) (hp : ¬ q1 < 0) (ST : Sta Z h0 "com/example/cornice/cornice/skyline/Generation" "START" "Lcom/example/cornice/cornice/skyline/Generation;" (.ref rT)) (SB : Sta Z h0 "com/example/cornice/cornice/skyline/Generation" "BRONZE" "Lcom/example/cornice/cornice/skyline/Generation;" (.ref rB)) (SV : Sta Z h0 "com/example/cornice/cornice/skyline/Generation" "$VALUES" "[Lcom/example/cornice/cornice/skyline/Generation;" (.ref av)) (V0 : Arv Z h0 av kA (.object "com/example/cornice/cornice/skyline/Generation") (4 : Int32) [(.ref rT), (.ref rB), (.ref rS), (.ref rG)] .null) (EV : Exa Z h0 av "[Lcom/example/cornice/cornice/skyline/Generation;") (FB : Fld Z h0 rB "com/example/cornice/cornice/skyline/Generation" "unlockedAt" "I" (.int (0 : Int32))) (FS : Fld Z h0 rS "com/example/cornice/cornice/skyline/Generation" "unlockedAt" "I" (.int (6 : Int32))) (FG : Fld Z h0 rG "com/example/cornice/cornice/skyline/Generation" "unlockedAt" "I" (.int (18 : Int32))) (nB : rB ≠ rT) (nS : rS ≠ rT) (nG : rG ≠ rT) :
    MetFree l (⟨"com/example/cornice/cornice/skyline/Generation", "unlocked", "(I)Lcom/example/cornice/cornice/skyline/Generation;"⟩ : MethodName) (head1 (Jvm.Cond.code (⟨"com/example/cornice/cornice/skyline/Generation", "unlocked", "(I)Lcom/example/cornice/cornice/skyline/Generation;"⟩ : MethodName) prog_20_method_4_code 6 (some (.object "com/example/cornice/cornice/skyline/Generation")) :: ws) ({ frames := 2, cells := 1, slots := 4, locals := 25 } : Room)) (fun aa U => aa = #[(.int q1)] ∧ Z.Warmed39 U.vm ∧ U.heap = h0) (fun _ _ _ _ _ => True) (fun _ U o U' => ∃ v L, o = .returned v ∧ Q_un Z q1 rT rB rS rG av kA h0 n0 v U'.heap L ∧ FrameEnd U o U' L ({ frames := 2, cells := 1, slots := 4, locals := 25 } : Room).cells ({ frames := 2, cells := 1, slots := 4, locals := 25 } : Room).slots) := by
  refine MetFree.of_bodySF (plainFor_of_name pn_0) hisR ?_
  intro p e s m args below meth c s₁ Bd hml0 hP hK
  obtain ⟨rfl, hZ, hh⟩ := hP
  have hx := Bd.exec
  have hby := Bd.bytes
  have hml : c.maxLocals = 6 := hml0
  have hown : s.vm.findClass "com/example/cornice/cornice/skyline/Generation" = some m.cls := findClass_of_methodNamed Bd.named
  have hnm := (name_of_methodNamed Bd.named Bd.method).1
  have hlk : meth.locks = false := BodyLoose.notSynchronized Bd
  have X0 : Stand p l e ({ frames := 2, cells := 1, slots := 4, locals := 25 } : Room) s m #[(.int q1)] below meth c s₁ [] 0 0 := Stand.of_body Bd
  have e0 : s₁.heap = h0 := by rw [← hh, Bd.state]; rfl
  have N0 := Fr.nil n0
  have K0 : Keep h0 h0 [] := Keep.refl _ _
  show Gl p.tables e below (QQof s (Q_un Z q1 rT rB rS rG av kA h0 n0) 1 4) (s₁.setTop (entryFrame m #[(.int q1)] 6))
  refine Gl.go (fun t k => castTop (ef_un m q1) k) ?_
  show Gl p.tables e below (QQof s (Q_un Z q1 rT rB rS rG av kA h0 n0) 1 4) (s₁.setTop (mkF m 0 #[.val (.int q1), .unset, .unset, .unset, .unset, .unset] []))
  obtain ⟨T1, X1, e1, st1⟩ := getS2 X0 hx hZ hown (host := "") (Or.inl (hw _ (List.mem_of_getElem? (i := 5) rfl))) Via.refl e0 SB (g := (mkF m 0 #[.val (.int q1), .unset, .unset, .unset, .unset, .unset] [])) rfl (hb hby d1_0)
  refine Gl.go (fun _ k => st1 _ k) ?_
  show Gl p.tables e below (QQof s (Q_un Z q1 rT rB rS rG av kA h0 n0) 1 4) (T1.setTop (mkF m 3 #[.val (.int q1), .unset, .unset, .unset, .unset, .unset] [(.ref rB)]))
  refine Gl.go (fun _ k => XS.astoreN X1.here hx rfl (hb hby d1_3) rfl rfl (l' := #[.val (.int q1), .val (.ref rB), .unset, .unset, .unset, .unset]) rfl k) ?_
  show Gl p.tables e below (QQof s (Q_un Z q1 rT rB rS rG av kA h0 n0) 1 4) (T1.setTop (mkF m 4 #[.val (.int q1), .val (.ref rB), .unset, .unset, .unset, .unset] []))
  obtain ⟨_, _, ⟨T2, L2, k2, n2⟩, -, X2, ⟨Lc2, hQ2, l2, y2, z2⟩, st2⟩ := Jvm.LawKit.callS X1 hx (y := (⟨"com/example/cornice/cornice/skyline/Generation", "values", "()[Lcom/example/cornice/cornice/skyline/Generation;"⟩ : MethodName)) hown (mvT hZ (hw _ (List.mem_of_getElem? (i := 7) rfl))) (mvT hZ (hw _ (List.mem_of_getElem? (i := 8) rfl))) (mvT hZ (hw _ (List.mem_of_getElem? (i := 3) rfl))) (mvT hZ (hw _ (List.mem_of_getElem? (i := 9) rfl))) (by decide) (backOf (W := 0) (rm_va l Z a0 hw [] av kA [(.ref rT), (.ref rB), (.ref rS), (.ref rG)] h0 n0 Z0 SV V0 EV) hZ (hw _ (List.mem_of_getElem? (i := 9) rfl)) (hw _ (List.mem_of_getElem? (i := 3) rfl)) (by decide) (by decide)) (g := (mkF m 4 #[.val (.int q1), .val (.ref rB), .unset, .unset, .unset, .unset] [])) rfl (by rw [hml]; rfl) (argsL := []) (rest := []) (lenOf pd_0 rfl) rfl (by show 2 * 0 + _ ≤ _; exact Nat.le_of_eq rfl) (hb hby d1_4) (fun _ _ => ⟨rfl, e1, (by decide : 0 + 1 ≤ _), (by decide : 0 + 4 ≤ _)⟩)
  dsimp only [Pt.U, Pt.locs, Pt.cells, Pt.slots] at X2 l2 y2 z2 st2 hQ2
  subst l2 y2 z2
  obtain ⟨b2, rfl, Nq2, Kc2, gz2, Vc2⟩ := hQ2
  have N2 := Fr.app N0 Nq2
  refine Gl.go (fun _ k => st2 _ k) ?_
  have Ex2 := ext_of_keep Kc2
  have S_Generation_START_2 : Sta Z T2.heap "com/example/cornice/cornice/skyline/Generation" "START" "Lcom/example/cornice/cornice/skyline/Generation;" (.ref rT) := ST.ext Ex2
  have F_rB_unlockedAt_2 : Fld Z T2.heap rB "com/example/cornice/cornice/skyline/Generation" "unlockedAt" "I" (.int (0 : Int32)) := FB.ext Ex2
  have F_rS_unlockedAt_2 : Fld Z T2.heap rS "com/example/cornice/cornice/skyline/Generation" "unlockedAt" "I" (.int (6 : Int32)) := FS.ext Ex2
  have F_rG_unlockedAt_2 : Fld Z T2.heap rG "com/example/cornice/cornice/skyline/Generation" "unlockedAt" "I" (.int (18 : Int32)) := FG.ext Ex2
  have SZ2 : n0 ≤ T2.heap.size := Nat.le_trans Z0 Ex2.1
  have K2 : Keep h0 T2.heap [] := K0.ext Ex2
  show Gl p.tables e below (QQof s (Q_un Z q1 rT rB rS rG av kA h0 n0) 1 4) (T2.setTop (mkF m 7 #[.val (.int q1), .val (.ref rB), .unset, .unset, .unset, .unset] [(.ref b2)]))
  refine Gl.go (fun _ k => XS.astoreN X2.here hx rfl (hb hby d1_7) rfl rfl (l' := #[.val (.int q1), .val (.ref rB), .val (.ref b2), .unset, .unset, .unset]) rfl k) ?_
  show Gl p.tables e below (QQof s (Q_un Z q1 rT rB rS rG av kA h0 n0) 1 4) (T2.setTop (mkF m 8 #[.val (.int q1), .val (.ref rB), .val (.ref b2), .unset, .unset, .unset] []))
  refine Gl.go (fun _ k => XS.aloadN X2.here hx rfl (hb hby d1_8) rfl rfl  k) ?_
  show Gl p.tables e below (QQof s (Q_un Z q1 rT rB rS rG av kA h0 n0) 1 4) (T2.setTop (mkF m 9 #[.val (.int q1), .val (.ref rB), .val (.ref b2), .unset, .unset, .unset] [(.ref b2)]))
  obtain ⟨cl3, Ar3, qA3, SA3, NA3, HA3, GA3⟩ := id Vc2
  refine Gl.go (fun _ k => X2.arraylength hx Ar3.1 (State.isArrayOf_alike hZ.alike Ar3.2.1) (g := (mkF m 9 #[.val (.int q1), .val (.ref rB), .val (.ref b2), .unset, .unset, .unset] [(.ref b2)])) rfl rfl (hb hby d1_9) _ k) ?_
  rw [len_of SA3 NA3]
  show Gl p.tables e below (QQof s (Q_un Z q1 rT rB rS rG av kA h0 n0) 1 4) (T2.setTop (mkF m 10 #[.val (.int q1), .val (.ref rB), .val (.ref b2), .unset, .unset, .unset] [(.int (4 : Int32))]))
  refine Gl.go (fun _ k => XS.istoreN X2.here hx rfl (hb hby d1_10) rfl (l' := #[.val (.int q1), .val (.ref rB), .val (.ref b2), .val (.int (4 : Int32)), .unset, .unset]) rfl k) ?_
  show Gl p.tables e below (QQof s (Q_un Z q1 rT rB rS rG av kA h0 n0) 1 4) (T2.setTop (mkF m 11 #[.val (.int q1), .val (.ref rB), .val (.ref b2), .val (.int (4 : Int32)), .unset, .unset] []))
  refine Gl.go (fun _ k => XS.iconst X2.here hx rfl (hb hby d1_11) k) ?_
  show Gl p.tables e below (QQof s (Q_un Z q1 rT rB rS rG av kA h0 n0) 1 4) (T2.setTop (mkF m 12 #[.val (.int q1), .val (.ref rB), .val (.ref b2), .val (.int (4 : Int32)), .unset, .unset] [(.int (0 : Int32))]))
  refine Gl.go (fun _ k => XS.istore X2.here hx rfl (hb hby d1_12) rfl (l' := #[.val (.int q1), .val (.ref rB), .val (.ref b2), .val (.int (4 : Int32)), .val (.int (0 : Int32)), .unset]) rfl k) ?_
  show Gl p.tables e below (QQof s (Q_un Z q1 rT rB rS rG av kA h0 n0) 1 4) (T2.setTop (mkF m 14 #[.val (.int q1), .val (.ref rB), .val (.ref b2), .val (.int (4 : Int32)), .val (.int (0 : Int32)), .unset] []))
  refine Gl.go (fun _ k => XS.iload X2.here hx rfl (hb hby d1_14) rfl  k) ?_
  show Gl p.tables e below (QQof s (Q_un Z q1 rT rB rS rG av kA h0 n0) 1 4) (T2.setTop (mkF m 16 #[.val (.int q1), .val (.ref rB), .val (.ref b2), .val (.int (4 : Int32)), .val (.int (0 : Int32)), .unset] [(.int (0 : Int32))]))
  refine Gl.go (fun _ k => XS.iloadN X2.here hx rfl (hb hby d1_16) rfl  k) ?_
  show Gl p.tables e below (QQof s (Q_un Z q1 rT rB rS rG av kA h0 n0) 1 4) (T2.setTop (mkF m 17 #[.val (.int q1), .val (.ref rB), .val (.ref b2), .val (.int (4 : Int32)), .val (.int (0 : Int32)), .unset] [(.int (4 : Int32)), (.int (0 : Int32))]))
  refine Gl.go (fun _ k => XS.icmpNo X2.here hx rfl (hb hby d1_17) rfl (tlt (by decide)).2.1 k) ?_
  show Gl p.tables e below (QQof s (Q_un Z q1 rT rB rS rG av kA h0 n0) 1 4) (T2.setTop (mkF m 20 #[.val (.int q1), .val (.ref rB), .val (.ref b2), .val (.int (4 : Int32)), .val (.int (0 : Int32)), .unset] []))
  refine Gl.go (fun _ k => XS.aloadN X2.here hx rfl (hb hby d1_20) rfl rfl  k) ?_
  show Gl p.tables e below (QQof s (Q_un Z q1 rT rB rS rG av kA h0 n0) 1 4) (T2.setTop (mkF m 21 #[.val (.int q1), .val (.ref rB), .val (.ref b2), .val (.int (4 : Int32)), .val (.int (0 : Int32)), .unset] [(.ref b2)]))
  refine Gl.go (fun _ k => XS.iload X2.here hx rfl (hb hby d1_21) rfl  k) ?_
  show Gl p.tables e below (QQof s (Q_un Z q1 rT rB rS rG av kA h0 n0) 1 4) (T2.setTop (mkF m 23 #[.val (.int q1), .val (.ref rB), .val (.ref b2), .val (.int (4 : Int32)), .val (.int (0 : Int32)), .unset] [(.int (0 : Int32)), (.ref b2)]))
  obtain ⟨cl4, Ar4, qA4, SA4, NA4, HA4, GA4⟩ := id Vc2
  have hin4 := inb_of (j := (0 : Int32)) SA4 ⟨by decide, by decide⟩
  have hat4 : cl4.slots[((0 : Int32)).toNatClampNeg]? = some (.ref rT) := HA4.at hin4 rfl
  refine Gl.go (fun _ k => X2.aaload hx (j := (0 : Int32)) (v := (.ref rT)) Ar4.1 (State.isArrayOf_alike hZ.alike Ar4.2.1) rfl Ar4.2.2 hin4 hat4 (g := (mkF m 23 #[.val (.int q1), .val (.ref rB), .val (.ref b2), .val (.int (4 : Int32)), .val (.int (0 : Int32)), .unset] [(.int (0 : Int32)), (.ref b2)])) rfl rfl (hb hby d1_23) _ k) ?_
  show Gl p.tables e below (QQof s (Q_un Z q1 rT rB rS rG av kA h0 n0) 1 4) (T2.setTop (mkF m 24 #[.val (.int q1), .val (.ref rB), .val (.ref b2), .val (.int (4 : Int32)), .val (.int (0 : Int32)), .unset] [(.ref rT)]))
  refine Gl.go (fun _ k => XS.astore X2.here hx rfl (hb hby d1_24) rfl rfl (l' := #[.val (.int q1), .val (.ref rB), .val (.ref b2), .val (.int (4 : Int32)), .val (.int (0 : Int32)), .val (.ref rT)]) rfl k) ?_
  show Gl p.tables e below (QQof s (Q_un Z q1 rT rB rS rG av kA h0 n0) 1 4) (T2.setTop (mkF m 26 #[.val (.int q1), .val (.ref rB), .val (.ref b2), .val (.int (4 : Int32)), .val (.int (0 : Int32)), .val (.ref rT)] []))
  refine Gl.go (fun _ k => XS.aload X2.here hx rfl (hb hby d1_26) rfl rfl  k) ?_
  show Gl p.tables e below (QQof s (Q_un Z q1 rT rB rS rG av kA h0 n0) 1 4) (T2.setTop (mkF m 28 #[.val (.int q1), .val (.ref rB), .val (.ref b2), .val (.int (4 : Int32)), .val (.int (0 : Int32)), .val (.ref rT)] [(.ref rT)]))
  obtain ⟨T5, X5, e5, st5⟩ := getS2 X2 hx hZ hown (host := "") (Or.inl (hw _ (List.mem_of_getElem? (i := 25) rfl))) Via.refl rfl S_Generation_START_2 (g := (mkF m 28 #[.val (.int q1), .val (.ref rB), .val (.ref b2), .val (.int (4 : Int32)), .val (.int (0 : Int32)), .val (.ref rT)] [(.ref rT)])) rfl (hb hby d1_28)
  refine Gl.go (fun _ k => st5 _ k) ?_
  show Gl p.tables e below (QQof s (Q_un Z q1 rT rB rS rG av kA h0 n0) 1 4) (T5.setTop (mkF m 31 #[.val (.int q1), .val (.ref rB), .val (.ref b2), .val (.int (4 : Int32)), .val (.int (0 : Int32)), .val (.ref rT)] [(.ref rT), (.ref rT)]))
  refine Gl.go (fun _ k => Jvm.RoadKit.acmp (g := (mkF m 31 #[.val (.int q1), .val (.ref rB), .val (.ref b2), .val (.int (4 : Int32)), .val (.int (0 : Int32)), .val (.ref rT)] [(.ref rT), (.ref rT)])) X5 hx rfl rfl rfl (pc0 := 31) (pc' := 46) (same := true) rfl (hb hby d1_31) rfl (decide_eq_true (congrArg Value.ref (rfl : rT = rT))) (by decide) (by decide) k) ?_
  show Gl p.tables e below (QQof s (Q_un Z q1 rT rB rS rG av kA h0 n0) 1 4) (T5.setTop (mkF m 46 #[.val (.int q1), .val (.ref rB), .val (.ref b2), .val (.int (4 : Int32)), .val (.int (0 : Int32)), .val (.ref rT)] []))
  refine Gl.go (fun _ k => XS.iinc X5.here hx rfl (hb hby d1_46) rfl (l' := #[.val (.int q1), .val (.ref rB), .val (.ref b2), .val (.int (4 : Int32)), .val (.int ((0 : Int32) + (1 : Int32))), .val (.ref rT)]) rfl k) ?_
  show Gl p.tables e below (QQof s (Q_un Z q1 rT rB rS rG av kA h0 n0) 1 4) (T5.setTop (mkF m 49 #[.val (.int q1), .val (.ref rB), .val (.ref b2), .val (.int (4 : Int32)), .val (.int ((0 : Int32) + (1 : Int32))), .val (.ref rT)] []))
  refine Gl.go (fun _ k => XS.goto X5.here hx rfl (pc0 := 49) (pc' := 14) rfl (hb hby d1_49) (by decide) (by decide) k) ?_
  show Gl p.tables e below (QQof s (Q_un Z q1 rT rB rS rG av kA h0 n0) 1 4) (T5.setTop (mkF m 14 #[.val (.int q1), .val (.ref rB), .val (.ref b2), .val (.int (4 : Int32)), .val (.int ((0 : Int32) + (1 : Int32))), .val (.ref rT)] []))
  refine Gl.go (fun _ k => XS.iload X5.here hx rfl (hb hby d1_14) rfl  k) ?_
  show Gl p.tables e below (QQof s (Q_un Z q1 rT rB rS rG av kA h0 n0) 1 4) (T5.setTop (mkF m 16 #[.val (.int q1), .val (.ref rB), .val (.ref b2), .val (.int (4 : Int32)), .val (.int ((0 : Int32) + (1 : Int32))), .val (.ref rT)] [(.int ((0 : Int32) + (1 : Int32)))]))
  refine Gl.go (fun _ k => XS.iloadN X5.here hx rfl (hb hby d1_16) rfl  k) ?_
  show Gl p.tables e below (QQof s (Q_un Z q1 rT rB rS rG av kA h0 n0) 1 4) (T5.setTop (mkF m 17 #[.val (.int q1), .val (.ref rB), .val (.ref b2), .val (.int (4 : Int32)), .val (.int ((0 : Int32) + (1 : Int32))), .val (.ref rT)] [(.int (4 : Int32)), (.int ((0 : Int32) + (1 : Int32)))]))
  rw [(by decide : ((0 : Int32) + (1 : Int32)) = (1 : Int32))]
  show Gl p.tables e below (QQof s (Q_un Z q1 rT rB rS rG av kA h0 n0) 1 4) (T5.setTop (mkF m 17 #[.val (.int q1), .val (.ref rB), .val (.ref b2), .val (.int (4 : Int32)), .val (.int (1 : Int32)), .val (.ref rT)] [(.int (4 : Int32)), (.int (1 : Int32))]))
  refine Gl.go (fun _ k => XS.icmpNo X5.here hx rfl (hb hby d1_17) rfl (tlt (by decide)).2.1 k) ?_
  show Gl p.tables e below (QQof s (Q_un Z q1 rT rB rS rG av kA h0 n0) 1 4) (T5.setTop (mkF m 20 #[.val (.int q1), .val (.ref rB), .val (.ref b2), .val (.int (4 : Int32)), .val (.int (1 : Int32)), .val (.ref rT)] []))
  refine Gl.go (fun _ k => XS.aloadN X5.here hx rfl (hb hby d1_20) rfl rfl  k) ?_
  show Gl p.tables e below (QQof s (Q_un Z q1 rT rB rS rG av kA h0 n0) 1 4) (T5.setTop (mkF m 21 #[.val (.int q1), .val (.ref rB), .val (.ref b2), .val (.int (4 : Int32)), .val (.int (1 : Int32)), .val (.ref rT)] [(.ref b2)]))
  refine Gl.go (fun _ k => XS.iload X5.here hx rfl (hb hby d1_21) rfl  k) ?_
  show Gl p.tables e below (QQof s (Q_un Z q1 rT rB rS rG av kA h0 n0) 1 4) (T5.setTop (mkF m 23 #[.val (.int q1), .val (.ref rB), .val (.ref b2), .val (.int (4 : Int32)), .val (.int (1 : Int32)), .val (.ref rT)] [(.int (1 : Int32)), (.ref b2)]))
  obtain ⟨cl6, Ar6, qA6, SA6, NA6, HA6, GA6⟩ := id Vc2
  have hin6 := inb_of (j := (1 : Int32)) SA6 ⟨by decide, by decide⟩
  have hat6 : cl6.slots[((1 : Int32)).toNatClampNeg]? = some (.ref rB) := HA6.at hin6 rfl
  refine Gl.go (fun _ k => X5.aaload hx (j := (1 : Int32)) (v := (.ref rB)) (by rw [e5]; exact Ar6.1) (State.isArrayOf_alike hZ.alike Ar6.2.1) rfl Ar6.2.2 hin6 hat6 (g := (mkF m 23 #[.val (.int q1), .val (.ref rB), .val (.ref b2), .val (.int (4 : Int32)), .val (.int (1 : Int32)), .val (.ref rT)] [(.int (1 : Int32)), (.ref b2)])) rfl rfl (hb hby d1_23) _ k) ?_
  show Gl p.tables e below (QQof s (Q_un Z q1 rT rB rS rG av kA h0 n0) 1 4) (T5.setTop (mkF m 24 #[.val (.int q1), .val (.ref rB), .val (.ref b2), .val (.int (4 : Int32)), .val (.int (1 : Int32)), .val (.ref rT)] [(.ref rB)]))
  refine Gl.go (fun _ k => XS.astore X5.here hx rfl (hb hby d1_24) rfl rfl (l' := #[.val (.int q1), .val (.ref rB), .val (.ref b2), .val (.int (4 : Int32)), .val (.int (1 : Int32)), .val (.ref rB)]) rfl k) ?_
  show Gl p.tables e below (QQof s (Q_un Z q1 rT rB rS rG av kA h0 n0) 1 4) (T5.setTop (mkF m 26 #[.val (.int q1), .val (.ref rB), .val (.ref b2), .val (.int (4 : Int32)), .val (.int (1 : Int32)), .val (.ref rB)] []))
  refine Gl.go (fun _ k => XS.aload X5.here hx rfl (hb hby d1_26) rfl rfl  k) ?_
  show Gl p.tables e below (QQof s (Q_un Z q1 rT rB rS rG av kA h0 n0) 1 4) (T5.setTop (mkF m 28 #[.val (.int q1), .val (.ref rB), .val (.ref b2), .val (.int (4 : Int32)), .val (.int (1 : Int32)), .val (.ref rB)] [(.ref rB)]))
  obtain ⟨T7, X7, e7, st7⟩ := getS2 X5 hx hZ hown (host := "") (Or.inl (hw _ (List.mem_of_getElem? (i := 25) rfl))) Via.refl e5 S_Generation_START_2 (g := (mkF m 28 #[.val (.int q1), .val (.ref rB), .val (.ref b2), .val (.int (4 : Int32)), .val (.int (1 : Int32)), .val (.ref rB)] [(.ref rB)])) rfl (hb hby d1_28)
  refine Gl.go (fun _ k => st7 _ k) ?_
  show Gl p.tables e below (QQof s (Q_un Z q1 rT rB rS rG av kA h0 n0) 1 4) (T7.setTop (mkF m 31 #[.val (.int q1), .val (.ref rB), .val (.ref b2), .val (.int (4 : Int32)), .val (.int (1 : Int32)), .val (.ref rB)] [(.ref rT), (.ref rB)]))
  refine Gl.go (fun _ k => Jvm.RoadKit.acmp (g := (mkF m 31 #[.val (.int q1), .val (.ref rB), .val (.ref b2), .val (.int (4 : Int32)), .val (.int (1 : Int32)), .val (.ref rB)] [(.ref rT), (.ref rB)])) X7 hx rfl rfl rfl (pc0 := 31) (pc' := 34) (same := false) rfl (hb hby d1_31) rfl (decide_eq_false fun q => nB (Value.ref.inj q)) (by decide) (by decide) k) ?_
  show Gl p.tables e below (QQof s (Q_un Z q1 rT rB rS rG av kA h0 n0) 1 4) (T7.setTop (mkF m 34 #[.val (.int q1), .val (.ref rB), .val (.ref b2), .val (.int (4 : Int32)), .val (.int (1 : Int32)), .val (.ref rB)] []))
  refine Gl.go (fun _ k => XS.iloadN X7.here hx rfl (hb hby d1_34) rfl  k) ?_
  show Gl p.tables e below (QQof s (Q_un Z q1 rT rB rS rG av kA h0 n0) 1 4) (T7.setTop (mkF m 35 #[.val (.int q1), .val (.ref rB), .val (.ref b2), .val (.int (4 : Int32)), .val (.int (1 : Int32)), .val (.ref rB)] [(.int q1)]))
  refine Gl.go (fun _ k => XS.aload X7.here hx rfl (hb hby d1_35) rfl rfl  k) ?_
  show Gl p.tables e below (QQof s (Q_un Z q1 rT rB rS rG av kA h0 n0) 1 4) (T7.setTop (mkF m 37 #[.val (.int q1), .val (.ref rB), .val (.ref b2), .val (.int (4 : Int32)), .val (.int (1 : Int32)), .val (.ref rB)] [(.ref rB), (.int q1)]))
  obtain ⟨T8, X8, e8, st8⟩ := getF X7 hx hZ hown (host := "") (Or.inl (hw _ (List.mem_of_getElem? (i := 26) rfl))) Via.refl e7 F_rB_unlockedAt_2 (g := (mkF m 37 #[.val (.int q1), .val (.ref rB), .val (.ref b2), .val (.int (4 : Int32)), .val (.int (1 : Int32)), .val (.ref rB)] [(.ref rB), (.int q1)])) rfl rfl (hb hby d1_37)
  refine Gl.go (fun _ k => st8 _ k) ?_
  show Gl p.tables e below (QQof s (Q_un Z q1 rT rB rS rG av kA h0 n0) 1 4) (T8.setTop (mkF m 40 #[.val (.int q1), .val (.ref rB), .val (.ref b2), .val (.int (4 : Int32)), .val (.int (1 : Int32)), .val (.ref rB)] [(.int (0 : Int32)), (.int q1)]))
  refine Gl.go (fun _ k => XS.icmpNo X8.here hx rfl (hb hby d1_40) rfl (flt hp).1 k) ?_
  show Gl p.tables e below (QQof s (Q_un Z q1 rT rB rS rG av kA h0 n0) 1 4) (T8.setTop (mkF m 43 #[.val (.int q1), .val (.ref rB), .val (.ref b2), .val (.int (4 : Int32)), .val (.int (1 : Int32)), .val (.ref rB)] []))
  refine Gl.go (fun _ k => XS.aload X8.here hx rfl (hb hby d1_43) rfl rfl  k) ?_
  show Gl p.tables e below (QQof s (Q_un Z q1 rT rB rS rG av kA h0 n0) 1 4) (T8.setTop (mkF m 45 #[.val (.int q1), .val (.ref rB), .val (.ref b2), .val (.int (4 : Int32)), .val (.int (1 : Int32)), .val (.ref rB)] [(.ref rB)]))
  refine Gl.go (fun _ k => XS.astoreN X8.here hx rfl (hb hby d1_45) rfl rfl (l' := #[.val (.int q1), .val (.ref rB), .val (.ref b2), .val (.int (4 : Int32)), .val (.int (1 : Int32)), .val (.ref rB)]) rfl k) ?_
  show Gl p.tables e below (QQof s (Q_un Z q1 rT rB rS rG av kA h0 n0) 1 4) (T8.setTop (mkF m 46 #[.val (.int q1), .val (.ref rB), .val (.ref b2), .val (.int (4 : Int32)), .val (.int (1 : Int32)), .val (.ref rB)] []))
  refine Gl.go (fun _ k => XS.iinc X8.here hx rfl (hb hby d1_46) rfl (l' := #[.val (.int q1), .val (.ref rB), .val (.ref b2), .val (.int (4 : Int32)), .val (.int ((1 : Int32) + (1 : Int32))), .val (.ref rB)]) rfl k) ?_
  show Gl p.tables e below (QQof s (Q_un Z q1 rT rB rS rG av kA h0 n0) 1 4) (T8.setTop (mkF m 49 #[.val (.int q1), .val (.ref rB), .val (.ref b2), .val (.int (4 : Int32)), .val (.int ((1 : Int32) + (1 : Int32))), .val (.ref rB)] []))
  rw [(by decide : ((1 : Int32) + (1 : Int32)) = (2 : Int32))]
  show Gl p.tables e below (QQof s (Q_un Z q1 rT rB rS rG av kA h0 n0) 1 4) (T8.setTop (mkF m 49 #[.val (.int q1), .val (.ref rB), .val (.ref b2), .val (.int (4 : Int32)), .val (.int (2 : Int32)), .val (.ref rB)] []))
  refine Gl.go (fun _ k => XS.goto X8.here hx rfl (pc0 := 49) (pc' := 14) rfl (hb hby d1_49) (by decide) (by decide) k) ?_
  show Gl p.tables e below (QQof s (Q_un Z q1 rT rB rS rG av kA h0 n0) 1 4) (T8.setTop (mkF m 14 #[.val (.int q1), .val (.ref rB), .val (.ref b2), .val (.int (4 : Int32)), .val (.int (2 : Int32)), .val (.ref rB)] []))
  refine Gl.go (fun _ k => XS.iload X8.here hx rfl (hb hby d1_14) rfl  k) ?_
  show Gl p.tables e below (QQof s (Q_un Z q1 rT rB rS rG av kA h0 n0) 1 4) (T8.setTop (mkF m 16 #[.val (.int q1), .val (.ref rB), .val (.ref b2), .val (.int (4 : Int32)), .val (.int (2 : Int32)), .val (.ref rB)] [(.int (2 : Int32))]))
  refine Gl.go (fun _ k => XS.iloadN X8.here hx rfl (hb hby d1_16) rfl  k) ?_
  show Gl p.tables e below (QQof s (Q_un Z q1 rT rB rS rG av kA h0 n0) 1 4) (T8.setTop (mkF m 17 #[.val (.int q1), .val (.ref rB), .val (.ref b2), .val (.int (4 : Int32)), .val (.int (2 : Int32)), .val (.ref rB)] [(.int (4 : Int32)), (.int (2 : Int32))]))
  refine Gl.go (fun _ k => XS.icmpNo X8.here hx rfl (hb hby d1_17) rfl (tlt (by decide)).2.1 k) ?_
  show Gl p.tables e below (QQof s (Q_un Z q1 rT rB rS rG av kA h0 n0) 1 4) (T8.setTop (mkF m 20 #[.val (.int q1), .val (.ref rB), .val (.ref b2), .val (.int (4 : Int32)), .val (.int (2 : Int32)), .val (.ref rB)] []))
  refine Gl.go (fun _ k => XS.aloadN X8.here hx rfl (hb hby d1_20) rfl rfl  k) ?_
  show Gl p.tables e below (QQof s (Q_un Z q1 rT rB rS rG av kA h0 n0) 1 4) (T8.setTop (mkF m 21 #[.val (.int q1), .val (.ref rB), .val (.ref b2), .val (.int (4 : Int32)), .val (.int (2 : Int32)), .val (.ref rB)] [(.ref b2)]))
  refine Gl.go (fun _ k => XS.iload X8.here hx rfl (hb hby d1_21) rfl  k) ?_
  show Gl p.tables e below (QQof s (Q_un Z q1 rT rB rS rG av kA h0 n0) 1 4) (T8.setTop (mkF m 23 #[.val (.int q1), .val (.ref rB), .val (.ref b2), .val (.int (4 : Int32)), .val (.int (2 : Int32)), .val (.ref rB)] [(.int (2 : Int32)), (.ref b2)]))
  obtain ⟨cl9, Ar9, qA9, SA9, NA9, HA9, GA9⟩ := id Vc2
  have hin9 := inb_of (j := (2 : Int32)) SA9 ⟨by decide, by decide⟩
  have hat9 : cl9.slots[((2 : Int32)).toNatClampNeg]? = some (.ref rS) := HA9.at hin9 rfl
  refine Gl.go (fun _ k => X8.aaload hx (j := (2 : Int32)) (v := (.ref rS)) (by rw [e8]; exact Ar9.1) (State.isArrayOf_alike hZ.alike Ar9.2.1) rfl Ar9.2.2 hin9 hat9 (g := (mkF m 23 #[.val (.int q1), .val (.ref rB), .val (.ref b2), .val (.int (4 : Int32)), .val (.int (2 : Int32)), .val (.ref rB)] [(.int (2 : Int32)), (.ref b2)])) rfl rfl (hb hby d1_23) _ k) ?_
  show Gl p.tables e below (QQof s (Q_un Z q1 rT rB rS rG av kA h0 n0) 1 4) (T8.setTop (mkF m 24 #[.val (.int q1), .val (.ref rB), .val (.ref b2), .val (.int (4 : Int32)), .val (.int (2 : Int32)), .val (.ref rB)] [(.ref rS)]))
  refine Gl.go (fun _ k => XS.astore X8.here hx rfl (hb hby d1_24) rfl rfl (l' := #[.val (.int q1), .val (.ref rB), .val (.ref b2), .val (.int (4 : Int32)), .val (.int (2 : Int32)), .val (.ref rS)]) rfl k) ?_
  show Gl p.tables e below (QQof s (Q_un Z q1 rT rB rS rG av kA h0 n0) 1 4) (T8.setTop (mkF m 26 #[.val (.int q1), .val (.ref rB), .val (.ref b2), .val (.int (4 : Int32)), .val (.int (2 : Int32)), .val (.ref rS)] []))
  refine Gl.go (fun _ k => XS.aload X8.here hx rfl (hb hby d1_26) rfl rfl  k) ?_
  show Gl p.tables e below (QQof s (Q_un Z q1 rT rB rS rG av kA h0 n0) 1 4) (T8.setTop (mkF m 28 #[.val (.int q1), .val (.ref rB), .val (.ref b2), .val (.int (4 : Int32)), .val (.int (2 : Int32)), .val (.ref rS)] [(.ref rS)]))
  obtain ⟨T10, X10, e10, st10⟩ := getS2 X8 hx hZ hown (host := "") (Or.inl (hw _ (List.mem_of_getElem? (i := 25) rfl))) Via.refl e8 S_Generation_START_2 (g := (mkF m 28 #[.val (.int q1), .val (.ref rB), .val (.ref b2), .val (.int (4 : Int32)), .val (.int (2 : Int32)), .val (.ref rS)] [(.ref rS)])) rfl (hb hby d1_28)
  refine Gl.go (fun _ k => st10 _ k) ?_
  show Gl p.tables e below (QQof s (Q_un Z q1 rT rB rS rG av kA h0 n0) 1 4) (T10.setTop (mkF m 31 #[.val (.int q1), .val (.ref rB), .val (.ref b2), .val (.int (4 : Int32)), .val (.int (2 : Int32)), .val (.ref rS)] [(.ref rT), (.ref rS)]))
  refine Gl.go (fun _ k => Jvm.RoadKit.acmp (g := (mkF m 31 #[.val (.int q1), .val (.ref rB), .val (.ref b2), .val (.int (4 : Int32)), .val (.int (2 : Int32)), .val (.ref rS)] [(.ref rT), (.ref rS)])) X10 hx rfl rfl rfl (pc0 := 31) (pc' := 34) (same := false) rfl (hb hby d1_31) rfl (decide_eq_false fun q => nS (Value.ref.inj q)) (by decide) (by decide) k) ?_
  show Gl p.tables e below (QQof s (Q_un Z q1 rT rB rS rG av kA h0 n0) 1 4) (T10.setTop (mkF m 34 #[.val (.int q1), .val (.ref rB), .val (.ref b2), .val (.int (4 : Int32)), .val (.int (2 : Int32)), .val (.ref rS)] []))
  refine Gl.go (fun _ k => XS.iloadN X10.here hx rfl (hb hby d1_34) rfl  k) ?_
  show Gl p.tables e below (QQof s (Q_un Z q1 rT rB rS rG av kA h0 n0) 1 4) (T10.setTop (mkF m 35 #[.val (.int q1), .val (.ref rB), .val (.ref b2), .val (.int (4 : Int32)), .val (.int (2 : Int32)), .val (.ref rS)] [(.int q1)]))
  refine Gl.go (fun _ k => XS.aload X10.here hx rfl (hb hby d1_35) rfl rfl  k) ?_
  show Gl p.tables e below (QQof s (Q_un Z q1 rT rB rS rG av kA h0 n0) 1 4) (T10.setTop (mkF m 37 #[.val (.int q1), .val (.ref rB), .val (.ref b2), .val (.int (4 : Int32)), .val (.int (2 : Int32)), .val (.ref rS)] [(.ref rS), (.int q1)]))
  obtain ⟨T11, X11, e11, st11⟩ := getF X10 hx hZ hown (host := "") (Or.inl (hw _ (List.mem_of_getElem? (i := 26) rfl))) Via.refl e10 F_rS_unlockedAt_2 (g := (mkF m 37 #[.val (.int q1), .val (.ref rB), .val (.ref b2), .val (.int (4 : Int32)), .val (.int (2 : Int32)), .val (.ref rS)] [(.ref rS), (.int q1)])) rfl rfl (hb hby d1_37)
  refine Gl.go (fun _ k => st11 _ k) ?_
  show Gl p.tables e below (QQof s (Q_un Z q1 rT rB rS rG av kA h0 n0) 1 4) (T11.setTop (mkF m 40 #[.val (.int q1), .val (.ref rB), .val (.ref b2), .val (.int (4 : Int32)), .val (.int (2 : Int32)), .val (.ref rS)] [(.int (6 : Int32)), (.int q1)]))
  by_cases h2 : q1 < (6 : Int32)
  · skip
    refine Gl.go (fun _ k => XS.icmpYes X11.here hx rfl (pc0 := 40) (pc' := 46) rfl (hb hby d1_40) rfl (tlt h2).1 (by decide) (by decide) k) ?_
    show Gl p.tables e below (QQof s (Q_un Z q1 rT rB rS rG av kA h0 n0) 1 4) (T11.setTop (mkF m 46 #[.val (.int q1), .val (.ref rB), .val (.ref b2), .val (.int (4 : Int32)), .val (.int (2 : Int32)), .val (.ref rS)] []))
    refine Gl.go (fun _ k => XS.iinc X11.here hx rfl (hb hby d1_46) rfl (l' := #[.val (.int q1), .val (.ref rB), .val (.ref b2), .val (.int (4 : Int32)), .val (.int ((2 : Int32) + (1 : Int32))), .val (.ref rS)]) rfl k) ?_
    show Gl p.tables e below (QQof s (Q_un Z q1 rT rB rS rG av kA h0 n0) 1 4) (T11.setTop (mkF m 49 #[.val (.int q1), .val (.ref rB), .val (.ref b2), .val (.int (4 : Int32)), .val (.int ((2 : Int32) + (1 : Int32))), .val (.ref rS)] []))
    rw [(by decide : ((2 : Int32) + (1 : Int32)) = (3 : Int32))]
    show Gl p.tables e below (QQof s (Q_un Z q1 rT rB rS rG av kA h0 n0) 1 4) (T11.setTop (mkF m 49 #[.val (.int q1), .val (.ref rB), .val (.ref b2), .val (.int (4 : Int32)), .val (.int (3 : Int32)), .val (.ref rS)] []))
    refine Gl.go (fun _ k => XS.goto X11.here hx rfl (pc0 := 49) (pc' := 14) rfl (hb hby d1_49) (by decide) (by decide) k) ?_
    show Gl p.tables e below (QQof s (Q_un Z q1 rT rB rS rG av kA h0 n0) 1 4) (T11.setTop (mkF m 14 #[.val (.int q1), .val (.ref rB), .val (.ref b2), .val (.int (4 : Int32)), .val (.int (3 : Int32)), .val (.ref rS)] []))
    refine Gl.go (fun _ k => XS.iload X11.here hx rfl (hb hby d1_14) rfl  k) ?_
    show Gl p.tables e below (QQof s (Q_un Z q1 rT rB rS rG av kA h0 n0) 1 4) (T11.setTop (mkF m 16 #[.val (.int q1), .val (.ref rB), .val (.ref b2), .val (.int (4 : Int32)), .val (.int (3 : Int32)), .val (.ref rS)] [(.int (3 : Int32))]))
    refine Gl.go (fun _ k => XS.iloadN X11.here hx rfl (hb hby d1_16) rfl  k) ?_
    show Gl p.tables e below (QQof s (Q_un Z q1 rT rB rS rG av kA h0 n0) 1 4) (T11.setTop (mkF m 17 #[.val (.int q1), .val (.ref rB), .val (.ref b2), .val (.int (4 : Int32)), .val (.int (3 : Int32)), .val (.ref rS)] [(.int (4 : Int32)), (.int (3 : Int32))]))
    refine Gl.go (fun _ k => XS.icmpNo X11.here hx rfl (hb hby d1_17) rfl (tlt (by decide)).2.1 k) ?_
    show Gl p.tables e below (QQof s (Q_un Z q1 rT rB rS rG av kA h0 n0) 1 4) (T11.setTop (mkF m 20 #[.val (.int q1), .val (.ref rB), .val (.ref b2), .val (.int (4 : Int32)), .val (.int (3 : Int32)), .val (.ref rS)] []))
    refine Gl.go (fun _ k => XS.aloadN X11.here hx rfl (hb hby d1_20) rfl rfl  k) ?_
    show Gl p.tables e below (QQof s (Q_un Z q1 rT rB rS rG av kA h0 n0) 1 4) (T11.setTop (mkF m 21 #[.val (.int q1), .val (.ref rB), .val (.ref b2), .val (.int (4 : Int32)), .val (.int (3 : Int32)), .val (.ref rS)] [(.ref b2)]))
    refine Gl.go (fun _ k => XS.iload X11.here hx rfl (hb hby d1_21) rfl  k) ?_
    show Gl p.tables e below (QQof s (Q_un Z q1 rT rB rS rG av kA h0 n0) 1 4) (T11.setTop (mkF m 23 #[.val (.int q1), .val (.ref rB), .val (.ref b2), .val (.int (4 : Int32)), .val (.int (3 : Int32)), .val (.ref rS)] [(.int (3 : Int32)), (.ref b2)]))
    obtain ⟨cl12, Ar12, qA12, SA12, NA12, HA12, GA12⟩ := id Vc2
    have hin12 := inb_of (j := (3 : Int32)) SA12 ⟨by decide, by decide⟩
    have hat12 : cl12.slots[((3 : Int32)).toNatClampNeg]? = some (.ref rG) := HA12.at hin12 rfl
    refine Gl.go (fun _ k => X11.aaload hx (j := (3 : Int32)) (v := (.ref rG)) (by rw [e11]; exact Ar12.1) (State.isArrayOf_alike hZ.alike Ar12.2.1) rfl Ar12.2.2 hin12 hat12 (g := (mkF m 23 #[.val (.int q1), .val (.ref rB), .val (.ref b2), .val (.int (4 : Int32)), .val (.int (3 : Int32)), .val (.ref rS)] [(.int (3 : Int32)), (.ref b2)])) rfl rfl (hb hby d1_23) _ k) ?_
    show Gl p.tables e below (QQof s (Q_un Z q1 rT rB rS rG av kA h0 n0) 1 4) (T11.setTop (mkF m 24 #[.val (.int q1), .val (.ref rB), .val (.ref b2), .val (.int (4 : Int32)), .val (.int (3 : Int32)), .val (.ref rS)] [(.ref rG)]))
    refine Gl.go (fun _ k => XS.astore X11.here hx rfl (hb hby d1_24) rfl rfl (l' := #[.val (.int q1), .val (.ref rB), .val (.ref b2), .val (.int (4 : Int32)), .val (.int (3 : Int32)), .val (.ref rG)]) rfl k) ?_
    show Gl p.tables e below (QQof s (Q_un Z q1 rT rB rS rG av kA h0 n0) 1 4) (T11.setTop (mkF m 26 #[.val (.int q1), .val (.ref rB), .val (.ref b2), .val (.int (4 : Int32)), .val (.int (3 : Int32)), .val (.ref rG)] []))
    refine Gl.go (fun _ k => XS.aload X11.here hx rfl (hb hby d1_26) rfl rfl  k) ?_
    show Gl p.tables e below (QQof s (Q_un Z q1 rT rB rS rG av kA h0 n0) 1 4) (T11.setTop (mkF m 28 #[.val (.int q1), .val (.ref rB), .val (.ref b2), .val (.int (4 : Int32)), .val (.int (3 : Int32)), .val (.ref rG)] [(.ref rG)]))
    obtain ⟨T13, X13, e13, st13⟩ := getS2 X11 hx hZ hown (host := "") (Or.inl (hw _ (List.mem_of_getElem? (i := 25) rfl))) Via.refl e11 S_Generation_START_2 (g := (mkF m 28 #[.val (.int q1), .val (.ref rB), .val (.ref b2), .val (.int (4 : Int32)), .val (.int (3 : Int32)), .val (.ref rG)] [(.ref rG)])) rfl (hb hby d1_28)
    refine Gl.go (fun _ k => st13 _ k) ?_
    show Gl p.tables e below (QQof s (Q_un Z q1 rT rB rS rG av kA h0 n0) 1 4) (T13.setTop (mkF m 31 #[.val (.int q1), .val (.ref rB), .val (.ref b2), .val (.int (4 : Int32)), .val (.int (3 : Int32)), .val (.ref rG)] [(.ref rT), (.ref rG)]))
    refine Gl.go (fun _ k => Jvm.RoadKit.acmp (g := (mkF m 31 #[.val (.int q1), .val (.ref rB), .val (.ref b2), .val (.int (4 : Int32)), .val (.int (3 : Int32)), .val (.ref rG)] [(.ref rT), (.ref rG)])) X13 hx rfl rfl rfl (pc0 := 31) (pc' := 34) (same := false) rfl (hb hby d1_31) rfl (decide_eq_false fun q => nG (Value.ref.inj q)) (by decide) (by decide) k) ?_
    show Gl p.tables e below (QQof s (Q_un Z q1 rT rB rS rG av kA h0 n0) 1 4) (T13.setTop (mkF m 34 #[.val (.int q1), .val (.ref rB), .val (.ref b2), .val (.int (4 : Int32)), .val (.int (3 : Int32)), .val (.ref rG)] []))
    refine Gl.go (fun _ k => XS.iloadN X13.here hx rfl (hb hby d1_34) rfl  k) ?_
    show Gl p.tables e below (QQof s (Q_un Z q1 rT rB rS rG av kA h0 n0) 1 4) (T13.setTop (mkF m 35 #[.val (.int q1), .val (.ref rB), .val (.ref b2), .val (.int (4 : Int32)), .val (.int (3 : Int32)), .val (.ref rG)] [(.int q1)]))
    refine Gl.go (fun _ k => XS.aload X13.here hx rfl (hb hby d1_35) rfl rfl  k) ?_
    show Gl p.tables e below (QQof s (Q_un Z q1 rT rB rS rG av kA h0 n0) 1 4) (T13.setTop (mkF m 37 #[.val (.int q1), .val (.ref rB), .val (.ref b2), .val (.int (4 : Int32)), .val (.int (3 : Int32)), .val (.ref rG)] [(.ref rG), (.int q1)]))
    obtain ⟨T14, X14, e14, st14⟩ := getF X13 hx hZ hown (host := "") (Or.inl (hw _ (List.mem_of_getElem? (i := 26) rfl))) Via.refl e13 F_rG_unlockedAt_2 (g := (mkF m 37 #[.val (.int q1), .val (.ref rB), .val (.ref b2), .val (.int (4 : Int32)), .val (.int (3 : Int32)), .val (.ref rG)] [(.ref rG), (.int q1)])) rfl rfl (hb hby d1_37)
    refine Gl.go (fun _ k => st14 _ k) ?_
    show Gl p.tables e below (QQof s (Q_un Z q1 rT rB rS rG av kA h0 n0) 1 4) (T14.setTop (mkF m 40 #[.val (.int q1), .val (.ref rB), .val (.ref b2), .val (.int (4 : Int32)), .val (.int (3 : Int32)), .val (.ref rG)] [(.int (18 : Int32)), (.int q1)]))
    by_cases h3 : q1 < (18 : Int32)
    · skip
      refine Gl.go (fun _ k => XS.icmpYes X14.here hx rfl (pc0 := 40) (pc' := 46) rfl (hb hby d1_40) rfl (tlt h3).1 (by decide) (by decide) k) ?_
      show Gl p.tables e below (QQof s (Q_un Z q1 rT rB rS rG av kA h0 n0) 1 4) (T14.setTop (mkF m 46 #[.val (.int q1), .val (.ref rB), .val (.ref b2), .val (.int (4 : Int32)), .val (.int (3 : Int32)), .val (.ref rG)] []))
      refine Gl.go (fun _ k => XS.iinc X14.here hx rfl (hb hby d1_46) rfl (l' := #[.val (.int q1), .val (.ref rB), .val (.ref b2), .val (.int (4 : Int32)), .val (.int ((3 : Int32) + (1 : Int32))), .val (.ref rG)]) rfl k) ?_
      show Gl p.tables e below (QQof s (Q_un Z q1 rT rB rS rG av kA h0 n0) 1 4) (T14.setTop (mkF m 49 #[.val (.int q1), .val (.ref rB), .val (.ref b2), .val (.int (4 : Int32)), .val (.int ((3 : Int32) + (1 : Int32))), .val (.ref rG)] []))
      rw [(by decide : ((3 : Int32) + (1 : Int32)) = (4 : Int32))]
      show Gl p.tables e below (QQof s (Q_un Z q1 rT rB rS rG av kA h0 n0) 1 4) (T14.setTop (mkF m 49 #[.val (.int q1), .val (.ref rB), .val (.ref b2), .val (.int (4 : Int32)), .val (.int (4 : Int32)), .val (.ref rG)] []))
      refine Gl.go (fun _ k => XS.goto X14.here hx rfl (pc0 := 49) (pc' := 14) rfl (hb hby d1_49) (by decide) (by decide) k) ?_
      show Gl p.tables e below (QQof s (Q_un Z q1 rT rB rS rG av kA h0 n0) 1 4) (T14.setTop (mkF m 14 #[.val (.int q1), .val (.ref rB), .val (.ref b2), .val (.int (4 : Int32)), .val (.int (4 : Int32)), .val (.ref rG)] []))
      refine Gl.go (fun _ k => XS.iload X14.here hx rfl (hb hby d1_14) rfl  k) ?_
      show Gl p.tables e below (QQof s (Q_un Z q1 rT rB rS rG av kA h0 n0) 1 4) (T14.setTop (mkF m 16 #[.val (.int q1), .val (.ref rB), .val (.ref b2), .val (.int (4 : Int32)), .val (.int (4 : Int32)), .val (.ref rG)] [(.int (4 : Int32))]))
      refine Gl.go (fun _ k => XS.iloadN X14.here hx rfl (hb hby d1_16) rfl  k) ?_
      show Gl p.tables e below (QQof s (Q_un Z q1 rT rB rS rG av kA h0 n0) 1 4) (T14.setTop (mkF m 17 #[.val (.int q1), .val (.ref rB), .val (.ref b2), .val (.int (4 : Int32)), .val (.int (4 : Int32)), .val (.ref rG)] [(.int (4 : Int32)), (.int (4 : Int32))]))
      refine Gl.go (fun _ k => XS.icmpYes X14.here hx rfl (pc0 := 17) (pc' := 52) rfl (hb hby d1_17) rfl (flt (by decide)).2.1 (by decide) (by decide) k) ?_
      show Gl p.tables e below (QQof s (Q_un Z q1 rT rB rS rG av kA h0 n0) 1 4) (T14.setTop (mkF m 52 #[.val (.int q1), .val (.ref rB), .val (.ref b2), .val (.int (4 : Int32)), .val (.int (4 : Int32)), .val (.ref rG)] []))
      refine Gl.go (fun _ k => XS.aloadN X14.here hx rfl (hb hby d1_52) rfl rfl  k) ?_
      show Gl p.tables e below (QQof s (Q_un Z q1 rT rB rS rG av kA h0 n0) 1 4) (T14.setTop (mkF m 53 #[.val (.int q1), .val (.ref rB), .val (.ref b2), .val (.int (4 : Int32)), .val (.int (4 : Int32)), .val (.ref rG)] [(.ref rB)]))
      refine leafA X14 hx hlk Bd.returns rfl rfl (hb hby d1_53) ?_ (by decide) (by decide)
      rw [e14]
      exact ⟨by simp only [unA, if_pos h2, if_pos h3], N2, K2⟩
    · skip
      refine Gl.go (fun _ k => XS.icmpNo X14.here hx rfl (hb hby d1_40) rfl (flt h3).1 k) ?_
      show Gl p.tables e below (QQof s (Q_un Z q1 rT rB rS rG av kA h0 n0) 1 4) (T14.setTop (mkF m 43 #[.val (.int q1), .val (.ref rB), .val (.ref b2), .val (.int (4 : Int32)), .val (.int (3 : Int32)), .val (.ref rG)] []))
      refine Gl.go (fun _ k => XS.aload X14.here hx rfl (hb hby d1_43) rfl rfl  k) ?_
      show Gl p.tables e below (QQof s (Q_un Z q1 rT rB rS rG av kA h0 n0) 1 4) (T14.setTop (mkF m 45 #[.val (.int q1), .val (.ref rB), .val (.ref b2), .val (.int (4 : Int32)), .val (.int (3 : Int32)), .val (.ref rG)] [(.ref rG)]))
      refine Gl.go (fun _ k => XS.astoreN X14.here hx rfl (hb hby d1_45) rfl rfl (l' := #[.val (.int q1), .val (.ref rG), .val (.ref b2), .val (.int (4 : Int32)), .val (.int (3 : Int32)), .val (.ref rG)]) rfl k) ?_
      show Gl p.tables e below (QQof s (Q_un Z q1 rT rB rS rG av kA h0 n0) 1 4) (T14.setTop (mkF m 46 #[.val (.int q1), .val (.ref rG), .val (.ref b2), .val (.int (4 : Int32)), .val (.int (3 : Int32)), .val (.ref rG)] []))
      refine Gl.go (fun _ k => XS.iinc X14.here hx rfl (hb hby d1_46) rfl (l' := #[.val (.int q1), .val (.ref rG), .val (.ref b2), .val (.int (4 : Int32)), .val (.int ((3 : Int32) + (1 : Int32))), .val (.ref rG)]) rfl k) ?_
      show Gl p.tables e below (QQof s (Q_un Z q1 rT rB rS rG av kA h0 n0) 1 4) (T14.setTop (mkF m 49 #[.val (.int q1), .val (.ref rG), .val (.ref b2), .val (.int (4 : Int32)), .val (.int ((3 : Int32) + (1 : Int32))), .val (.ref rG)] []))
      rw [(by decide : ((3 : Int32) + (1 : Int32)) = (4 : Int32))]
      show Gl p.tables e below (QQof s (Q_un Z q1 rT rB rS rG av kA h0 n0) 1 4) (T14.setTop (mkF m 49 #[.val (.int q1), .val (.ref rG), .val (.ref b2), .val (.int (4 : Int32)), .val (.int (4 : Int32)), .val (.ref rG)] []))
      refine Gl.go (fun _ k => XS.goto X14.here hx rfl (pc0 := 49) (pc' := 14) rfl (hb hby d1_49) (by decide) (by decide) k) ?_
      show Gl p.tables e below (QQof s (Q_un Z q1 rT rB rS rG av kA h0 n0) 1 4) (T14.setTop (mkF m 14 #[.val (.int q1), .val (.ref rG), .val (.ref b2), .val (.int (4 : Int32)), .val (.int (4 : Int32)), .val (.ref rG)] []))
      refine Gl.go (fun _ k => XS.iload X14.here hx rfl (hb hby d1_14) rfl  k) ?_
      show Gl p.tables e below (QQof s (Q_un Z q1 rT rB rS rG av kA h0 n0) 1 4) (T14.setTop (mkF m 16 #[.val (.int q1), .val (.ref rG), .val (.ref b2), .val (.int (4 : Int32)), .val (.int (4 : Int32)), .val (.ref rG)] [(.int (4 : Int32))]))
      refine Gl.go (fun _ k => XS.iloadN X14.here hx rfl (hb hby d1_16) rfl  k) ?_
      show Gl p.tables e below (QQof s (Q_un Z q1 rT rB rS rG av kA h0 n0) 1 4) (T14.setTop (mkF m 17 #[.val (.int q1), .val (.ref rG), .val (.ref b2), .val (.int (4 : Int32)), .val (.int (4 : Int32)), .val (.ref rG)] [(.int (4 : Int32)), (.int (4 : Int32))]))
      refine Gl.go (fun _ k => XS.icmpYes X14.here hx rfl (pc0 := 17) (pc' := 52) rfl (hb hby d1_17) rfl (flt (by decide)).2.1 (by decide) (by decide) k) ?_
      show Gl p.tables e below (QQof s (Q_un Z q1 rT rB rS rG av kA h0 n0) 1 4) (T14.setTop (mkF m 52 #[.val (.int q1), .val (.ref rG), .val (.ref b2), .val (.int (4 : Int32)), .val (.int (4 : Int32)), .val (.ref rG)] []))
      refine Gl.go (fun _ k => XS.aloadN X14.here hx rfl (hb hby d1_52) rfl rfl  k) ?_
      show Gl p.tables e below (QQof s (Q_un Z q1 rT rB rS rG av kA h0 n0) 1 4) (T14.setTop (mkF m 53 #[.val (.int q1), .val (.ref rG), .val (.ref b2), .val (.int (4 : Int32)), .val (.int (4 : Int32)), .val (.ref rG)] [(.ref rG)]))
      refine leafA X14 hx hlk Bd.returns rfl rfl (hb hby d1_53) ?_ (by decide) (by decide)
      rw [e14]
      exact ⟨by simp only [unA, if_pos h2, if_neg h3], N2, K2⟩
  · skip
    refine Gl.go (fun _ k => XS.icmpNo X11.here hx rfl (hb hby d1_40) rfl (flt h2).1 k) ?_
    show Gl p.tables e below (QQof s (Q_un Z q1 rT rB rS rG av kA h0 n0) 1 4) (T11.setTop (mkF m 43 #[.val (.int q1), .val (.ref rB), .val (.ref b2), .val (.int (4 : Int32)), .val (.int (2 : Int32)), .val (.ref rS)] []))
    refine Gl.go (fun _ k => XS.aload X11.here hx rfl (hb hby d1_43) rfl rfl  k) ?_
    show Gl p.tables e below (QQof s (Q_un Z q1 rT rB rS rG av kA h0 n0) 1 4) (T11.setTop (mkF m 45 #[.val (.int q1), .val (.ref rB), .val (.ref b2), .val (.int (4 : Int32)), .val (.int (2 : Int32)), .val (.ref rS)] [(.ref rS)]))
    refine Gl.go (fun _ k => XS.astoreN X11.here hx rfl (hb hby d1_45) rfl rfl (l' := #[.val (.int q1), .val (.ref rS), .val (.ref b2), .val (.int (4 : Int32)), .val (.int (2 : Int32)), .val (.ref rS)]) rfl k) ?_
    show Gl p.tables e below (QQof s (Q_un Z q1 rT rB rS rG av kA h0 n0) 1 4) (T11.setTop (mkF m 46 #[.val (.int q1), .val (.ref rS), .val (.ref b2), .val (.int (4 : Int32)), .val (.int (2 : Int32)), .val (.ref rS)] []))
    refine Gl.go (fun _ k => XS.iinc X11.here hx rfl (hb hby d1_46) rfl (l' := #[.val (.int q1), .val (.ref rS), .val (.ref b2), .val (.int (4 : Int32)), .val (.int ((2 : Int32) + (1 : Int32))), .val (.ref rS)]) rfl k) ?_
    show Gl p.tables e below (QQof s (Q_un Z q1 rT rB rS rG av kA h0 n0) 1 4) (T11.setTop (mkF m 49 #[.val (.int q1), .val (.ref rS), .val (.ref b2), .val (.int (4 : Int32)), .val (.int ((2 : Int32) + (1 : Int32))), .val (.ref rS)] []))
    rw [(by decide : ((2 : Int32) + (1 : Int32)) = (3 : Int32))]
    show Gl p.tables e below (QQof s (Q_un Z q1 rT rB rS rG av kA h0 n0) 1 4) (T11.setTop (mkF m 49 #[.val (.int q1), .val (.ref rS), .val (.ref b2), .val (.int (4 : Int32)), .val (.int (3 : Int32)), .val (.ref rS)] []))
    refine Gl.go (fun _ k => XS.goto X11.here hx rfl (pc0 := 49) (pc' := 14) rfl (hb hby d1_49) (by decide) (by decide) k) ?_
    show Gl p.tables e below (QQof s (Q_un Z q1 rT rB rS rG av kA h0 n0) 1 4) (T11.setTop (mkF m 14 #[.val (.int q1), .val (.ref rS), .val (.ref b2), .val (.int (4 : Int32)), .val (.int (3 : Int32)), .val (.ref rS)] []))
    refine Gl.go (fun _ k => XS.iload X11.here hx rfl (hb hby d1_14) rfl  k) ?_
    show Gl p.tables e below (QQof s (Q_un Z q1 rT rB rS rG av kA h0 n0) 1 4) (T11.setTop (mkF m 16 #[.val (.int q1), .val (.ref rS), .val (.ref b2), .val (.int (4 : Int32)), .val (.int (3 : Int32)), .val (.ref rS)] [(.int (3 : Int32))]))
    refine Gl.go (fun _ k => XS.iloadN X11.here hx rfl (hb hby d1_16) rfl  k) ?_
    show Gl p.tables e below (QQof s (Q_un Z q1 rT rB rS rG av kA h0 n0) 1 4) (T11.setTop (mkF m 17 #[.val (.int q1), .val (.ref rS), .val (.ref b2), .val (.int (4 : Int32)), .val (.int (3 : Int32)), .val (.ref rS)] [(.int (4 : Int32)), (.int (3 : Int32))]))
    refine Gl.go (fun _ k => XS.icmpNo X11.here hx rfl (hb hby d1_17) rfl (tlt (by decide)).2.1 k) ?_
    show Gl p.tables e below (QQof s (Q_un Z q1 rT rB rS rG av kA h0 n0) 1 4) (T11.setTop (mkF m 20 #[.val (.int q1), .val (.ref rS), .val (.ref b2), .val (.int (4 : Int32)), .val (.int (3 : Int32)), .val (.ref rS)] []))
    refine Gl.go (fun _ k => XS.aloadN X11.here hx rfl (hb hby d1_20) rfl rfl  k) ?_
    show Gl p.tables e below (QQof s (Q_un Z q1 rT rB rS rG av kA h0 n0) 1 4) (T11.setTop (mkF m 21 #[.val (.int q1), .val (.ref rS), .val (.ref b2), .val (.int (4 : Int32)), .val (.int (3 : Int32)), .val (.ref rS)] [(.ref b2)]))
    refine Gl.go (fun _ k => XS.iload X11.here hx rfl (hb hby d1_21) rfl  k) ?_
    show Gl p.tables e below (QQof s (Q_un Z q1 rT rB rS rG av kA h0 n0) 1 4) (T11.setTop (mkF m 23 #[.val (.int q1), .val (.ref rS), .val (.ref b2), .val (.int (4 : Int32)), .val (.int (3 : Int32)), .val (.ref rS)] [(.int (3 : Int32)), (.ref b2)]))
    obtain ⟨cl15, Ar15, qA15, SA15, NA15, HA15, GA15⟩ := id Vc2
    have hin15 := inb_of (j := (3 : Int32)) SA15 ⟨by decide, by decide⟩
    have hat15 : cl15.slots[((3 : Int32)).toNatClampNeg]? = some (.ref rG) := HA15.at hin15 rfl
    refine Gl.go (fun _ k => X11.aaload hx (j := (3 : Int32)) (v := (.ref rG)) (by rw [e11]; exact Ar15.1) (State.isArrayOf_alike hZ.alike Ar15.2.1) rfl Ar15.2.2 hin15 hat15 (g := (mkF m 23 #[.val (.int q1), .val (.ref rS), .val (.ref b2), .val (.int (4 : Int32)), .val (.int (3 : Int32)), .val (.ref rS)] [(.int (3 : Int32)), (.ref b2)])) rfl rfl (hb hby d1_23) _ k) ?_
    show Gl p.tables e below (QQof s (Q_un Z q1 rT rB rS rG av kA h0 n0) 1 4) (T11.setTop (mkF m 24 #[.val (.int q1), .val (.ref rS), .val (.ref b2), .val (.int (4 : Int32)), .val (.int (3 : Int32)), .val (.ref rS)] [(.ref rG)]))
    refine Gl.go (fun _ k => XS.astore X11.here hx rfl (hb hby d1_24) rfl rfl (l' := #[.val (.int q1), .val (.ref rS), .val (.ref b2), .val (.int (4 : Int32)), .val (.int (3 : Int32)), .val (.ref rG)]) rfl k) ?_
    show Gl p.tables e below (QQof s (Q_un Z q1 rT rB rS rG av kA h0 n0) 1 4) (T11.setTop (mkF m 26 #[.val (.int q1), .val (.ref rS), .val (.ref b2), .val (.int (4 : Int32)), .val (.int (3 : Int32)), .val (.ref rG)] []))
    refine Gl.go (fun _ k => XS.aload X11.here hx rfl (hb hby d1_26) rfl rfl  k) ?_
    show Gl p.tables e below (QQof s (Q_un Z q1 rT rB rS rG av kA h0 n0) 1 4) (T11.setTop (mkF m 28 #[.val (.int q1), .val (.ref rS), .val (.ref b2), .val (.int (4 : Int32)), .val (.int (3 : Int32)), .val (.ref rG)] [(.ref rG)]))
    obtain ⟨T16, X16, e16, st16⟩ := getS2 X11 hx hZ hown (host := "") (Or.inl (hw _ (List.mem_of_getElem? (i := 25) rfl))) Via.refl e11 S_Generation_START_2 (g := (mkF m 28 #[.val (.int q1), .val (.ref rS), .val (.ref b2), .val (.int (4 : Int32)), .val (.int (3 : Int32)), .val (.ref rG)] [(.ref rG)])) rfl (hb hby d1_28)
    refine Gl.go (fun _ k => st16 _ k) ?_
    show Gl p.tables e below (QQof s (Q_un Z q1 rT rB rS rG av kA h0 n0) 1 4) (T16.setTop (mkF m 31 #[.val (.int q1), .val (.ref rS), .val (.ref b2), .val (.int (4 : Int32)), .val (.int (3 : Int32)), .val (.ref rG)] [(.ref rT), (.ref rG)]))
    refine Gl.go (fun _ k => Jvm.RoadKit.acmp (g := (mkF m 31 #[.val (.int q1), .val (.ref rS), .val (.ref b2), .val (.int (4 : Int32)), .val (.int (3 : Int32)), .val (.ref rG)] [(.ref rT), (.ref rG)])) X16 hx rfl rfl rfl (pc0 := 31) (pc' := 34) (same := false) rfl (hb hby d1_31) rfl (decide_eq_false fun q => nG (Value.ref.inj q)) (by decide) (by decide) k) ?_
    show Gl p.tables e below (QQof s (Q_un Z q1 rT rB rS rG av kA h0 n0) 1 4) (T16.setTop (mkF m 34 #[.val (.int q1), .val (.ref rS), .val (.ref b2), .val (.int (4 : Int32)), .val (.int (3 : Int32)), .val (.ref rG)] []))
    refine Gl.go (fun _ k => XS.iloadN X16.here hx rfl (hb hby d1_34) rfl  k) ?_
    show Gl p.tables e below (QQof s (Q_un Z q1 rT rB rS rG av kA h0 n0) 1 4) (T16.setTop (mkF m 35 #[.val (.int q1), .val (.ref rS), .val (.ref b2), .val (.int (4 : Int32)), .val (.int (3 : Int32)), .val (.ref rG)] [(.int q1)]))
    refine Gl.go (fun _ k => XS.aload X16.here hx rfl (hb hby d1_35) rfl rfl  k) ?_
    show Gl p.tables e below (QQof s (Q_un Z q1 rT rB rS rG av kA h0 n0) 1 4) (T16.setTop (mkF m 37 #[.val (.int q1), .val (.ref rS), .val (.ref b2), .val (.int (4 : Int32)), .val (.int (3 : Int32)), .val (.ref rG)] [(.ref rG), (.int q1)]))
    obtain ⟨T17, X17, e17, st17⟩ := getF X16 hx hZ hown (host := "") (Or.inl (hw _ (List.mem_of_getElem? (i := 26) rfl))) Via.refl e16 F_rG_unlockedAt_2 (g := (mkF m 37 #[.val (.int q1), .val (.ref rS), .val (.ref b2), .val (.int (4 : Int32)), .val (.int (3 : Int32)), .val (.ref rG)] [(.ref rG), (.int q1)])) rfl rfl (hb hby d1_37)
    refine Gl.go (fun _ k => st17 _ k) ?_
    show Gl p.tables e below (QQof s (Q_un Z q1 rT rB rS rG av kA h0 n0) 1 4) (T17.setTop (mkF m 40 #[.val (.int q1), .val (.ref rS), .val (.ref b2), .val (.int (4 : Int32)), .val (.int (3 : Int32)), .val (.ref rG)] [(.int (18 : Int32)), (.int q1)]))
    by_cases h3 : q1 < (18 : Int32)
    · skip
      refine Gl.go (fun _ k => XS.icmpYes X17.here hx rfl (pc0 := 40) (pc' := 46) rfl (hb hby d1_40) rfl (tlt h3).1 (by decide) (by decide) k) ?_
      show Gl p.tables e below (QQof s (Q_un Z q1 rT rB rS rG av kA h0 n0) 1 4) (T17.setTop (mkF m 46 #[.val (.int q1), .val (.ref rS), .val (.ref b2), .val (.int (4 : Int32)), .val (.int (3 : Int32)), .val (.ref rG)] []))
      refine Gl.go (fun _ k => XS.iinc X17.here hx rfl (hb hby d1_46) rfl (l' := #[.val (.int q1), .val (.ref rS), .val (.ref b2), .val (.int (4 : Int32)), .val (.int ((3 : Int32) + (1 : Int32))), .val (.ref rG)]) rfl k) ?_
      show Gl p.tables e below (QQof s (Q_un Z q1 rT rB rS rG av kA h0 n0) 1 4) (T17.setTop (mkF m 49 #[.val (.int q1), .val (.ref rS), .val (.ref b2), .val (.int (4 : Int32)), .val (.int ((3 : Int32) + (1 : Int32))), .val (.ref rG)] []))
      rw [(by decide : ((3 : Int32) + (1 : Int32)) = (4 : Int32))]
      show Gl p.tables e below (QQof s (Q_un Z q1 rT rB rS rG av kA h0 n0) 1 4) (T17.setTop (mkF m 49 #[.val (.int q1), .val (.ref rS), .val (.ref b2), .val (.int (4 : Int32)), .val (.int (4 : Int32)), .val (.ref rG)] []))
      refine Gl.go (fun _ k => XS.goto X17.here hx rfl (pc0 := 49) (pc' := 14) rfl (hb hby d1_49) (by decide) (by decide) k) ?_
      show Gl p.tables e below (QQof s (Q_un Z q1 rT rB rS rG av kA h0 n0) 1 4) (T17.setTop (mkF m 14 #[.val (.int q1), .val (.ref rS), .val (.ref b2), .val (.int (4 : Int32)), .val (.int (4 : Int32)), .val (.ref rG)] []))
      refine Gl.go (fun _ k => XS.iload X17.here hx rfl (hb hby d1_14) rfl  k) ?_
      show Gl p.tables e below (QQof s (Q_un Z q1 rT rB rS rG av kA h0 n0) 1 4) (T17.setTop (mkF m 16 #[.val (.int q1), .val (.ref rS), .val (.ref b2), .val (.int (4 : Int32)), .val (.int (4 : Int32)), .val (.ref rG)] [(.int (4 : Int32))]))
      refine Gl.go (fun _ k => XS.iloadN X17.here hx rfl (hb hby d1_16) rfl  k) ?_
      show Gl p.tables e below (QQof s (Q_un Z q1 rT rB rS rG av kA h0 n0) 1 4) (T17.setTop (mkF m 17 #[.val (.int q1), .val (.ref rS), .val (.ref b2), .val (.int (4 : Int32)), .val (.int (4 : Int32)), .val (.ref rG)] [(.int (4 : Int32)), (.int (4 : Int32))]))
      refine Gl.go (fun _ k => XS.icmpYes X17.here hx rfl (pc0 := 17) (pc' := 52) rfl (hb hby d1_17) rfl (flt (by decide)).2.1 (by decide) (by decide) k) ?_
      show Gl p.tables e below (QQof s (Q_un Z q1 rT rB rS rG av kA h0 n0) 1 4) (T17.setTop (mkF m 52 #[.val (.int q1), .val (.ref rS), .val (.ref b2), .val (.int (4 : Int32)), .val (.int (4 : Int32)), .val (.ref rG)] []))
      refine Gl.go (fun _ k => XS.aloadN X17.here hx rfl (hb hby d1_52) rfl rfl  k) ?_
      show Gl p.tables e below (QQof s (Q_un Z q1 rT rB rS rG av kA h0 n0) 1 4) (T17.setTop (mkF m 53 #[.val (.int q1), .val (.ref rS), .val (.ref b2), .val (.int (4 : Int32)), .val (.int (4 : Int32)), .val (.ref rG)] [(.ref rS)]))
      refine leafA X17 hx hlk Bd.returns rfl rfl (hb hby d1_53) ?_ (by decide) (by decide)
      rw [e17]
      exact ⟨by simp only [unA, if_neg h2, if_pos h3], N2, K2⟩
    · skip
      refine Gl.go (fun _ k => XS.icmpNo X17.here hx rfl (hb hby d1_40) rfl (flt h3).1 k) ?_
      show Gl p.tables e below (QQof s (Q_un Z q1 rT rB rS rG av kA h0 n0) 1 4) (T17.setTop (mkF m 43 #[.val (.int q1), .val (.ref rS), .val (.ref b2), .val (.int (4 : Int32)), .val (.int (3 : Int32)), .val (.ref rG)] []))
      refine Gl.go (fun _ k => XS.aload X17.here hx rfl (hb hby d1_43) rfl rfl  k) ?_
      show Gl p.tables e below (QQof s (Q_un Z q1 rT rB rS rG av kA h0 n0) 1 4) (T17.setTop (mkF m 45 #[.val (.int q1), .val (.ref rS), .val (.ref b2), .val (.int (4 : Int32)), .val (.int (3 : Int32)), .val (.ref rG)] [(.ref rG)]))
      refine Gl.go (fun _ k => XS.astoreN X17.here hx rfl (hb hby d1_45) rfl rfl (l' := #[.val (.int q1), .val (.ref rG), .val (.ref b2), .val (.int (4 : Int32)), .val (.int (3 : Int32)), .val (.ref rG)]) rfl k) ?_
      show Gl p.tables e below (QQof s (Q_un Z q1 rT rB rS rG av kA h0 n0) 1 4) (T17.setTop (mkF m 46 #[.val (.int q1), .val (.ref rG), .val (.ref b2), .val (.int (4 : Int32)), .val (.int (3 : Int32)), .val (.ref rG)] []))
      refine Gl.go (fun _ k => XS.iinc X17.here hx rfl (hb hby d1_46) rfl (l' := #[.val (.int q1), .val (.ref rG), .val (.ref b2), .val (.int (4 : Int32)), .val (.int ((3 : Int32) + (1 : Int32))), .val (.ref rG)]) rfl k) ?_
      show Gl p.tables e below (QQof s (Q_un Z q1 rT rB rS rG av kA h0 n0) 1 4) (T17.setTop (mkF m 49 #[.val (.int q1), .val (.ref rG), .val (.ref b2), .val (.int (4 : Int32)), .val (.int ((3 : Int32) + (1 : Int32))), .val (.ref rG)] []))
      rw [(by decide : ((3 : Int32) + (1 : Int32)) = (4 : Int32))]
      show Gl p.tables e below (QQof s (Q_un Z q1 rT rB rS rG av kA h0 n0) 1 4) (T17.setTop (mkF m 49 #[.val (.int q1), .val (.ref rG), .val (.ref b2), .val (.int (4 : Int32)), .val (.int (4 : Int32)), .val (.ref rG)] []))
      refine Gl.go (fun _ k => XS.goto X17.here hx rfl (pc0 := 49) (pc' := 14) rfl (hb hby d1_49) (by decide) (by decide) k) ?_
      show Gl p.tables e below (QQof s (Q_un Z q1 rT rB rS rG av kA h0 n0) 1 4) (T17.setTop (mkF m 14 #[.val (.int q1), .val (.ref rG), .val (.ref b2), .val (.int (4 : Int32)), .val (.int (4 : Int32)), .val (.ref rG)] []))
      refine Gl.go (fun _ k => XS.iload X17.here hx rfl (hb hby d1_14) rfl  k) ?_
      show Gl p.tables e below (QQof s (Q_un Z q1 rT rB rS rG av kA h0 n0) 1 4) (T17.setTop (mkF m 16 #[.val (.int q1), .val (.ref rG), .val (.ref b2), .val (.int (4 : Int32)), .val (.int (4 : Int32)), .val (.ref rG)] [(.int (4 : Int32))]))
      refine Gl.go (fun _ k => XS.iloadN X17.here hx rfl (hb hby d1_16) rfl  k) ?_
      show Gl p.tables e below (QQof s (Q_un Z q1 rT rB rS rG av kA h0 n0) 1 4) (T17.setTop (mkF m 17 #[.val (.int q1), .val (.ref rG), .val (.ref b2), .val (.int (4 : Int32)), .val (.int (4 : Int32)), .val (.ref rG)] [(.int (4 : Int32)), (.int (4 : Int32))]))
      refine Gl.go (fun _ k => XS.icmpYes X17.here hx rfl (pc0 := 17) (pc' := 52) rfl (hb hby d1_17) rfl (flt (by decide)).2.1 (by decide) (by decide) k) ?_
      show Gl p.tables e below (QQof s (Q_un Z q1 rT rB rS rG av kA h0 n0) 1 4) (T17.setTop (mkF m 52 #[.val (.int q1), .val (.ref rG), .val (.ref b2), .val (.int (4 : Int32)), .val (.int (4 : Int32)), .val (.ref rG)] []))
      refine Gl.go (fun _ k => XS.aloadN X17.here hx rfl (hb hby d1_52) rfl rfl  k) ?_
      show Gl p.tables e below (QQof s (Q_un Z q1 rT rB rS rG av kA h0 n0) 1 4) (T17.setTop (mkF m 53 #[.val (.int q1), .val (.ref rG), .val (.ref b2), .val (.int (4 : Int32)), .val (.int (4 : Int32)), .val (.ref rG)] [(.ref rG)]))
      refine leafA X17 hx hlk Bd.returns rfl rfl (hb hby d1_53) ?_ (by decide) (by decide)
      rw [e17]
      exact ⟨by simp only [unA, if_neg h2, if_neg h3], N2, K2⟩
def Q_ex (Z : State) (q1 : Int32) (rB rS rG : Addr) (h0 : Heap) (n0 : Nat) (v : Option Value) (h : Heap) (L : List Loc) : Prop := v = some (.ref (unA q1 rB rS rG)) ∧ Fr n0 L ∧ h = h0
set_option maxRecDepth 65536 in
set_option maxHeartbeats 40000000 in
theorem rm_ex (l : Launch) (Z : State) (a0 : Array Value) (hw : ∀ d ∈ tables_1, d.before a0 Z = true) (ws : List Jvm.Cond) (q1 : Int32) (rB rS rG : Addr) (h0 : Heap) (n0 : Nat) (Z0 : n0 ≤ h0.size) (SB : Sta Z h0 "com/example/cornice/cornice/skyline/Generation" "BRONZE" "Lcom/example/cornice/cornice/skyline/Generation;" (.ref rB)) (SS : Sta Z h0 "com/example/cornice/cornice/skyline/Generation" "SILVER" "Lcom/example/cornice/cornice/skyline/Generation;" (.ref rS)) (SG : Sta Z h0 "com/example/cornice/cornice/skyline/Generation" "GOLD" "Lcom/example/cornice/cornice/skyline/Generation;" (.ref rG)) :
    MetFree l (⟨"com/example/cornice/cornice/skyline/GenerationUnlockedPinLaw", "expected", "(I)Lcom/example/cornice/cornice/skyline/Generation;"⟩ : MethodName) (head1 (Jvm.Cond.code (⟨"com/example/cornice/cornice/skyline/GenerationUnlockedPinLaw", "expected", "(I)Lcom/example/cornice/cornice/skyline/Generation;"⟩ : MethodName) method_2_code 1 (some (.object "com/example/cornice/cornice/skyline/Generation")) :: ws) ({ frames := 0, cells := 0, slots := 0, locals := 0 } : Room)) (fun aa U => aa = #[(.int q1)] ∧ Z.Warmed39 U.vm ∧ U.heap = h0) (fun _ _ _ _ _ => True) (fun _ U o U' => ∃ v L, o = .returned v ∧ Q_ex Z q1 rB rS rG h0 n0 v U'.heap L ∧ FrameEnd U o U' L ({ frames := 0, cells := 0, slots := 0, locals := 0 } : Room).cells ({ frames := 0, cells := 0, slots := 0, locals := 0 } : Room).slots) := by
  refine MetFree.of_bodySF (plainFor_of_name pn_1) hisR ?_
  intro p e s m args below meth c s₁ Bd hml0 hP hK
  obtain ⟨rfl, hZ, hh⟩ := hP
  have hx := Bd.exec
  have hby := Bd.bytes
  have hml : c.maxLocals = 1 := hml0
  have hown : s.vm.findClass "com/example/cornice/cornice/skyline/GenerationUnlockedPinLaw" = some m.cls := findClass_of_methodNamed Bd.named
  have hnm := (name_of_methodNamed Bd.named Bd.method).1
  have hlk : meth.locks = false := BodyLoose.notSynchronized Bd
  have X0 : Stand p l e ({ frames := 0, cells := 0, slots := 0, locals := 0 } : Room) s m #[(.int q1)] below meth c s₁ [] 0 0 := Stand.of_body Bd
  have e0 : s₁.heap = h0 := by rw [← hh, Bd.state]; rfl
  have N0 := Fr.nil n0
  have K0 : Keep h0 h0 [] := Keep.refl _ _
  show Gl p.tables e below (QQof s (Q_ex Z q1 rB rS rG h0 n0) 0 0) (s₁.setTop (entryFrame m #[(.int q1)] 1))
  refine Gl.go (fun t k => castTop (ef_ex m q1) k) ?_
  show Gl p.tables e below (QQof s (Q_ex Z q1 rB rS rG h0 n0) 0 0) (s₁.setTop (mkF m 0 #[.val (.int q1)] []))
  refine Gl.go (fun _ k => XS.iloadN X0.here hx rfl (hb hby d3_0) rfl  k) ?_
  show Gl p.tables e below (QQof s (Q_ex Z q1 rB rS rG h0 n0) 0 0) (s₁.setTop (mkF m 1 #[.val (.int q1)] [(.int q1)]))
  refine Gl.go (fun _ k => XS.bipush X0.here hx rfl (hb hby d3_1) k) ?_
  show Gl p.tables e below (QQof s (Q_ex Z q1 rB rS rG h0 n0) 0 0) (s₁.setTop (mkF m 3 #[.val (.int q1)] [(.int (18 : Int32)), (.int q1)]))
  by_cases h3 : q1 < (18 : Int32)
  · skip
    refine Gl.go (fun _ k => XS.icmpYes X0.here hx rfl (pc0 := 3) (pc' := 10) rfl (hb hby d3_3) rfl (tlt h3).1 (by decide) (by decide) k) ?_
    show Gl p.tables e below (QQof s (Q_ex Z q1 rB rS rG h0 n0) 0 0) (s₁.setTop (mkF m 10 #[.val (.int q1)] []))
    refine Gl.go (fun _ k => XS.iloadN X0.here hx rfl (hb hby d3_10) rfl  k) ?_
    show Gl p.tables e below (QQof s (Q_ex Z q1 rB rS rG h0 n0) 0 0) (s₁.setTop (mkF m 11 #[.val (.int q1)] [(.int q1)]))
    refine Gl.go (fun _ k => XS.bipush X0.here hx rfl (hb hby d3_11) k) ?_
    show Gl p.tables e below (QQof s (Q_ex Z q1 rB rS rG h0 n0) 0 0) (s₁.setTop (mkF m 13 #[.val (.int q1)] [(.int (6 : Int32)), (.int q1)]))
    by_cases h13 : q1 < (6 : Int32)
    · skip
      refine Gl.go (fun _ k => XS.icmpYes X0.here hx rfl (pc0 := 13) (pc' := 20) rfl (hb hby d3_13) rfl (tlt h13).1 (by decide) (by decide) k) ?_
      show Gl p.tables e below (QQof s (Q_ex Z q1 rB rS rG h0 n0) 0 0) (s₁.setTop (mkF m 20 #[.val (.int q1)] []))
      obtain ⟨T1, X1, e1, st1⟩ := getS2 X0 hx hZ hown (host := "") (Or.inl (hw _ (List.mem_of_getElem? (i := 32) rfl))) Via.refl e0 SB (g := (mkF m 20 #[.val (.int q1)] [])) rfl (hb hby d3_20)
      refine Gl.go (fun _ k => st1 _ k) ?_
      show Gl p.tables e below (QQof s (Q_ex Z q1 rB rS rG h0 n0) 0 0) (T1.setTop (mkF m 23 #[.val (.int q1)] [(.ref rB)]))
      refine leafA X1 hx hlk Bd.returns rfl rfl (hb hby d3_23) ?_ (by decide) (by decide)
      exact ⟨by rw [unA, if_pos h3, if_pos h13], N0, e1⟩
    · skip
      refine Gl.go (fun _ k => XS.icmpNo X0.here hx rfl (hb hby d3_13) rfl (flt h13).1 k) ?_
      show Gl p.tables e below (QQof s (Q_ex Z q1 rB rS rG h0 n0) 0 0) (s₁.setTop (mkF m 16 #[.val (.int q1)] []))
      obtain ⟨T2, X2, e2, st2⟩ := getS2 X0 hx hZ hown (host := "") (Or.inl (hw _ (List.mem_of_getElem? (i := 34) rfl))) Via.refl e0 SS (g := (mkF m 16 #[.val (.int q1)] [])) rfl (hb hby d3_16)
      refine Gl.go (fun _ k => st2 _ k) ?_
      show Gl p.tables e below (QQof s (Q_ex Z q1 rB rS rG h0 n0) 0 0) (T2.setTop (mkF m 19 #[.val (.int q1)] [(.ref rS)]))
      refine leafA X2 hx hlk Bd.returns rfl rfl (hb hby d3_19) ?_ (by decide) (by decide)
      exact ⟨by rw [unA, if_pos h3, if_neg h13], N0, e2⟩
  · skip
    refine Gl.go (fun _ k => XS.icmpNo X0.here hx rfl (hb hby d3_3) rfl (flt h3).1 k) ?_
    show Gl p.tables e below (QQof s (Q_ex Z q1 rB rS rG h0 n0) 0 0) (s₁.setTop (mkF m 6 #[.val (.int q1)] []))
    obtain ⟨T3, X3, e3, st3⟩ := getS2 X0 hx hZ hown (host := "") (Or.inl (hw _ (List.mem_of_getElem? (i := 35) rfl))) Via.refl e0 SG (g := (mkF m 6 #[.val (.int q1)] [])) rfl (hb hby d3_6)
    refine Gl.go (fun _ k => st3 _ k) ?_
    show Gl p.tables e below (QQof s (Q_ex Z q1 rB rS rG h0 n0) 0 0) (T3.setTop (mkF m 9 #[.val (.int q1)] [(.ref rG)]))
    refine leafA X3 hx hlk Bd.returns rfl rfl (hb hby d3_9) ?_ (by decide) (by decide)
    exact ⟨by rw [unA, if_neg h3], N0, e3⟩
def Q_law (Z : State) (a b : Int32) (rT rB rS rG av : Addr) (kA : ClassId) (h0 : Heap) (n0 : Nat) (v : Option Value) (h : Heap) (L : List Loc) : Prop := v = some (.int 1) ∧ Fr n0 L
set_option maxRecDepth 65536 in
set_option maxHeartbeats 40000000 in
theorem rm_law (l : Launch) (Z : State) (a0 : Array Value) (hw : ∀ d ∈ tables_1, d.before a0 Z = true) (ws : List Jvm.Cond) (a b : Int32) (rT rB rS rG av : Addr) (kA : ClassId) (h0 : Heap) (n0 : Nat) (Z0 : n0 ≤ h0.size) (ST : Sta Z h0 "com/example/cornice/cornice/skyline/Generation" "START" "Lcom/example/cornice/cornice/skyline/Generation;" (.ref rT)) (SB : Sta Z h0 "com/example/cornice/cornice/skyline/Generation" "BRONZE" "Lcom/example/cornice/cornice/skyline/Generation;" (.ref rB)) (SS : Sta Z h0 "com/example/cornice/cornice/skyline/Generation" "SILVER" "Lcom/example/cornice/cornice/skyline/Generation;" (.ref rS)) (SG : Sta Z h0 "com/example/cornice/cornice/skyline/Generation" "GOLD" "Lcom/example/cornice/cornice/skyline/Generation;" (.ref rG)) (SV : Sta Z h0 "com/example/cornice/cornice/skyline/Generation" "$VALUES" "[Lcom/example/cornice/cornice/skyline/Generation;" (.ref av)) (V0 : Arv Z h0 av kA (.object "com/example/cornice/cornice/skyline/Generation") (4 : Int32) [(.ref rT), (.ref rB), (.ref rS), (.ref rG)] .null) (EV : Exa Z h0 av "[Lcom/example/cornice/cornice/skyline/Generation;") (FB : Fld Z h0 rB "com/example/cornice/cornice/skyline/Generation" "unlockedAt" "I" (.int (0 : Int32))) (FS : Fld Z h0 rS "com/example/cornice/cornice/skyline/Generation" "unlockedAt" "I" (.int (6 : Int32))) (FG : Fld Z h0 rG "com/example/cornice/cornice/skyline/Generation" "unlockedAt" "I" (.int (18 : Int32))) (nB : rB ≠ rT) (nS : rS ≠ rT) (nG : rG ≠ rT) :
    MetFree l x (head1 (Jvm.Cond.code x code maxLocals ret :: ws) room_1) (fun aa U => aa = #[(.int a), (.int b)] ∧ Z.Warmed39 U.vm ∧ U.heap = h0) (fun _ _ _ _ _ => True) (fun _ U o U' => ∃ v L, o = .returned v ∧ Q_law Z a b rT rB rS rG av kA h0 n0 v U'.heap L ∧ FrameEnd U o U' L 1 4) := by
  refine MetFree.of_bodySF (plainFor_of_name pn_1) hisR ?_
  intro p e s m args below meth c s₁ Bd hml0 hP hK
  obtain ⟨rfl, hZ, hh⟩ := hP
  have hx := Bd.exec
  have hby := Bd.bytes
  have hml : c.maxLocals = 4 := hml0
  have hown : s.vm.findClass "com/example/cornice/cornice/skyline/GenerationUnlockedPinLaw" = some m.cls := findClass_of_methodNamed Bd.named
  have hnm := (name_of_methodNamed Bd.named Bd.method).1
  have hlk : meth.locks = false := BodyLoose.notSynchronized Bd
  have X0 : Stand p l e room_1 s m #[(.int a), (.int b)] below meth c s₁ [] 0 0 := Stand.of_body Bd
  have e0 : s₁.heap = h0 := by rw [← hh, Bd.state]; rfl
  have N0 := Fr.nil n0
  have K0 : Keep h0 h0 [] := Keep.refl _ _
  show Gl p.tables e below (QQof s (Q_law Z a b rT rB rS rG av kA h0 n0) 1 4) (s₁.setTop (entryFrame m #[(.int a), (.int b)] maxLocals))
  refine Gl.go (fun t k => castTop (ef_law m a b) k) ?_
  show Gl p.tables e below (QQof s (Q_law Z a b rT rB rS rG av kA h0 n0) 1 4) (s₁.setTop (mkF m 0 #[.val (.int a), .val (.int b), .unset, .unset] []))
  refine Gl.go (fun _ k => XS.iloadN X0.here hx rfl (hb hby at_0) rfl  k) ?_
  show Gl p.tables e below (QQof s (Q_law Z a b rT rB rS rG av kA h0 n0) 1 4) (s₁.setTop (mkF m 1 #[.val (.int a), .val (.int b), .unset, .unset] [(.int b)]))
  refine Gl.go (fun _ k => XS.iconst X0.here hx rfl (hb hby at_1) k) ?_
  show Gl p.tables e below (QQof s (Q_law Z a b rT rB rS rG av kA h0 n0) 1 4) (s₁.setTop (mkF m 2 #[.val (.int a), .val (.int b), .unset, .unset] [(.int (1 : Int32)), (.int b)]))
  refine Gl.go (fun _ k => XS.iand X0.here hx rfl (hb hby at_2) rfl k) ?_
  show Gl p.tables e below (QQof s (Q_law Z a b rT rB rS rG av kA h0 n0) 1 4) (s₁.setTop (mkF m 3 #[.val (.int a), .val (.int b), .unset, .unset] [(.int (b &&& (1 : Int32)))]))
  have D3_1 : ∀ t, Steps p.tables e below (s₁.setTop (mkF m 19 #[.val (.int a), .val (.int b), .val (.int (if (b &&& (1 : Int32)) = (0 : Int32) then (a &&& (31 : Int32)) else (a &&& (2147483647 : Int32)))), .unset] [])) t → Steps p.tables e below (s₁.setTop (mkF m 3 #[.val (.int a), .val (.int b), .unset, .unset] [(.int (b &&& (1 : Int32)))])) t := by
    intro t k
    show Steps p.tables e below (s₁.setTop (mkF m 3 #[.val (.int a), .val (.int b), .unset, .unset] [(.int (b &&& (1 : Int32)))])) _
    by_cases hd3_2 : (b &&& (1 : Int32)) = (0 : Int32)
    · skip
      refine XS.ifYes X0.here hx rfl (pc0 := 3) (pc' := 14) rfl (hb hby at_3) rfl ((if0 _ _).trans (teq hd3_2).1) (by decide) (by decide) ?_
      show Steps p.tables e below (s₁.setTop (mkF m 14 #[.val (.int a), .val (.int b), .unset, .unset] [])) _
      refine XS.iloadN X0.here hx rfl (hb hby at_14) rfl  ?_
      show Steps p.tables e below (s₁.setTop (mkF m 15 #[.val (.int a), .val (.int b), .unset, .unset] [(.int a)])) _
      refine XS.bipush X0.here hx rfl (hb hby at_15) ?_
      show Steps p.tables e below (s₁.setTop (mkF m 17 #[.val (.int a), .val (.int b), .unset, .unset] [(.int (31 : Int32)), (.int a)])) _
      refine XS.iand X0.here hx rfl (hb hby at_17) rfl ?_
      show Steps p.tables e below (s₁.setTop (mkF m 18 #[.val (.int a), .val (.int b), .unset, .unset] [(.int (a &&& (31 : Int32)))])) _
      refine XS.istoreN X0.here hx rfl (hb hby at_18) rfl (l' := #[.val (.int a), .val (.int b), .val (.int (a &&& (31 : Int32))), .unset]) rfl ?_
      show Steps p.tables e below (s₁.setTop (mkF m 19 #[.val (.int a), .val (.int b), .val (.int (a &&& (31 : Int32))), .unset] [])) _
      simp only [if_pos hd3_2] at k
      exact k
    · skip
      refine XS.ifNo X0.here hx rfl (hb hby at_3) rfl ((if0 _ _).trans (feq hd3_2).1) ?_
      show Steps p.tables e below (s₁.setTop (mkF m 6 #[.val (.int a), .val (.int b), .unset, .unset] [])) _
      refine XS.iloadN X0.here hx rfl (hb hby at_6) rfl  ?_
      show Steps p.tables e below (s₁.setTop (mkF m 7 #[.val (.int a), .val (.int b), .unset, .unset] [(.int a)])) _
      refine X0.ldcInt hx hown (mvT hZ (hw _ (List.mem_of_getElem? (i := 0) rfl))) (g := (mkF m 7 #[.val (.int a), .val (.int b), .unset, .unset] [(.int a)])) rfl (hb hby at_7) _ ?_
      show Steps p.tables e below (s₁.setTop (mkF m 9 #[.val (.int a), .val (.int b), .unset, .unset] [(.int (2147483647 : Int32)), (.int a)])) _
      refine XS.iand X0.here hx rfl (hb hby at_9) rfl ?_
      show Steps p.tables e below (s₁.setTop (mkF m 10 #[.val (.int a), .val (.int b), .unset, .unset] [(.int (a &&& (2147483647 : Int32)))])) _
      refine XS.istoreN X0.here hx rfl (hb hby at_10) rfl (l' := #[.val (.int a), .val (.int b), .val (.int (a &&& (2147483647 : Int32))), .unset]) rfl ?_
      show Steps p.tables e below (s₁.setTop (mkF m 11 #[.val (.int a), .val (.int b), .val (.int (a &&& (2147483647 : Int32))), .unset] [])) _
      refine XS.goto X0.here hx rfl (pc0 := 11) (pc' := 19) rfl (hb hby at_11) (by decide) (by decide) ?_
      show Steps p.tables e below (s₁.setTop (mkF m 19 #[.val (.int a), .val (.int b), .val (.int (a &&& (2147483647 : Int32))), .unset] [])) _
      simp only [if_neg hd3_2] at k
      exact k
  refine Gl.go (fun _ k => D3_1 _ k) ?_
  show Gl p.tables e below (QQof s (Q_law Z a b rT rB rS rG av kA h0 n0) 1 4) (s₁.setTop (mkF m 19 #[.val (.int a), .val (.int b), .val (.int (if (b &&& (1 : Int32)) = (0 : Int32) then (a &&& (31 : Int32)) else (a &&& (2147483647 : Int32)))), .unset] []))
  have hp := own_pos a b
  generalize h_cd : (if (b &&& (1 : Int32)) = (0 : Int32) then (a &&& (31 : Int32)) else (a &&& (2147483647 : Int32))) = cd at hp ⊢
  show Gl p.tables e below (QQof s (Q_law Z a b rT rB rS rG av kA h0 n0) 1 4) (s₁.setTop (mkF m 19 #[.val (.int a), .val (.int b), .val (.int cd), .unset] []))
  refine Gl.go (fun _ k => XS.iloadN X0.here hx rfl (hb hby at_19) rfl  k) ?_
  show Gl p.tables e below (QQof s (Q_law Z a b rT rB rS rG av kA h0 n0) 1 4) (s₁.setTop (mkF m 20 #[.val (.int a), .val (.int b), .val (.int cd), .unset] [(.int cd)]))
  obtain ⟨_, _, ⟨T3, L3, k3, n3⟩, -, X3, ⟨Lc3, hQ3, l3, y3, z3⟩, st3⟩ := Jvm.LawKit.callS X0 hx (y := (⟨"com/example/cornice/cornice/skyline/Generation", "unlocked", "(I)Lcom/example/cornice/cornice/skyline/Generation;"⟩ : MethodName)) hown (mvT hZ (hw _ (List.mem_of_getElem? (i := 1) rfl))) (mvT hZ (hw _ (List.mem_of_getElem? (i := 2) rfl))) (mvT hZ (hw _ (List.mem_of_getElem? (i := 3) rfl))) (mvT hZ (hw _ (List.mem_of_getElem? (i := 4) rfl))) (by decide) (backOf (W := 0) (rm_un l Z a0 hw [] cd rT rB rS rG av kA h0 n0 Z0 hp ST SB SV V0 EV FB FS FG nB nS nG) hZ (hw _ (List.mem_of_getElem? (i := 4) rfl)) (hw _ (List.mem_of_getElem? (i := 3) rfl)) (by decide) (by decide)) (g := (mkF m 20 #[.val (.int a), .val (.int b), .val (.int cd), .unset] [(.int cd)])) rfl (by rw [hml]; rfl) (argsL := [(.int cd)]) (rest := []) (lenOf pd_1 rfl) rfl (by show 2 * 0 + _ ≤ _; exact Nat.le_of_eq rfl) (hb hby at_20) (fun _ _ => ⟨rfl, e0, (by decide : 0 + 1 ≤ _), (by decide : 0 + 4 ≤ _)⟩)
  dsimp only [Pt.U, Pt.locs, Pt.cells, Pt.slots] at X3 l3 y3 z3 st3 hQ3
  subst l3 y3 z3
  obtain ⟨rfl, Nq3, Kc3⟩ := hQ3
  have N3 := Fr.app N0 Nq3
  refine Gl.go (fun _ k => st3 _ k) ?_
  have Ex3 := ext_of_keep Kc3
  have S_Generation_START_3 : Sta Z T3.heap "com/example/cornice/cornice/skyline/Generation" "START" "Lcom/example/cornice/cornice/skyline/Generation;" (.ref rT) := ST.ext Ex3
  have S_Generation_BRONZE_3 : Sta Z T3.heap "com/example/cornice/cornice/skyline/Generation" "BRONZE" "Lcom/example/cornice/cornice/skyline/Generation;" (.ref rB) := SB.ext Ex3
  have S_Generation_SILVER_3 : Sta Z T3.heap "com/example/cornice/cornice/skyline/Generation" "SILVER" "Lcom/example/cornice/cornice/skyline/Generation;" (.ref rS) := SS.ext Ex3
  have S_Generation_GOLD_3 : Sta Z T3.heap "com/example/cornice/cornice/skyline/Generation" "GOLD" "Lcom/example/cornice/cornice/skyline/Generation;" (.ref rG) := SG.ext Ex3
  have SZ3 : n0 ≤ T3.heap.size := Nat.le_trans Z0 Ex3.1
  have K3 : Keep h0 T3.heap [] := K0.ext Ex3
  show Gl p.tables e below (QQof s (Q_law Z a b rT rB rS rG av kA h0 n0) 1 4) (T3.setTop (mkF m 23 #[.val (.int a), .val (.int b), .val (.int cd), .unset] [(.ref (unA cd rB rS rG))]))
  refine Gl.go (fun _ k => XS.astoreN X3.here hx rfl (hb hby at_23) rfl rfl (l' := #[.val (.int a), .val (.int b), .val (.int cd), .val (.ref (unA cd rB rS rG))]) rfl k) ?_
  show Gl p.tables e below (QQof s (Q_law Z a b rT rB rS rG av kA h0 n0) 1 4) (T3.setTop (mkF m 24 #[.val (.int a), .val (.int b), .val (.int cd), .val (.ref (unA cd rB rS rG))] []))
  refine Gl.go (fun _ k => XS.aloadN X3.here hx rfl (hb hby at_24) rfl rfl  k) ?_
  show Gl p.tables e below (QQof s (Q_law Z a b rT rB rS rG av kA h0 n0) 1 4) (T3.setTop (mkF m 25 #[.val (.int a), .val (.int b), .val (.int cd), .val (.ref (unA cd rB rS rG))] [(.ref (unA cd rB rS rG))]))
  refine Gl.go (fun _ k => XS.iloadN X3.here hx rfl (hb hby at_25) rfl  k) ?_
  show Gl p.tables e below (QQof s (Q_law Z a b rT rB rS rG av kA h0 n0) 1 4) (T3.setTop (mkF m 26 #[.val (.int a), .val (.int b), .val (.int cd), .val (.ref (unA cd rB rS rG))] [(.int cd), (.ref (unA cd rB rS rG))]))
  obtain ⟨_, _, ⟨T4, L4, k4, n4⟩, -, X4, ⟨Lc4, hQ4, l4, y4, z4⟩, st4⟩ := Jvm.LawKit.callS X3 hx (y := (⟨"com/example/cornice/cornice/skyline/GenerationUnlockedPinLaw", "expected", "(I)Lcom/example/cornice/cornice/skyline/Generation;"⟩ : MethodName)) hown (mvT hZ (hw _ (List.mem_of_getElem? (i := 28) rfl))) (mvT hZ (hw _ (List.mem_of_getElem? (i := 29) rfl))) (mvT hZ (hw _ (List.mem_of_getElem? (i := 30) rfl))) (mvT hZ (hw _ (List.mem_of_getElem? (i := 31) rfl))) (by decide) (backOf (W := 1) (rm_ex l Z a0 hw [] cd rB rS rG T3.heap n0 SZ3 S_Generation_BRONZE_3 S_Generation_SILVER_3 S_Generation_GOLD_3) hZ (hw _ (List.mem_of_getElem? (i := 31) rfl)) (hw _ (List.mem_of_getElem? (i := 30) rfl)) (by decide) (by decide)) (g := (mkF m 26 #[.val (.int a), .val (.int b), .val (.int cd), .val (.ref (unA cd rB rS rG))] [(.int cd), (.ref (unA cd rB rS rG))])) rfl (by rw [hml]; rfl) (argsL := [(.int cd)]) (rest := [(.ref (unA cd rB rS rG))]) (lenOf pd_1 rfl) rfl (by show 2 * 0 + _ ≤ _; exact Nat.le_of_eq rfl) (hb hby at_26) (fun _ _ => ⟨rfl, rfl, (by decide : 1 + 0 ≤ _), (by decide : 4 + 0 ≤ _)⟩)
  dsimp only [Pt.U, Pt.locs, Pt.cells, Pt.slots] at X4 l4 y4 z4 st4 hQ4
  subst l4 y4 z4
  obtain ⟨rfl, Nq4, e4⟩ := hQ4
  have N4 := Fr.app N3 Nq4
  refine Gl.go (fun _ k => st4 _ k) ?_
  show Gl p.tables e below (QQof s (Q_law Z a b rT rB rS rG av kA h0 n0) 1 4) (T4.setTop (mkF m 29 #[.val (.int a), .val (.int b), .val (.int cd), .val (.ref (unA cd rB rS rG))] [(.ref (unA cd rB rS rG)), (.ref (unA cd rB rS rG))]))
  refine Gl.go (fun _ k => Jvm.RoadKit.acmp (g := (mkF m 29 #[.val (.int a), .val (.int b), .val (.int cd), .val (.ref (unA cd rB rS rG))] [(.ref (unA cd rB rS rG)), (.ref (unA cd rB rS rG))])) X4 hx rfl rfl rfl (pc0 := 29) (pc' := 32) (same := true) rfl (hb hby at_29) rfl (decide_eq_true (congrArg Value.ref (rfl : unA cd rB rS rG = unA cd rB rS rG))) (by decide) (by decide) k) ?_
  show Gl p.tables e below (QQof s (Q_law Z a b rT rB rS rG av kA h0 n0) 1 4) (T4.setTop (mkF m 32 #[.val (.int a), .val (.int b), .val (.int cd), .val (.ref (unA cd rB rS rG))] []))
  refine Gl.go (fun _ k => XS.aloadN X4.here hx rfl (hb hby at_32) rfl rfl  k) ?_
  show Gl p.tables e below (QQof s (Q_law Z a b rT rB rS rG av kA h0 n0) 1 4) (T4.setTop (mkF m 33 #[.val (.int a), .val (.int b), .val (.int cd), .val (.ref (unA cd rB rS rG))] [(.ref (unA cd rB rS rG))]))
  obtain ⟨T5, X5, e5, st5⟩ := getS2 X4 hx hZ hown (host := "") (Or.inl (hw _ (List.mem_of_getElem? (i := 33) rfl))) Via.refl e4 S_Generation_START_3 (g := (mkF m 33 #[.val (.int a), .val (.int b), .val (.int cd), .val (.ref (unA cd rB rS rG))] [(.ref (unA cd rB rS rG))])) rfl (hb hby at_33)
  refine Gl.go (fun _ k => st5 _ k) ?_
  show Gl p.tables e below (QQof s (Q_law Z a b rT rB rS rG av kA h0 n0) 1 4) (T5.setTop (mkF m 36 #[.val (.int a), .val (.int b), .val (.int cd), .val (.ref (unA cd rB rS rG))] [(.ref rT), (.ref (unA cd rB rS rG))]))
  refine Gl.go (fun _ k => Jvm.RoadKit.acmp (g := (mkF m 36 #[.val (.int a), .val (.int b), .val (.int cd), .val (.ref (unA cd rB rS rG))] [(.ref rT), (.ref (unA cd rB rS rG))])) X5 hx rfl rfl rfl (pc0 := 36) (pc' := 39) (same := false) rfl (hb hby at_36) rfl (decide_eq_false fun q => (own_ne nB nS nG) (Value.ref.inj q)) (by decide) (by decide) k) ?_
  show Gl p.tables e below (QQof s (Q_law Z a b rT rB rS rG av kA h0 n0) 1 4) (T5.setTop (mkF m 39 #[.val (.int a), .val (.int b), .val (.int cd), .val (.ref (unA cd rB rS rG))] []))
  refine Gl.go (fun _ k => XS.iconst X5.here hx rfl (hb hby at_39) k) ?_
  show Gl p.tables e below (QQof s (Q_law Z a b rT rB rS rG av kA h0 n0) 1 4) (T5.setTop (mkF m 40 #[.val (.int a), .val (.int b), .val (.int cd), .val (.ref (unA cd rB rS rG))] [(.int (1 : Int32))]))
  refine Gl.go (fun _ k => XS.goto X5.here hx rfl (pc0 := 40) (pc' := 44) rfl (hb hby at_40) (by decide) (by decide) k) ?_
  show Gl p.tables e below (QQof s (Q_law Z a b rT rB rS rG av kA h0 n0) 1 4) (T5.setTop (mkF m 44 #[.val (.int a), .val (.int b), .val (.int cd), .val (.ref (unA cd rB rS rG))] [(.int (1 : Int32))]))
  refine leafN X5 hx hlk (t := .boolean) Bd.returns (by simp) (hb hby at_44) ?_ (by decide) (by decide)
  exact ⟨rfl, N4⟩
set_option maxRecDepth 65536 in
set_option maxHeartbeats 40000000 in
theorem comes_1 {Post : Tables → Env → Array Value → State → Outcome → State → Prop} (hpost : ∀ tb e args s v u, (limb_1_1.after args s (.returned v) u = true ∧ limb_1_2.after args s (.returned v) u = true ∧ True) → FrameEnd s (.returned v) u (Jvm.fieldLocs frame_1_writes args s ++ Jvm.arrayLocs frame_1_arrays args s ++ Jvm.staticLocs frame_1_statics s) 16 128 → Post tb e args s (.returned v) u) :
    ArmFor flags0 classFile x code maxLocals ret World_1 tables_1 room_1 Calls_1 rest_1 Pre_1 Post := by
  intro l hfl _ _ p e ha hc hk s m args below hf hA hF happ hP
  obtain ⟨hcalls, hrest, hpre⟩ := hP
  obtain ⟨-, -, -, hnamed, -, -, -, hat⟩ := (Spec.applies_iff hf).mp happ
  obtain ⟨hg, hn⟩ := and_e (Cond.before_iff.mp (show (Jvm.Cond.and given_1 narrow_1).before args s = true from hpre))
  obtain ⟨hcount, hg0⟩ := and_e hg
  obtain ⟨hk0, hg1⟩ := and_e hg0
  have hk1 := hg1
  obtain ⟨w0, w1, rfl⟩ : ∃ w0 w1 : Value, args = #[w0, w1] := by
    have hs : args.size = 2 := by simpa [Cond.value, given_1] using hcount
    obtain ⟨L⟩ := args
    match L, hs with
    | [w0, w1], _ => exact ⟨w0, w1, rfl⟩
  have hw := fun d (hd : d ∈ tables_1) => atoms_spec (ws := Jvm.Cond.code x code maxLocals ret :: tables_1) hat d (List.mem_cons_of_mem _ hd)
  have hfit : Fit s := fun {y c} hc i hi => by
    obtain ⟨ha, rfl⟩ := Array.getElem?_eq_some_iff.mp hc
    have q := List.all_eq_true.mp ((Array.all_eq_true_iff_forall_mem.mp hF) _ (Array.getElem_mem ha)) i (List.mem_range.mpr hi)
    simpa [Array.getElem?_eq_getElem hi] using q
  obtain ⟨i0, ei0⟩ := is_v hk0
  obtain rfl : w0 = (.int i0) := Option.some.inj ei0
  obtain ⟨i1, ei1⟩ := is_v hk1
  obtain rfl : w1 = (.int i1) := Option.some.inj ei1
  obtain ⟨xB, hn⟩ := and_e hn
  obtain ⟨xV1, hn⟩ := and_e hn
  obtain ⟨xV2, hn⟩ := and_e hn
  obtain ⟨xVl, hn⟩ := and_e hn
  obtain ⟨xT, hn⟩ := and_e hn
  obtain ⟨x0, hn⟩ := and_e hn
  obtain ⟨x1, hn⟩ := and_e hn
  obtain ⟨xS, hn⟩ := and_e hn
  obtain ⟨x2, hn⟩ := and_e hn
  obtain ⟨xG, hn⟩ := and_e hn
  obtain ⟨x3, hn⟩ := and_e hn
  obtain ⟨oB, hn⟩ := and_e hn
  obtain ⟨oT, hn⟩ := and_e hn
  obtain ⟨uB, hn⟩ := and_e hn
  obtain ⟨oS, hn⟩ := and_e hn
  obtain ⟨uS, hn⟩ := and_e hn
  obtain ⟨oG, hn⟩ := and_e hn
  obtain ⟨uG, hn⟩ := and_e hn
  have uT := hn
  obtain ⟨rT, evT⟩ := exa_v xT
  have ST : Sta s s.heap "com/example/cornice/cornice/skyline/Generation" "START" "Lcom/example/cornice/cornice/skyline/Generation;" (.ref rT) := Sta.start evT (Or.inr ⟨(hw _ (List.mem_of_getElem? (i := 3) rfl)), (hw _ (List.mem_of_getElem? (i := 19) rfl))⟩)
  have OT := fld_int evT oT
  have FT := fld_int evT uT
  obtain ⟨rB, evB⟩ := exa_v xB
  have SB : Sta s s.heap "com/example/cornice/cornice/skyline/Generation" "BRONZE" "Lcom/example/cornice/cornice/skyline/Generation;" (.ref rB) := Sta.start evB (Or.inr ⟨(hw _ (List.mem_of_getElem? (i := 3) rfl)), (hw _ (List.mem_of_getElem? (i := 6) rfl))⟩)
  have OB := fld_int evB oB
  have FB := fld_int evB uB
  obtain ⟨rS, evS⟩ := exa_v xS
  have SS : Sta s s.heap "com/example/cornice/cornice/skyline/Generation" "SILVER" "Lcom/example/cornice/cornice/skyline/Generation;" (.ref rS) := Sta.start evS (Or.inr ⟨(hw _ (List.mem_of_getElem? (i := 3) rfl)), (hw _ (List.mem_of_getElem? (i := 20) rfl))⟩)
  have OS := fld_int evS oS
  have FS := fld_int evS uS
  obtain ⟨rG, evG⟩ := exa_v xG
  have SG : Sta s s.heap "com/example/cornice/cornice/skyline/Generation" "GOLD" "Lcom/example/cornice/cornice/skyline/Generation;" (.ref rG) := Sta.start evG (Or.inr ⟨(hw _ (List.mem_of_getElem? (i := 3) rfl)), (hw _ (List.mem_of_getElem? (i := 21) rfl))⟩)
  have OG := fld_int evG oG
  have FG := fld_int evG uG
  obtain ⟨av, evV⟩ := exa_v xV2
  have SV : Sta s s.heap "com/example/cornice/cornice/skyline/Generation" "$VALUES" "[Lcom/example/cornice/cornice/skyline/Generation;" (.ref av) := Sta.start evV (Or.inr ⟨(hw _ (List.mem_of_getElem? (i := 3) rfl)), (hw _ (List.mem_of_getElem? (i := 11) rfl))⟩)
  have EV : Exa s s.heap av "[Lcom/example/cornice/cornice/skyline/Generation;" := Exa.start evV xV2
  obtain ⟨cl, Ar⟩ := Arr.start evV xV1
  obtain ⟨l1, l2⟩ := arr_len evV Ar xVl
  have y0 := arr_elem evV Ar (ref_at evT x0)
  have y1 := arr_elem evV Ar (ref_at evB x1)
  have y2 := arr_elem evV Ar (ref_at evS x2)
  have y3 := arr_elem evV Ar (ref_at evG x3)
  have V0 := Arv.start (vs := [(.ref rT), (.ref rB), (.ref rS), (.ref rG)]) (dv := .null) hfit Ar l1 l2 (by decide) rfl ⟨y0, y1, y2, y3, trivial⟩
  obtain ⟨n, o, h1, h2, h3, _, L, rfl, ⟨rfl, N⟩, hq⟩ := rm_law l s _ hw tables_1 i0 i1 rT rB rS rG av cl.cls s.heap s.heap.size (Nat.le_refl _) ST SB SS SG SV V0 EV FB FS FG (Fld.ne OB OT (by decide)) (Fld.ne OS OT (by decide)) (Fld.ne OG OT (by decide)) p e ha hc hk s m _ below hf ((Spec.applies_iff_loose hf).mp happ).1 ⟨rfl, State.Warmed39.refl s, rfl⟩ trivial
  refine ⟨n, _, h1, h2, h3, hpost _ _ _ _ _ _ ⟨Cond.after_iff.mpr rfl, Cond.after_iff.mpr (eq_i res_at (Term.int_eval (1)) rfl), trivial⟩ ⟨hq.1, hq.2.1, (hq.2.2.sift fun y hy => Or.inr (N y hy)).mono (by decide) (by decide)⟩⟩
theorem main_1_1 : Claimed_1_1 := comes_1 fun _ _ _ _ _ _ h hF => ⟨h.1, hF⟩
theorem main_1_2 : Claimed_1_2 := comes_1 fun _ _ _ _ _ _ h hF => ⟨h.2.1, hF⟩
end Jvm.Pilot.@@N@@
namespace Jvm.Pilot.@@N@@
open Jvm Jvm.ClassFile Sem Op Lib Jvm.Free Jvm.Stand Jvm.Pilot.@@N@@.Jvm.D
/-! MADE BY PROGRAM (witnessworld.py) out of the Statement's table words and the real class files: 13 classes; the members and pool entries that the words name. The judged class is class 1, her method 2. -/
namespace start1
open Jvm.ClassFile
def u (s : String) : CpInfo := .utf8 (stringToUtf16 s)
/-- a pool by its gaps: so many unusable entries, then the entry; so many at the end -/
def gap : Nat → List CpInfo → List CpInfo
  | 0, r => r
  | n + 1, r => .unusable :: gap n r
def poolList (es : List (Nat × CpInfo)) (last : Nat) : List CpInfo := es.foldr (fun e r => gap e.1 (e.2 :: r)) (gap last [])
def pool (es : List (Nat × CpInfo)) (last : Nat) : Array CpInfo := ⟨poolList es last⟩
def fileOf (pool : Array CpInfo) (this : Nat) (attrs : Array Attribute := #[]) (ms : Array MethodInfo := #[]) (fl : Nat := 33) (sup : Nat := 0) (ifs : Array Nat := #[]) (fds : Array FieldInfo := #[]) : ClassFile where
  minorVersion := 0
  majorVersion := 65
  constantPool := pool
  accessFlags := fl
  thisClass := this
  superClass := sup
  interfaces := ifs
  fields := fds
  methods := ms
  attributes := attrs
def plain (name : String) (sup : Option ClassId) : Class where
  name := name
  kind := .ordinary
  loader := none
  accessFlags := 33
  super := sup
  interfaces := #[]
  cf := none
  fields := #[]
  methods := #[]
  instanceTypes := #[]
  staticTypes := #[]
  resolved := #[]
  callSites := []
  init := .initialized
  statics := none
  mirror := none

def pool0 : Array CpInfo := pool [(5, u "<init>"), (0, u "()V"), (1, .class_ 10), (1, u "java/lang/Object"), (85, u "clone"), (0, u "()Ljava/lang/Object;")] 26

def k0m0 : Method := { name := "<init>", desc := "()V", sig := { parameters := [], returnType := none }, accessFlags := 1, code := none }
def k0m1 : Method := { name := "clone", desc := "()Ljava/lang/Object;", sig := { parameters := [], returnType := some (.object "java/lang/Object") }, accessFlags := 260, code := none }
/-- java/lang/Object -/
def k0 : Class := { plain "java/lang/Object" none with
  accessFlags := 33
  interfaces := #[]
  cf := some (fileOf pool0 8 #[] #[{ accessFlags := 1, nameIndex := 5, descriptorIndex := 6, attributes := #[] }, { accessFlags := 260, nameIndex := 96, descriptorIndex := 97, attributes := #[] }] 33 0 #[] #[])
  fields := #[]
  methods := #[k0m0, k0m1]
  instanceTypes := #[]
  staticTypes := #[]
  resolved := Array.replicate 124 none
  statics := none }

def pool1 : Array CpInfo := pool [(2, .class_ 4), (1, u "java/lang/Object"), (0, u "<init>"), (0, u "()V"), (0, .fieldref 8 9), (0, .class_ 10), (0, .nameAndType 11 12), (0, u "com/example/cornice/cornice/skyline/Generation"), (0, u "GOLD"), (0, u "Lcom/example/cornice/cornice/skyline/Generation;"), (0, .fieldref 8 14), (0, .nameAndType 15 12), (0, u "SILVER"), (0, .fieldref 8 17), (0, .nameAndType 18 12), (0, u "BRONZE"), (0, .integer 2147483647), (0, .methodref 8 21), (0, .nameAndType 22 23), (0, u "unlocked"), (0, u "(I)Lcom/example/cornice/cornice/skyline/Generation;"), (0, .methodref 25 26), (0, .class_ 27), (0, .nameAndType 28 23), (0, u "com/example/cornice/cornice/skyline/GenerationUnlockedPinLaw"), (0, u "expected"), (0, .fieldref 8 30), (0, .nameAndType 31 12), (0, u "START"), (3, u "law"), (0, u "(II)Z")] 2

def k1m0 : Method := { name := "<init>", desc := "()V", sig := { parameters := [], returnType := none }, accessFlags := 1, code := none }
def k1c1 : Code := { maxStack := 2, maxLocals := 1, code := method_2_code, exceptionTable := #[], attributes := #[] }
def k1m1 : Method := { name := "expected", desc := "(I)Lcom/example/cornice/cornice/skyline/Generation;", sig := { parameters := [.int], returnType := some (.object "com/example/cornice/cornice/skyline/Generation") }, accessFlags := 10, code := some k1c1 }
def k1c2 : Code := { maxStack := 2, maxLocals := 4, code := code, exceptionTable := #[], attributes := #[] }
def k1m2 : Method := { name := "law", desc := "(II)Z", sig := { parameters := [.int, .int], returnType := some .boolean }, accessFlags := 9, code := some k1c2 }
/-- com/example/cornice/cornice/skyline/GenerationUnlockedPinLaw -/
def k1 : Class := { plain "com/example/cornice/cornice/skyline/GenerationUnlockedPinLaw" (some 0) with
  accessFlags := 49
  interfaces := #[]
  cf := some (fileOf pool1 25 #[] #[{ accessFlags := 1, nameIndex := 5, descriptorIndex := 6, attributes := #[] }, { accessFlags := 10, nameIndex := 28, descriptorIndex := 23, attributes := #[] }, { accessFlags := 9, nameIndex := 35, descriptorIndex := 36, attributes := #[] }] 49 2 #[] #[])
  fields := #[]
  methods := #[k1m0, k1m1, k1m2]
  instanceTypes := #[]
  staticTypes := #[]
  resolved := Array.replicate 39 none
  statics := none }

def pool2 : Array CpInfo := pool [(1, .class_ 2), (0, u "java/lang/constant/Constable"), (0, .class_ 4), (0, u "java/lang/Object")] 6

/-- java/lang/constant/Constable -/
def k2 : Class := { plain "java/lang/constant/Constable" (some 0) with
  accessFlags := 1537
  interfaces := #[]
  cf := some (fileOf pool2 1 #[] #[] 1537 3 #[] #[])
  fields := #[]
  methods := #[]
  instanceTypes := #[]
  staticTypes := #[]
  resolved := Array.replicate 11 none
  statics := none }

def pool3 : Array CpInfo := pool [(1, .class_ 2), (0, u "java/lang/Comparable"), (0, .class_ 4), (0, u "java/lang/Object")] 7

/-- java/lang/Comparable -/
def k3 : Class := { plain "java/lang/Comparable" (some 0) with
  accessFlags := 1537
  interfaces := #[]
  cf := some (fileOf pool3 1 #[] #[] 1537 3 #[] #[])
  fields := #[]
  methods := #[]
  instanceTypes := #[]
  staticTypes := #[]
  resolved := Array.replicate 12 none
  statics := none }

def pool4 : Array CpInfo := pool [(1, .class_ 2), (0, u "java/io/Serializable"), (0, .class_ 4), (0, u "java/lang/Object")] 2

/-- java/io/Serializable -/
def k4 : Class := { plain "java/io/Serializable" (some 0) with
  accessFlags := 1537
  interfaces := #[]
  cf := some (fileOf pool4 1 #[] #[] 1537 3 #[] #[])
  fields := #[]
  methods := #[]
  instanceTypes := #[]
  staticTypes := #[]
  resolved := Array.replicate 7 none
  statics := none }

def pool5 : Array CpInfo := pool [(2, .class_ 4), (1, u "java/lang/Enum"), (0, u "name"), (0, u "Ljava/lang/String;"), (2, u "ordinal"), (0, u "I"), (1, .class_ 14), (1, u "java/lang/Object"), (4, u "hash"), (86, .class_ 108), (1, u "java/lang/Enum$EnumDesc"), (2, .class_ 112), (0, u "java/lang/constant/Constable"), (0, .class_ 114), (0, u "java/lang/Comparable"), (0, .class_ 116), (0, u "java/io/Serializable")] 87

/-- java/lang/Enum -/
def k5 : Class := { plain "java/lang/Enum" (some 0) with
  accessFlags := 1057
  interfaces := #[2, 3, 4]
  cf := some (fileOf pool5 2 #[.nestMembers #[106]] #[] 1057 12 #[111, 113, 115] #[{ accessFlags := 18, nameIndex := 5, descriptorIndex := 6, attributes := #[] }, { accessFlags := 18, nameIndex := 9, descriptorIndex := 10, attributes := #[] }, { accessFlags := 2, nameIndex := 19, descriptorIndex := 10, attributes := #[] }])
  fields := #[{ name := "name", type := (.object "java/lang/String"), accessFlags := 18, slot := 0, constantValue := 0 }, { name := "ordinal", type := .int, accessFlags := 18, slot := 1, constantValue := 0 }, { name := "hash", type := .int, accessFlags := 2, slot := 2, constantValue := 0 }]
  methods := #[]
  instanceTypes := #[(.object "java/lang/String"), .int, .int]
  staticTypes := #[]
  resolved := Array.replicate 204 none
  statics := none }

def pool6 : Array CpInfo := pool [(1, .class_ 2), (0, u "com/example/cornice/cornice/skyline/Generation"), (0, .fieldref 1 4), (0, .nameAndType 5 6), (0, u "START"), (0, u "Lcom/example/cornice/cornice/skyline/Generation;"), (0, .fieldref 1 8), (0, .nameAndType 9 6), (0, u "BRONZE"), (2, u "SILVER"), (2, u "GOLD"), (0, .fieldref 1 17), (0, .nameAndType 18 19), (0, u "$VALUES"), (0, u "[Lcom/example/cornice/cornice/skyline/Generation;"), (0, .methodref 21 22), (0, .class_ 19), (0, .nameAndType 23 24), (0, u "clone"), (0, u "()Ljava/lang/Object;"), (1, .class_ 28), (1, u "java/lang/Enum"), (6, .fieldref 1 36), (0, .nameAndType 37 38), (0, u "unlockedAt"), (0, u "I"), (0, .methodref 1 40), (0, .nameAndType 41 42), (0, u "values"), (0, u "()[Lcom/example/cornice/cornice/skyline/Generation;"), (16, u "unlocked"), (0, u "(I)Lcom/example/cornice/cornice/skyline/Generation;")] 6

def k6c0 : Code := { maxStack := 1, maxLocals := 0, code := prog_20_method_1_code, exceptionTable := #[], attributes := #[] }
def k6m0 : Method := { name := "values", desc := "()[Lcom/example/cornice/cornice/skyline/Generation;", sig := { parameters := [], returnType := some (.array (.object "com/example/cornice/cornice/skyline/Generation")) }, accessFlags := 9, code := some k6c0 }
def k6c1 : Code := { maxStack := 2, maxLocals := 6, code := prog_20_method_4_code, exceptionTable := #[], attributes := #[] }
def k6m1 : Method := { name := "unlocked", desc := "(I)Lcom/example/cornice/cornice/skyline/Generation;", sig := { parameters := [.int], returnType := some (.object "com/example/cornice/cornice/skyline/Generation") }, accessFlags := 9, code := some k6c1 }
/-- com/example/cornice/cornice/skyline/Generation -/
def k6 : Class := { plain "com/example/cornice/cornice/skyline/Generation" (some 5) with
  accessFlags := 16433
  interfaces := #[]
  cf := some (fileOf pool6 1 #[] #[{ accessFlags := 9, nameIndex := 41, descriptorIndex := 42, attributes := #[] }, { accessFlags := 9, nameIndex := 59, descriptorIndex := 60, attributes := #[] }] 16433 26 #[] #[{ accessFlags := 16409, nameIndex := 5, descriptorIndex := 6, attributes := #[] }, { accessFlags := 16409, nameIndex := 9, descriptorIndex := 6, attributes := #[] }, { accessFlags := 16409, nameIndex := 12, descriptorIndex := 6, attributes := #[] }, { accessFlags := 16409, nameIndex := 15, descriptorIndex := 6, attributes := #[] }, { accessFlags := 18, nameIndex := 37, descriptorIndex := 38, attributes := #[] }, { accessFlags := 4122, nameIndex := 18, descriptorIndex := 19, attributes := #[] }])
  fields := #[{ name := "START", type := (.object "com/example/cornice/cornice/skyline/Generation"), accessFlags := 16409, slot := 0, constantValue := 0 }, { name := "BRONZE", type := (.object "com/example/cornice/cornice/skyline/Generation"), accessFlags := 16409, slot := 1, constantValue := 0 }, { name := "SILVER", type := (.object "com/example/cornice/cornice/skyline/Generation"), accessFlags := 16409, slot := 2, constantValue := 0 }, { name := "GOLD", type := (.object "com/example/cornice/cornice/skyline/Generation"), accessFlags := 16409, slot := 3, constantValue := 0 }, { name := "unlockedAt", type := .int, accessFlags := 18, slot := 3, constantValue := 0 }, { name := "$VALUES", type := (.array (.object "com/example/cornice/cornice/skyline/Generation")), accessFlags := 4122, slot := 4, constantValue := 0 }]
  methods := #[k6m0, k6m1]
  instanceTypes := #[(.object "java/lang/String"), .int, .int, .int]
  staticTypes := #[(.object "com/example/cornice/cornice/skyline/Generation"), (.object "com/example/cornice/cornice/skyline/Generation"), (.object "com/example/cornice/cornice/skyline/Generation"), (.object "com/example/cornice/cornice/skyline/Generation"), (.array (.object "com/example/cornice/cornice/skyline/Generation"))]
  resolved := Array.replicate 67 none
  statics := some 0 }

def pool7 : Array CpInfo := pool [(1, .class_ 2), (0, u "java/lang/Cloneable"), (0, .class_ 4), (0, u "java/lang/Object")] 2

/-- java/lang/Cloneable -/
def k7 : Class := { plain "java/lang/Cloneable" (some 0) with
  accessFlags := 1537
  interfaces := #[]
  cf := some (fileOf pool7 1 #[] #[] 1537 3 #[] #[])
  fields := #[]
  methods := #[]
  instanceTypes := #[]
  staticTypes := #[]
  resolved := Array.replicate 7 none
  statics := none }

/-- the primitive byte -/
def k8 : Class := { plain "byte" none with kind := .primitive 'B', accessFlags := 0x411 }
/-- [B -/
def k9 : Class := { plain "[B" (some 0) with kind := .array 8 .byte, interfaces := #[7, 4], accessFlags := 1041 }

/-- the primitive int -/
def k10 : Class := { plain "int" none with kind := .primitive 'I', accessFlags := 0x411 }
/-- [I -/
def k11 : Class := { plain "[I" (some 0) with kind := .array 10 .int, interfaces := #[7, 4], accessFlags := 1041 }

/-- [Lcom/example/cornice/cornice/skyline/Generation; -/
def k12 : Class := { plain "[Lcom/example/cornice/cornice/skyline/Generation;" (some 0) with kind := .array 6 (.object "com/example/cornice/cornice/skyline/Generation"), interfaces := #[7, 4], accessFlags := 1041 }

def heap : Heap := #[{ cls := 6, slots := #[.ref 2, .ref 3, .ref 4, .ref 5, .ref 1], vm := .statics 6 },
  { cls := 12, slots := #[.ref 2, .ref 3, .ref 4, .ref 5], vm := .none },
  { cls := 6, slots := #[.null, .int 0, .int 0, .int 0], vm := .none },
  { cls := 6, slots := #[.null, .int 1, .int 0, .int 0], vm := .none },
  { cls := 6, slots := #[.null, .int 2, .int 0, .int 6], vm := .none },
  { cls := 6, slots := #[.null, .int 3, .int 0, .int 18], vm := .none }]
def classes : Array Class := #[k0, k1, k2, k3, k4, k5, k6, k7, k8, k9, k10, k11, k12]
def interned : List (Array UInt16 × Addr) := []
def slotsUsed : Nat := 25
def theMethod : MethodId := ⟨1, 2⟩
def args0 : Array Value := #[.int 7, .int 1]
def aboutOver (below : List Frame) : State where
  vm := { classes := classes, interned := interned.toArray }
  heap := heap
  slotsUsed := slotsUsed
  threads := #[{ frames := .invoking theMethod args0 :: below }]
def below0 : List Frame := [.native { method := ⟨0, 0⟩, args := #[] }]
def about1 : State := aboutOver below0
def p0 : Program := .bare "" "" ""
def e0 : Env := launch0.env 0 0 0
theorem w_frames : about1.frames = Frame.invoking theMethod args0 :: below0 := rfl
set_option maxRecDepth 65536 in
theorem w_args : argsFit about1.vm theMethod args0 = true := by decide +kernel
set_option maxRecDepth 65536 in
theorem w_heap : heapFits about1 = true := by decide +kernel
set_option maxRecDepth 65536 in
theorem w_runnable : about1.curStatus? = some .runnable := by decide +kernel
set_option maxRecDepth 65536 in
theorem w_alone : about1.alone = true := by decide +kernel
set_option maxRecDepth 65536 in
theorem w_named : about1.methodNamed? x = some theMethod := by decide +kernel
set_option maxRecDepth 65536 in
theorem w_hears : about1.hears theMethod below0 = true := by decide +kernel
set_option maxRecDepth 65536 in
theorem w_ripe : about1.ripe theMethod args0 below0 = true := by decide +kernel
theorem w_running : about1.status = .running := rfl
set_option maxRecDepth 65536 in
theorem w_room : about1.hasRoom e0.platform room_1 = true :=
  launch0.hasRoom_least _ room_1 (by decide +kernel) (by decide +kernel) (by decide +kernel) (by decide +kernel) (by decide +kernel) (by decide +kernel)
theorem allAtoms_all (ts : List Jvm.Cond) (a : Array Jvm.Value) (st : Jvm.State) : (allAtoms ts).before a st = ts.all (fun c => c.before a st) := by
  induction ts with
  | nil => rfl
  | cons c t ih =>
    show (Jvm.Cond.and c (allAtoms t)).before a st = _
    rw [Jvm.Cond.before_and, ih, List.all_cons]
def words1 : List Jvm.Cond := Jvm.Cond.code x code maxLocals ret :: tables_1
/-- a 'code' word, met by the world's own term for the bytes: nothing is compared byte by byte -/
theorem code_word {y : MethodName} {bytes : ByteArray} {mx : Nat} {rt : Option FieldType} {a : Array Value} {s : State} {m : MethodId} {meth : Method} {c : Code} (h1 : s.methodNamed? y = some m) (h2 : s.vm.method? m = some meth) (h3 : meth.code = some c) (h4 : c.code = bytes)
    (h5 : (c.maxLocals == mx && c.exceptionTable.isEmpty && decide (c.maxStack ≤ mostOperands) && decide (meth.sig.returnType = rt) && !meth.locks && decide (parseMethodDescriptor y.desc = some meth.sig)) = true) : (Jvm.Cond.code y bytes mx rt).before a s = true := by
  simp only [Bool.and_eq_true, beq_iff_eq, Bool.not_eq_true', decide_eq_true_eq] at h5
  obtain ⟨⟨⟨⟨⟨g1, g2⟩, g3⟩, g4⟩, g5⟩, g6⟩ := h5
  simp [Cond.before, Cond.holds, Cond.value, h1, h2, h3, h4, g1, g2, g3, g4, g5, g6]
def isCode : Jvm.Cond → Bool
  | .code _ _ _ _ => true
  | _ => false
theorem all_split {L : List Jvm.Cond} {P : Jvm.Cond → Bool} (h1 : L.all (fun c => isCode c || P c) = true) (h2 : ∀ c ∈ L.filter isCode, P c = true) : L.all P = true := by
  refine List.all_eq_true.mpr fun c hc => ?_
  have h := List.all_eq_true.mp h1 c hc
  rcases Bool.eq_false_or_eq_true (isCode c) with hi | hi
  · exact h2 c (List.mem_filter.mpr ⟨hc, hi⟩)
  · simpa [hi] using h
set_option maxRecDepth 65536 in
theorem w_c0 : (Jvm.Cond.code x code maxLocals ret).before args0 about1 = true := code_word (m := ⟨1, 2⟩) (meth := k1m2) (c := k1c2) (by decide +kernel) rfl rfl rfl (by decide +kernel)
set_option maxRecDepth 65536 in
theorem w_c1 : (Jvm.Cond.code ({ cls := "com/example/cornice/cornice/skyline/Generation", name := "unlocked", desc := "(I)Lcom/example/cornice/cornice/skyline/Generation;" } : Jvm.MethodName) prog_20_method_4_code (6 : Nat) (Option.some (Jvm.ClassFile.FieldType.object "com/example/cornice/cornice/skyline/Generation"))).before args0 about1 = true := code_word (m := ⟨6, 1⟩) (meth := k6m1) (c := k6c1) (by decide +kernel) rfl rfl rfl (by decide +kernel)
set_option maxRecDepth 65536 in
theorem w_c2 : (Jvm.Cond.code ({ cls := "com/example/cornice/cornice/skyline/Generation", name := "values", desc := "()[Lcom/example/cornice/cornice/skyline/Generation;" } : Jvm.MethodName) prog_20_method_1_code (0 : Nat) (Option.some (Jvm.ClassFile.FieldType.array (Jvm.ClassFile.FieldType.object "com/example/cornice/cornice/skyline/Generation")))).before args0 about1 = true := code_word (m := ⟨6, 0⟩) (meth := k6m0) (c := k6c0) (by decide +kernel) rfl rfl rfl (by decide +kernel)
set_option maxRecDepth 65536 in
theorem w_c3 : (Jvm.Cond.code ({ cls := "com/example/cornice/cornice/skyline/GenerationUnlockedPinLaw", name := "expected", desc := "(I)Lcom/example/cornice/cornice/skyline/Generation;" } : Jvm.MethodName) method_2_code (1 : Nat) (Option.some (Jvm.ClassFile.FieldType.object "com/example/cornice/cornice/skyline/Generation"))).before args0 about1 = true := code_word (m := ⟨1, 1⟩) (meth := k1m1) (c := k1c1) (by decide +kernel) rfl rfl rfl (by decide +kernel)
def codes1 : List Jvm.Cond := [Jvm.Cond.code x code maxLocals ret, Jvm.Cond.code ({ cls := "com/example/cornice/cornice/skyline/Generation", name := "unlocked", desc := "(I)Lcom/example/cornice/cornice/skyline/Generation;" } : Jvm.MethodName) prog_20_method_4_code (6 : Nat) (Option.some (Jvm.ClassFile.FieldType.object "com/example/cornice/cornice/skyline/Generation")), Jvm.Cond.code ({ cls := "com/example/cornice/cornice/skyline/Generation", name := "values", desc := "()[Lcom/example/cornice/cornice/skyline/Generation;" } : Jvm.MethodName) prog_20_method_1_code (0 : Nat) (Option.some (Jvm.ClassFile.FieldType.array (Jvm.ClassFile.FieldType.object "com/example/cornice/cornice/skyline/Generation"))), Jvm.Cond.code ({ cls := "com/example/cornice/cornice/skyline/GenerationUnlockedPinLaw", name := "expected", desc := "(I)Lcom/example/cornice/cornice/skyline/Generation;" } : Jvm.MethodName) method_2_code (1 : Nat) (Option.some (Jvm.ClassFile.FieldType.object "com/example/cornice/cornice/skyline/Generation"))]
set_option maxRecDepth 65536 in
theorem codes_eq : words1.filter isCode = codes1 := rfl
theorem w_codes : ∀ c ∈ words1.filter isCode, c.before args0 about1 = true := by
  rw [codes_eq]
  intro c hc
  simp only [codes1, List.mem_cons, List.not_mem_nil, or_false] at hc
  rcases hc with rfl | rfl | rfl | rfl
  · exact w_c0
  · exact w_c1
  · exact w_c2
  · exact w_c3
set_option maxRecDepth 65536 in
theorem w_t1 : (words1.take 24).all (fun c => isCode c || c.before args0 about1) = true := by decide +kernel
set_option maxRecDepth 65536 in
theorem w_t2 : (words1.drop 24).all (fun c => isCode c || c.before args0 about1) = true := by decide +kernel
theorem w_tables : (allAtoms (Jvm.Cond.code x code maxLocals ret :: tables_1)).before args0 about1 = true := by
  rw [allAtoms_all]
  show words1.all (fun c => c.before args0 about1) = true
  refine all_split ?_ w_codes
  rw [← List.take_append_drop 24 words1, List.all_append, w_t1, w_t2]
  rfl
set_option maxRecDepth 65536 in
theorem w_case : (Jvm.Cond.and given_1 narrow_1).before args0 about1 = true := by decide +kernel
theorem w_applies : (headSpec (Jvm.Cond.code x code maxLocals ret :: tables_1) room_1).applies x e0.platform about1 = true :=
  (Spec.applies_iff w_frames).mpr ⟨w_running, w_runnable, w_alone, w_named, w_hears, w_ripe, w_room, w_tables⟩
theorem atStart : AtStart classFile x code maxLocals ret World_1 tables_1 room_1 Calls_1 rest_1 Pre_1 launch0 p0 e0 about1 theMethod args0 below0 :=
  ⟨lists_1, trivial, launch0.admits_env _ _ _, launch0.least_env, fairChoices_fair.cas, fairChoices_fair.clock, w_frames, w_args, w_heap, w_applies, trivial, trivial, w_case⟩
end start1
theorem witness_1 : WitnessClaimed_1 := ⟨start1.p0, start1.e0, start1.about1, start1.theMethod, start1.args0, start1.below0, start1.atStart⟩
end Jvm.Pilot.@@N@@
