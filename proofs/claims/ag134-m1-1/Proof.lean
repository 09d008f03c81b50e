import JvmDerived
import JvmDerived.Pilot.@@N@@Statement
import JvmDerived.Pilot.@@N@@Code
set_option linter.unusedVariables false
set_option linter.unusedSimpArgs false
namespace Jvm.Pilot.@@N@@
open Jvm Jvm.ClassFile Sem Op Lib Jvm.Free Jvm.Stand Jvm.LawKit Jvm.RoadKit Bundle Jvm.Pilot.@@N@@.Jvm.D
/-! own small kit: the goal of a walk, backward; the leaves -/
def Gl (tb : Tables) (e : Env) (below : List Frame) (QQ : Outcome → State → Prop) (st : State) : Prop := ∃ s₂ o, Steps tb e below st s₂ ∧ s₂.status = .running ∧ Ended s₂ below o ∧ QQ o s₂
theorem Gl.go {tb : Tables} {e : Env} {below : List Frame} {QQ : Outcome → State → Prop} {st st' : State} (h : ∀ t, Steps tb e below st' t → Steps tb e below st t) (g : Gl tb e below QQ st') : Gl tb e below QQ st := by
  obtain ⟨s2, o, h1, h2⟩ := g
  exact ⟨s2, o, h _ h1, h2⟩
def QQof (s : State) (Q : Option Value → Heap → List Loc → Prop) (k n : Nat) : Outcome → State → Prop := fun o U => ∃ v L, o = .returned v ∧ Q v U.heap L ∧ FrameEnd s o U L k n
section Leaf
variable {p : Program} {l : Launch} {e : Env} {R : Room} {s : State} {m : MethodId} {args : Array Value} {below : List Frame} {meth : Method} {c : Code} {T : State} {locs : List Loc} {cells slots : Nat} {pc : Nat} {Ls : Array Slot} {rest : List Value} {Q : Option Value → Heap → List Loc → Prop} {k n : Nat}
theorem leafN (X : Stand p l e R s m args below meth c T locs cells slots) (hx : p.tables.exec = Jvm.exec) (hlk : meth.locks = false) {z : Int32} {t : FieldType} (hret : meth.sig.returnType = some t) (ht : t = .boolean ∨ t = .byte ∨ t = .char ∨ t = .short) (hd : decode c.code pc = .ok (.ireturn, 1))
    (hq : Q (some (.int (nar t z))) T.heap locs) (hk : cells ≤ k) (hn : slots ≤ n) : Gl p.tables e below (QQof s Q k n) (T.setTop (mkF m pc Ls (.int z :: rest))) := by
  obtain ⟨fs, hr, hrun, hended, hW, hsame⟩ := X.leave (v := some (.int (nar t z))) (fun h => by rw [hret] at h; cases h) hlk
  exact ⟨_, _, retN X hx hret ht hd hr, hrun, hended, _, _, rfl, hq, ⟨_, rfl⟩, hW, hsame.mono hk hn⟩
theorem leafI (X : Stand p l e R s m args below meth c T locs cells slots) (hx : p.tables.exec = Jvm.exec) (hlk : meth.locks = false) {z : Int32} (hret : meth.sig.returnType = some .int) (hd : decode c.code pc = .ok (.ireturn, 1))
    (hq : Q (some (.int z)) T.heap locs) (hk : cells ≤ k) (hn : slots ≤ n) : Gl p.tables e below (QQof s Q k n) (T.setTop (mkF m pc Ls (.int z :: rest))) := by
  obtain ⟨fs, hr, hrun, hended, hW, hsame⟩ := X.leave (v := some (.int z)) (fun h => by rw [hret] at h; cases h) hlk
  exact ⟨_, _, retOut X hx hret rfl (Or.inl ⟨rfl, Or.inl rfl, _, rfl⟩) hd hr, hrun, hended, _, _, rfl, hq, ⟨_, rfl⟩, hW, hsame.mono hk hn⟩
theorem leafL (X : Stand p l e R s m args below meth c T locs cells slots) (hx : p.tables.exec = Jvm.exec) (hlk : meth.locks = false) {z : Int64} (hret : meth.sig.returnType = some .long) (hd : decode c.code pc = .ok (.lreturn, 1))
    (hq : Q (some (.long z)) T.heap locs) (hk : cells ≤ k) (hn : slots ≤ n) : Gl p.tables e below (QQof s Q k n) (T.setTop (mkF m pc Ls (.long z :: rest))) := by
  obtain ⟨fs, hr, hrun, hended, hW, hsame⟩ := X.leave (v := some (.long z)) (fun h => by rw [hret] at h; cases h) hlk
  exact ⟨_, _, retOut X hx hret rfl (Or.inr (Or.inl ⟨rfl, rfl, _, rfl⟩)) hd hr, hrun, hended, _, _, rfl, hq, ⟨_, rfl⟩, hW, hsame.mono hk hn⟩
theorem leafD (X : Stand p l e R s m args below meth c T locs cells slots) (hx : p.tables.exec = Jvm.exec) (hlk : meth.locks = false) {z : UInt64} (hret : meth.sig.returnType = some .double) (hd : decode c.code pc = .ok (.dreturn, 1))
    (hq : Q (some (.double z)) T.heap locs) (hk : cells ≤ k) (hn : slots ≤ n) : Gl p.tables e below (QQof s Q k n) (T.setTop (mkF m pc Ls (.double z :: rest))) := by
  obtain ⟨fs, hr, hrun, hended, hW, hsame⟩ := X.leave (v := some (.double z)) (fun h => by rw [hret] at h; cases h) hlk
  exact ⟨_, _, retOut X hx hret rfl (Or.inr (Or.inr (Or.inl ⟨rfl, rfl, _, rfl⟩))) hd hr, hrun, hended, _, _, rfl, hq, ⟨_, rfl⟩, hW, hsame.mono hk hn⟩
theorem narrowR {t : FieldType} {w : Value} (ht : t.isReference = true) (hw : w.isRef = true) : narrow t w = w := by
  cases w <;> simp [Value.isRef] at hw <;> cases t <;> simp [FieldType.isReference] at ht <;> rfl
theorem leafA (X : Stand p l e R s m args below meth c T locs cells slots) (hx : p.tables.exec = Jvm.exec) (hlk : meth.locks = false) {w : Value} {t : FieldType} (hret : meth.sig.returnType = some t) (ht : t.isReference = true) (hw : w.isRef = true) (hd : decode c.code pc = .ok (.areturn, 1))
    (hq : Q (some w) T.heap locs) (hk : cells ≤ k) (hn : slots ≤ n) : Gl p.tables e below (QQof s Q k n) (T.setTop (mkF m pc Ls (w :: rest))) := by
  obtain ⟨fs, hr, hrun, hended, hW, hsame⟩ := X.leave (v := some w) (fun h => by rw [hret] at h; cases h) hlk
  exact ⟨_, _, retOut X hx hret (narrowR ht hw) (Or.inr (Or.inr (Or.inr (Or.inr ⟨rfl, ht, hw⟩)))) hd hr, hrun, hended, _, _, rfl, hq, ⟨_, rfl⟩, hW, hsame.mono hk hn⟩
theorem leafV (X : Stand p l e R s m args below meth c T locs cells slots) (hx : p.tables.exec = Jvm.exec) (hlk : meth.locks = false) (hret : meth.sig.returnType = none) (hd : decode c.code pc = .ok (.return_, 1))
    (hq : Q none T.heap locs) (hk : cells ≤ k) (hn : slots ≤ n) : Gl p.tables e below (QQof s Q k n) (T.setTop (mkF m pc Ls [])) := by
  obtain ⟨fs, hr, hrun, hended, hW, hsame⟩ := X.leave (v := none) (fun _ => rfl) hlk
  exact ⟨_, _, X.returnOut hx hret hd hr, hrun, hended, _, _, rfl, hq, ⟨_, rfl⟩, hW, hsame.mono hk hn⟩
end Leaf
theorem fitsR {t : FieldType} {w : Value} (ht : t.isReference = true) (hw : w.isRef = true) : fits t w = true := by
  cases w <;> simp [Value.isRef] at hw <;> cases t <;> simp [FieldType.isReference] at ht <;> rfl
theorem nar1 : nar .boolean (1 : Int32) = 1 := by decide
theorem nar0 : nar .boolean (0 : Int32) = 0 := by decide
theorem int_at {args : Array Value} {s : State} {t : Term} {k : Int32} (h : (Jvm.Cond.eq t (.int k)).value args s none s [] = some true) : t.eval args s none [] s = some (.int k) := by
  obtain ⟨x, y, hx, hy, kx, ky⟩ := cmp_v (Or.inl h)
  have hk : y = .int k := Option.some.inj (hy.symm.trans (Term.int_eval k))
  subst hk
  obtain ⟨z, rfl⟩ := ky
  have hz := gotT (Cond.eq_ints hx (Term.int_eval k)) h
  rw [hx, hz]
theorem fld_int {args : Array Value} {s : State} {t : Term} {C n d : String} {k : Int32} {x : Addr} (ht : t.eval args s none [] s = some (.ref x)) (h : (Jvm.Cond.eq (.field t C n d) (.int k)).value args s none s [] = some true) : Fld s s.heap x C n d (.int k) := Fld.start ((fld_at ht).symm.trans (int_at h))
theorem ref_at {args : Array Value} {s : State} {a b : Term} {x : Addr} (hb : b.eval args s none [] s = some (.ref x)) (h : (Jvm.Cond.eq a b).value args s none s [] = some true) : a.eval args s none [] s = some (.ref x) := by
  obtain ⟨y, z, hy, hz, ky, kz⟩ := cmp_v (Or.inl h)
  have hk : z = .ref x := Option.some.inj (hz.symm.trans hb)
  subst hk
  have hr : y.isRef = true := kz.2
  have he := gotT (eq_R hy hb hr rfl) h
  rw [hy, he]
theorem ext_of_keep {h h' : Heap} (K : Keep h h' []) : Ext h h' := ⟨K.1, fun a c q => K.2.1 a c q nin0⟩
theorem arr_len {args : Array Value} {s : State} {t : Term} {a : Addr} {cl : Cell} {ty : FieldType} {k : Int32} (ev : t.eval args s none [] s = some (.ref a)) (A : Arr s s.heap a cl ty) (h : (Jvm.Cond.eq (.length t) (.int k)).value args s none s [] = some true) : cl.slots.size < 2 ^ 31 ∧ cl.slots.size.toInt32 = k := by
  obtain ⟨b, cell, e1, e2, e3, e4⟩ := Jvm.Lib.length_spec (int_at h)
  have hb : a = b := Value.ref.inj (Option.some.inj (ev.symm.trans e1))
  subst hb
  have hc : cl = cell := Option.some.inj ((A.fin (Vm.Alike.refl _)).symm.trans e2)
  subst hc
  exact ⟨e3, (Value.int.inj e4).symm⟩
theorem arr_elem {args : Array Value} {s : State} {t : Term} {a : Addr} {cl : Cell} {ty : FieldType} {j : Int32} {v : Value} (ev : t.eval args s none [] s = some (.ref a)) (A : Arr s s.heap a cl ty) (h : (Term.elem t (.int j)).eval args s none [] s = some v) : cl.slots[j.toNatClampNeg]? = some v := (elem_in h ev (Term.int_eval j) A.1).2

def of2 (q : Int32) (rU rS rA : Addr) : Addr := if q < (300 : Int32) then rU else if (499 : Int32) < q then rU else if q = (429 : Int32) then rU else rA
def ofA (q : Int32) (rU rS rA : Addr) : Addr := if q < (200 : Int32) then of2 q rU rS rA else if (299 : Int32) < q then of2 q rU rS rA else rS
def exA (q : Int32) (rU rS rA : Addr) : Addr := if q < (200 : Int32) then rU else if (599 : Int32) < q then rU else if (q / (100 : Int32)) = (2 : Int32) then rS else if (q / (100 : Int32)) = (5 : Int32) then rU else if q = (429 : Int32) then rU else rA
theorem own_div (q : Int32) (h : ¬ q < (200 : Int32)) : (q / (100 : Int32)).toInt = q.toInt / 100 := by
  have e0 : (200 : Int32).toInt = 200 := by decide
  have e1 : (100 : Int32).toInt = 100 := by decide
  rw [Int32.lt_iff_toInt_lt, e0] at h
  rw [Int32.toInt_div_of_ne_right _ _ (by decide), e1, Int.tdiv_eq_ediv_of_nonneg (by omega)]
theorem own_eq (q : Int32) (rU rS rA : Addr) : ofA q rU rS rA = exA q rU rS rA := by
  have e200 : (200 : Int32).toInt = 200 := by decide
  have e299 : (299 : Int32).toInt = 299 := by decide
  have e300 : (300 : Int32).toInt = 300 := by decide
  have e499 : (499 : Int32).toInt = 499 := by decide
  have e599 : (599 : Int32).toInt = 599 := by decide
  have e429 : (429 : Int32).toInt = 429 := by decide
  have e2 : (2 : Int32).toInt = 2 := by decide
  have e5 : (5 : Int32).toInt = 5 := by decide
  have hd := own_div q
  unfold ofA exA of2
  simp only [Int32.lt_iff_toInt_lt, ← Int32.toInt_inj, e200, e299, e300, e499, e599, e429, e2, e5] at hd ⊢
  by_cases h1 : q.toInt < 200
  · have h2 : q.toInt < 300 := by omega
    simp [h1, h2]
  · have hq := hd h1
    rw [hq]
    simp only [h1, if_false]
    by_cases h2 : (299 : Int) < q.toInt
    · simp only [h2, if_true]
      have h3 : ¬ q.toInt < 300 := by omega
      simp only [h3, if_false]
      by_cases h4 : (499 : Int) < q.toInt
      · simp only [h4, if_true]
        by_cases h5 : (599 : Int) < q.toInt
        · simp only [h5, if_true]
        · have h6 : ¬ q.toInt / 100 = 2 := by omega
          have h7 : q.toInt / 100 = 5 := by omega
          simp only [h5, h6, h7, if_false, if_true]
          simp
      · have h5 : ¬ (599 : Int) < q.toInt := by omega
        have h6 : ¬ q.toInt / 100 = 2 := by omega
        have h7 : ¬ q.toInt / 100 = 5 := by omega
        simp only [h4, h5, h6, h7, if_false]
    · have h5 : ¬ (599 : Int) < q.toInt := by omega
      have h6 : q.toInt / 100 = 2 := by omega
      simp only [h2, h5, h6, if_false, if_true]
theorem pn_0 : plainName "com/example/aloud/aloud/fetch/FetchResult$Outcome" = true := by first | (simp [plainName, overriddenIn]; done) | decide +kernel
theorem ef_of (m : MethodId) (x0 : Int32) : entryFrame m #[(.int x0)] 1 = mkF m 0 #[.val (.int x0)] [] := by first | (simp [entryFrame, mkF, argsToLocals, Value.category]; done) | rfl
theorem d1_0 : decode prog_51_method_4_code 0 = .ok (.iload_n 0, 1) := by decide +kernel
theorem d1_1 : decode prog_51_method_4_code 1 = .ok (.sipush 200, 3) := by decide +kernel
theorem d1_4 : decode prog_51_method_4_code 4 = .ok (.if_icmp .lt 14, 3) := by decide +kernel
theorem d1_18 : decode prog_51_method_4_code 18 = .ok (.iload_n 0, 1) := by decide +kernel
theorem d1_19 : decode prog_51_method_4_code 19 = .ok (.sipush 300, 3) := by decide +kernel
theorem d1_22 : decode prog_51_method_4_code 22 = .ok (.if_icmp .lt 21, 3) := by decide +kernel
theorem d1_43 : decode prog_51_method_4_code 43 = .ok (.getstatic 10, 3) := by decide +kernel
theorem d1_46 : decode prog_51_method_4_code 46 = .ok (.areturn, 1) := by decide +kernel
theorem d1_25 : decode prog_51_method_4_code 25 = .ok (.iload_n 0, 1) := by decide +kernel
theorem d1_26 : decode prog_51_method_4_code 26 = .ok (.sipush 499, 3) := by decide +kernel
theorem d1_29 : decode prog_51_method_4_code 29 = .ok (.if_icmp .gt 14, 3) := by decide +kernel
theorem d1_32 : decode prog_51_method_4_code 32 = .ok (.iload_n 0, 1) := by decide +kernel
theorem d1_33 : decode prog_51_method_4_code 33 = .ok (.sipush 429, 3) := by decide +kernel
theorem d1_36 : decode prog_51_method_4_code 36 = .ok (.if_icmp .eq 7, 3) := by decide +kernel
theorem d1_39 : decode prog_51_method_4_code 39 = .ok (.getstatic 7, 3) := by decide +kernel
theorem d1_42 : decode prog_51_method_4_code 42 = .ok (.areturn, 1) := by decide +kernel
theorem d1_7 : decode prog_51_method_4_code 7 = .ok (.iload_n 0, 1) := by decide +kernel
theorem d1_8 : decode prog_51_method_4_code 8 = .ok (.sipush 299, 3) := by decide +kernel
theorem d1_11 : decode prog_51_method_4_code 11 = .ok (.if_icmp .gt 7, 3) := by decide +kernel
theorem d1_14 : decode prog_51_method_4_code 14 = .ok (.getstatic 3, 3) := by decide +kernel
theorem d1_17 : decode prog_51_method_4_code 17 = .ok (.areturn, 1) := by decide +kernel
theorem pn_1 : plainName "com/example/aloud/aloud/fetch/OutcomeOfPinLaw" = true := by first | (simp [plainName, overriddenIn]; done) | decide +kernel
theorem ef_ex (m : MethodId) (x0 : Int32) : entryFrame m #[(.int x0)] 2 = mkF m 0 #[.val (.int x0), .unset] [] := by first | (simp [entryFrame, mkF, argsToLocals, Value.category]; done) | rfl
theorem d2_0 : decode method_2_code 0 = .ok (.iload_n 0, 1) := by decide +kernel
theorem d2_1 : decode method_2_code 1 = .ok (.sipush 200, 3) := by decide +kernel
theorem d2_4 : decode method_2_code 4 = .ok (.if_icmp .lt 10, 3) := by decide +kernel
theorem d2_14 : decode method_2_code 14 = .ok (.getstatic 7, 3) := by decide +kernel
theorem d2_17 : decode method_2_code 17 = .ok (.areturn, 1) := by decide +kernel
theorem d2_7 : decode method_2_code 7 = .ok (.iload_n 0, 1) := by decide +kernel
theorem d2_8 : decode method_2_code 8 = .ok (.sipush 599, 3) := by decide +kernel
theorem d2_11 : decode method_2_code 11 = .ok (.if_icmp .le 7, 3) := by decide +kernel
theorem d2_18 : decode method_2_code 18 = .ok (.iload_n 0, 1) := by decide +kernel
theorem d2_19 : decode method_2_code 19 = .ok (.bipush 100, 2) := by decide +kernel
theorem d2_21 : decode method_2_code 21 = .ok (.idiv, 1) := by decide +kernel
theorem d2_22 : decode method_2_code 22 = .ok (.istore_n 1, 1) := by decide +kernel
theorem d2_23 : decode method_2_code 23 = .ok (.iload_n 1, 1) := by decide +kernel
theorem d2_24 : decode method_2_code 24 = .ok (.iconst 2, 1) := by decide +kernel
theorem d2_25 : decode method_2_code 25 = .ok (.if_icmp .ne 7, 3) := by decide +kernel
theorem d2_28 : decode method_2_code 28 = .ok (.getstatic 13, 3) := by decide +kernel
theorem d2_31 : decode method_2_code 31 = .ok (.areturn, 1) := by decide +kernel
theorem d2_32 : decode method_2_code 32 = .ok (.iload_n 1, 1) := by decide +kernel
theorem d2_33 : decode method_2_code 33 = .ok (.iconst 5, 1) := by decide +kernel
theorem d2_34 : decode method_2_code 34 = .ok (.if_icmp .ne 7, 3) := by decide +kernel
theorem d2_37 : decode method_2_code 37 = .ok (.getstatic 7, 3) := by decide +kernel
theorem d2_40 : decode method_2_code 40 = .ok (.areturn, 1) := by decide +kernel
theorem d2_41 : decode method_2_code 41 = .ok (.iload_n 0, 1) := by decide +kernel
theorem d2_42 : decode method_2_code 42 = .ok (.sipush 429, 3) := by decide +kernel
theorem d2_45 : decode method_2_code 45 = .ok (.if_icmp .ne 7, 3) := by decide +kernel
theorem d2_48 : decode method_2_code 48 = .ok (.getstatic 7, 3) := by decide +kernel
theorem d2_51 : decode method_2_code 51 = .ok (.areturn, 1) := by decide +kernel
theorem d2_52 : decode method_2_code 52 = .ok (.getstatic 16, 3) := by decide +kernel
theorem d2_55 : decode method_2_code 55 = .ok (.areturn, 1) := by decide +kernel
theorem ef_law (m : MethodId) (x0 : Int32) (x1 : Int32) : entryFrame m #[(.int x0), (.int x1)] maxLocals = mkF m 0 #[.val (.int x0), .val (.int x1), .unset, .unset, .unset] [] := by first | (simp [entryFrame, mkF, argsToLocals, Value.category, maxLocals]; done) | rfl
theorem pd_0 : parseMethodDescriptor "(I)Lcom/example/aloud/aloud/fetch/FetchResult$Outcome;" = some ⟨[.int], some (.object "com/example/aloud/aloud/fetch/FetchResult$Outcome")⟩ := by decide +kernel
def Q_of (Z : State) (q1 : Int32) (rU rS rA : Addr) (h0 : Heap) (n0 : Nat) (v : Option Value) (h : Heap) (L : List Loc) : Prop := v = some (.ref (ofA q1 rU rS rA)) ∧ Fr n0 L ∧ h = h0
set_option maxRecDepth 65536 in
set_option maxHeartbeats 40000000 in
theorem rm_of (l : Launch) (Z : State) (a0 : Array Value) (hw : ∀ d ∈ tables_1, d.before a0 Z = true) (ws : List Jvm.Cond) (q1 : Int32) (rU rS rA : Addr) (h0 : Heap) (n0 : Nat) (Z0 : n0 ≤ h0.size) (SU : Sta Z h0 "com/example/aloud/aloud/fetch/FetchResult$Outcome" "UNREACHABLE" "Lcom/example/aloud/aloud/fetch/FetchResult$Outcome;" (.ref rU)) (SS : Sta Z h0 "com/example/aloud/aloud/fetch/FetchResult$Outcome" "SUCCESSFUL" "Lcom/example/aloud/aloud/fetch/FetchResult$Outcome;" (.ref rS)) (SA : Sta Z h0 "com/example/aloud/aloud/fetch/FetchResult$Outcome" "UNAVAILABLE" "Lcom/example/aloud/aloud/fetch/FetchResult$Outcome;" (.ref rA)) :
    MetFree l (⟨"com/example/aloud/aloud/fetch/FetchResult$Outcome", "of", "(I)Lcom/example/aloud/aloud/fetch/FetchResult$Outcome;"⟩ : MethodName) (head1 (Jvm.Cond.code (⟨"com/example/aloud/aloud/fetch/FetchResult$Outcome", "of", "(I)Lcom/example/aloud/aloud/fetch/FetchResult$Outcome;"⟩ : MethodName) prog_51_method_4_code 1 (some (.object "com/example/aloud/aloud/fetch/FetchResult$Outcome")) :: ws) ({ frames := 0, cells := 0, slots := 0, locals := 0 } : Room)) (fun aa U => aa = #[(.int q1)] ∧ Z.Warmed39 U.vm ∧ U.heap = h0) (fun _ _ _ _ _ => True) (fun _ U o U' => ∃ v L, o = .returned v ∧ Q_of Z q1 rU rS rA h0 n0 v U'.heap L ∧ FrameEnd U o U' L ({ frames := 0, cells := 0, slots := 0, locals := 0 } : Room).cells ({ frames := 0, cells := 0, slots := 0, locals := 0 } : Room).slots) := by
  refine MetFree.of_bodySF (plainFor_of_name pn_0) hisR ?_
  intro p e s m args below meth c s₁ Bd hml0 hP hK
  obtain ⟨rfl, hZ, hh⟩ := hP
  have hx := Bd.exec
  have hby := Bd.bytes
  have hml : c.maxLocals = 1 := hml0
  have hown : s.vm.findClass "com/example/aloud/aloud/fetch/FetchResult$Outcome" = some m.cls := findClass_of_methodNamed Bd.named
  have hnm := (name_of_methodNamed Bd.named Bd.method).1
  have hlk : meth.locks = false := BodyLoose.notSynchronized Bd
  have X0 : Stand p l e ({ frames := 0, cells := 0, slots := 0, locals := 0 } : Room) s m #[(.int q1)] below meth c s₁ [] 0 0 := Stand.of_body Bd
  have e0 : s₁.heap = h0 := by rw [← hh, Bd.state]; rfl
  have N0 := Fr.nil n0
  have K0 : Keep h0 h0 [] := Keep.refl _ _
  show Gl p.tables e below (QQof s (Q_of Z q1 rU rS rA h0 n0) 0 0) (s₁.setTop (entryFrame m #[(.int q1)] 1))
  refine Gl.go (fun t k => castTop (ef_of m q1) k) ?_
  show Gl p.tables e below (QQof s (Q_of Z q1 rU rS rA h0 n0) 0 0) (s₁.setTop (mkF m 0 #[.val (.int q1)] []))
  refine Gl.go (fun _ k => XS.iloadN X0.here hx rfl (hb hby d1_0) rfl  k) ?_
  show Gl p.tables e below (QQof s (Q_of Z q1 rU rS rA h0 n0) 0 0) (s₁.setTop (mkF m 1 #[.val (.int q1)] [(.int q1)]))
  refine Gl.go (fun _ k => XS.sipush X0.here hx rfl (hb hby d1_1) k) ?_
  show Gl p.tables e below (QQof s (Q_of Z q1 rU rS rA h0 n0) 0 0) (s₁.setTop (mkF m 4 #[.val (.int q1)] [(.int (200 : Int32)), (.int q1)]))
  by_cases h4_1 : q1 < (200 : Int32)
  · skip
    refine Gl.go (fun _ k => XS.icmpYes X0.here hx rfl (pc0 := 4) (pc' := 18) rfl (hb hby d1_4) rfl (tlt h4_1).1 (by decide) (by decide) k) ?_
    show Gl p.tables e below (QQof s (Q_of Z q1 rU rS rA h0 n0) 0 0) (s₁.setTop (mkF m 18 #[.val (.int q1)] []))
    refine Gl.go (fun _ k => XS.iloadN X0.here hx rfl (hb hby d1_18) rfl  k) ?_
    show Gl p.tables e below (QQof s (Q_of Z q1 rU rS rA h0 n0) 0 0) (s₁.setTop (mkF m 19 #[.val (.int q1)] [(.int q1)]))
    refine Gl.go (fun _ k => XS.sipush X0.here hx rfl (hb hby d1_19) k) ?_
    show Gl p.tables e below (QQof s (Q_of Z q1 rU rS rA h0 n0) 0 0) (s₁.setTop (mkF m 22 #[.val (.int q1)] [(.int (300 : Int32)), (.int q1)]))
    by_cases h22_2 : q1 < (300 : Int32)
    · skip
      refine Gl.go (fun _ k => XS.icmpYes X0.here hx rfl (pc0 := 22) (pc' := 43) rfl (hb hby d1_22) rfl (tlt h22_2).1 (by decide) (by decide) k) ?_
      show Gl p.tables e below (QQof s (Q_of Z q1 rU rS rA h0 n0) 0 0) (s₁.setTop (mkF m 43 #[.val (.int q1)] []))
      obtain ⟨T3, X3, e3, st3⟩ := getS2 X0 hx hZ hown (host := "") (Or.inl (hw _ (List.mem_of_getElem? (i := 4) rfl))) Via.refl e0 SU (g := (mkF m 43 #[.val (.int q1)] [])) rfl (hb hby d1_43)
      refine Gl.go (fun _ k => st3 _ k) ?_
      show Gl p.tables e below (QQof s (Q_of Z q1 rU rS rA h0 n0) 0 0) (T3.setTop (mkF m 46 #[.val (.int q1)] [(.ref rU)]))
      refine leafA X3 hx hlk Bd.returns rfl rfl (hb hby d1_46) ?_ (by decide) (by decide)
      exact ⟨by simp only [ofA, of2, if_pos h4_1, if_pos h22_2], N0, e3⟩
    · skip
      refine Gl.go (fun _ k => XS.icmpNo X0.here hx rfl (hb hby d1_22) rfl (flt h22_2).1 k) ?_
      show Gl p.tables e below (QQof s (Q_of Z q1 rU rS rA h0 n0) 0 0) (s₁.setTop (mkF m 25 #[.val (.int q1)] []))
      refine Gl.go (fun _ k => XS.iloadN X0.here hx rfl (hb hby d1_25) rfl  k) ?_
      show Gl p.tables e below (QQof s (Q_of Z q1 rU rS rA h0 n0) 0 0) (s₁.setTop (mkF m 26 #[.val (.int q1)] [(.int q1)]))
      refine Gl.go (fun _ k => XS.sipush X0.here hx rfl (hb hby d1_26) k) ?_
      show Gl p.tables e below (QQof s (Q_of Z q1 rU rS rA h0 n0) 0 0) (s₁.setTop (mkF m 29 #[.val (.int q1)] [(.int (499 : Int32)), (.int q1)]))
      by_cases h29_4 : (499 : Int32) < q1
      · skip
        refine Gl.go (fun _ k => XS.icmpYes X0.here hx rfl (pc0 := 29) (pc' := 43) rfl (hb hby d1_29) rfl (tlt h29_4).2.2.1 (by decide) (by decide) k) ?_
        show Gl p.tables e below (QQof s (Q_of Z q1 rU rS rA h0 n0) 0 0) (s₁.setTop (mkF m 43 #[.val (.int q1)] []))
        obtain ⟨T5, X5, e5, st5⟩ := getS2 X0 hx hZ hown (host := "") (Or.inl (hw _ (List.mem_of_getElem? (i := 4) rfl))) Via.refl e0 SU (g := (mkF m 43 #[.val (.int q1)] [])) rfl (hb hby d1_43)
        refine Gl.go (fun _ k => st5 _ k) ?_
        show Gl p.tables e below (QQof s (Q_of Z q1 rU rS rA h0 n0) 0 0) (T5.setTop (mkF m 46 #[.val (.int q1)] [(.ref rU)]))
        refine leafA X5 hx hlk Bd.returns rfl rfl (hb hby d1_46) ?_ (by decide) (by decide)
        exact ⟨by simp only [ofA, of2, if_pos h4_1, if_neg h22_2, if_pos h29_4], N0, e5⟩
      · skip
        refine Gl.go (fun _ k => XS.icmpNo X0.here hx rfl (hb hby d1_29) rfl (flt h29_4).2.2.1 k) ?_
        show Gl p.tables e below (QQof s (Q_of Z q1 rU rS rA h0 n0) 0 0) (s₁.setTop (mkF m 32 #[.val (.int q1)] []))
        refine Gl.go (fun _ k => XS.iloadN X0.here hx rfl (hb hby d1_32) rfl  k) ?_
        show Gl p.tables e below (QQof s (Q_of Z q1 rU rS rA h0 n0) 0 0) (s₁.setTop (mkF m 33 #[.val (.int q1)] [(.int q1)]))
        refine Gl.go (fun _ k => XS.sipush X0.here hx rfl (hb hby d1_33) k) ?_
        show Gl p.tables e below (QQof s (Q_of Z q1 rU rS rA h0 n0) 0 0) (s₁.setTop (mkF m 36 #[.val (.int q1)] [(.int (429 : Int32)), (.int q1)]))
        by_cases h36_6 : q1 = (429 : Int32)
        · skip
          refine Gl.go (fun _ k => XS.icmpYes X0.here hx rfl (pc0 := 36) (pc' := 43) rfl (hb hby d1_36) rfl (teq h36_6).1 (by decide) (by decide) k) ?_
          show Gl p.tables e below (QQof s (Q_of Z q1 rU rS rA h0 n0) 0 0) (s₁.setTop (mkF m 43 #[.val (.int q1)] []))
          obtain ⟨T7, X7, e7, st7⟩ := getS2 X0 hx hZ hown (host := "") (Or.inl (hw _ (List.mem_of_getElem? (i := 4) rfl))) Via.refl e0 SU (g := (mkF m 43 #[.val (.int q1)] [])) rfl (hb hby d1_43)
          refine Gl.go (fun _ k => st7 _ k) ?_
          show Gl p.tables e below (QQof s (Q_of Z q1 rU rS rA h0 n0) 0 0) (T7.setTop (mkF m 46 #[.val (.int q1)] [(.ref rU)]))
          refine leafA X7 hx hlk Bd.returns rfl rfl (hb hby d1_46) ?_ (by decide) (by decide)
          exact ⟨by simp only [ofA, of2, if_pos h4_1, if_neg h22_2, if_neg h29_4, if_pos h36_6], N0, e7⟩
        · skip
          refine Gl.go (fun _ k => XS.icmpNo X0.here hx rfl (hb hby d1_36) rfl (feq h36_6).1 k) ?_
          show Gl p.tables e below (QQof s (Q_of Z q1 rU rS rA h0 n0) 0 0) (s₁.setTop (mkF m 39 #[.val (.int q1)] []))
          obtain ⟨T8, X8, e8, st8⟩ := getS2 X0 hx hZ hown (host := "") (Or.inl (hw _ (List.mem_of_getElem? (i := 14) rfl))) Via.refl e0 SA (g := (mkF m 39 #[.val (.int q1)] [])) rfl (hb hby d1_39)
          refine Gl.go (fun _ k => st8 _ k) ?_
          show Gl p.tables e below (QQof s (Q_of Z q1 rU rS rA h0 n0) 0 0) (T8.setTop (mkF m 42 #[.val (.int q1)] [(.ref rA)]))
          refine leafA X8 hx hlk Bd.returns rfl rfl (hb hby d1_42) ?_ (by decide) (by decide)
          exact ⟨by simp only [ofA, of2, if_pos h4_1, if_neg h22_2, if_neg h29_4, if_neg h36_6], N0, e8⟩
  · skip
    refine Gl.go (fun _ k => XS.icmpNo X0.here hx rfl (hb hby d1_4) rfl (flt h4_1).1 k) ?_
    show Gl p.tables e below (QQof s (Q_of Z q1 rU rS rA h0 n0) 0 0) (s₁.setTop (mkF m 7 #[.val (.int q1)] []))
    refine Gl.go (fun _ k => XS.iloadN X0.here hx rfl (hb hby d1_7) rfl  k) ?_
    show Gl p.tables e below (QQof s (Q_of Z q1 rU rS rA h0 n0) 0 0) (s₁.setTop (mkF m 8 #[.val (.int q1)] [(.int q1)]))
    refine Gl.go (fun _ k => XS.sipush X0.here hx rfl (hb hby d1_8) k) ?_
    show Gl p.tables e below (QQof s (Q_of Z q1 rU rS rA h0 n0) 0 0) (s₁.setTop (mkF m 11 #[.val (.int q1)] [(.int (299 : Int32)), (.int q1)]))
    by_cases h11_9 : (299 : Int32) < q1
    · skip
      refine Gl.go (fun _ k => XS.icmpYes X0.here hx rfl (pc0 := 11) (pc' := 18) rfl (hb hby d1_11) rfl (tlt h11_9).2.2.1 (by decide) (by decide) k) ?_
      show Gl p.tables e below (QQof s (Q_of Z q1 rU rS rA h0 n0) 0 0) (s₁.setTop (mkF m 18 #[.val (.int q1)] []))
      refine Gl.go (fun _ k => XS.iloadN X0.here hx rfl (hb hby d1_18) rfl  k) ?_
      show Gl p.tables e below (QQof s (Q_of Z q1 rU rS rA h0 n0) 0 0) (s₁.setTop (mkF m 19 #[.val (.int q1)] [(.int q1)]))
      refine Gl.go (fun _ k => XS.sipush X0.here hx rfl (hb hby d1_19) k) ?_
      show Gl p.tables e below (QQof s (Q_of Z q1 rU rS rA h0 n0) 0 0) (s₁.setTop (mkF m 22 #[.val (.int q1)] [(.int (300 : Int32)), (.int q1)]))
      by_cases h22_10 : q1 < (300 : Int32)
      · skip
        refine Gl.go (fun _ k => XS.icmpYes X0.here hx rfl (pc0 := 22) (pc' := 43) rfl (hb hby d1_22) rfl (tlt h22_10).1 (by decide) (by decide) k) ?_
        show Gl p.tables e below (QQof s (Q_of Z q1 rU rS rA h0 n0) 0 0) (s₁.setTop (mkF m 43 #[.val (.int q1)] []))
        obtain ⟨T11, X11, e11, st11⟩ := getS2 X0 hx hZ hown (host := "") (Or.inl (hw _ (List.mem_of_getElem? (i := 4) rfl))) Via.refl e0 SU (g := (mkF m 43 #[.val (.int q1)] [])) rfl (hb hby d1_43)
        refine Gl.go (fun _ k => st11 _ k) ?_
        show Gl p.tables e below (QQof s (Q_of Z q1 rU rS rA h0 n0) 0 0) (T11.setTop (mkF m 46 #[.val (.int q1)] [(.ref rU)]))
        refine leafA X11 hx hlk Bd.returns rfl rfl (hb hby d1_46) ?_ (by decide) (by decide)
        exact ⟨by simp only [ofA, of2, if_neg h4_1, if_pos h11_9, if_pos h22_10], N0, e11⟩
      · skip
        refine Gl.go (fun _ k => XS.icmpNo X0.here hx rfl (hb hby d1_22) rfl (flt h22_10).1 k) ?_
        show Gl p.tables e below (QQof s (Q_of Z q1 rU rS rA h0 n0) 0 0) (s₁.setTop (mkF m 25 #[.val (.int q1)] []))
        refine Gl.go (fun _ k => XS.iloadN X0.here hx rfl (hb hby d1_25) rfl  k) ?_
        show Gl p.tables e below (QQof s (Q_of Z q1 rU rS rA h0 n0) 0 0) (s₁.setTop (mkF m 26 #[.val (.int q1)] [(.int q1)]))
        refine Gl.go (fun _ k => XS.sipush X0.here hx rfl (hb hby d1_26) k) ?_
        show Gl p.tables e below (QQof s (Q_of Z q1 rU rS rA h0 n0) 0 0) (s₁.setTop (mkF m 29 #[.val (.int q1)] [(.int (499 : Int32)), (.int q1)]))
        by_cases h29_12 : (499 : Int32) < q1
        · skip
          refine Gl.go (fun _ k => XS.icmpYes X0.here hx rfl (pc0 := 29) (pc' := 43) rfl (hb hby d1_29) rfl (tlt h29_12).2.2.1 (by decide) (by decide) k) ?_
          show Gl p.tables e below (QQof s (Q_of Z q1 rU rS rA h0 n0) 0 0) (s₁.setTop (mkF m 43 #[.val (.int q1)] []))
          obtain ⟨T13, X13, e13, st13⟩ := getS2 X0 hx hZ hown (host := "") (Or.inl (hw _ (List.mem_of_getElem? (i := 4) rfl))) Via.refl e0 SU (g := (mkF m 43 #[.val (.int q1)] [])) rfl (hb hby d1_43)
          refine Gl.go (fun _ k => st13 _ k) ?_
          show Gl p.tables e below (QQof s (Q_of Z q1 rU rS rA h0 n0) 0 0) (T13.setTop (mkF m 46 #[.val (.int q1)] [(.ref rU)]))
          refine leafA X13 hx hlk Bd.returns rfl rfl (hb hby d1_46) ?_ (by decide) (by decide)
          exact ⟨by simp only [ofA, of2, if_neg h4_1, if_pos h11_9, if_neg h22_10, if_pos h29_12], N0, e13⟩
        · skip
          refine Gl.go (fun _ k => XS.icmpNo X0.here hx rfl (hb hby d1_29) rfl (flt h29_12).2.2.1 k) ?_
          show Gl p.tables e below (QQof s (Q_of Z q1 rU rS rA h0 n0) 0 0) (s₁.setTop (mkF m 32 #[.val (.int q1)] []))
          refine Gl.go (fun _ k => XS.iloadN X0.here hx rfl (hb hby d1_32) rfl  k) ?_
          show Gl p.tables e below (QQof s (Q_of Z q1 rU rS rA h0 n0) 0 0) (s₁.setTop (mkF m 33 #[.val (.int q1)] [(.int q1)]))
          refine Gl.go (fun _ k => XS.sipush X0.here hx rfl (hb hby d1_33) k) ?_
          show Gl p.tables e below (QQof s (Q_of Z q1 rU rS rA h0 n0) 0 0) (s₁.setTop (mkF m 36 #[.val (.int q1)] [(.int (429 : Int32)), (.int q1)]))
          by_cases h36_14 : q1 = (429 : Int32)
          · skip
            refine Gl.go (fun _ k => XS.icmpYes X0.here hx rfl (pc0 := 36) (pc' := 43) rfl (hb hby d1_36) rfl (teq h36_14).1 (by decide) (by decide) k) ?_
            show Gl p.tables e below (QQof s (Q_of Z q1 rU rS rA h0 n0) 0 0) (s₁.setTop (mkF m 43 #[.val (.int q1)] []))
            obtain ⟨T15, X15, e15, st15⟩ := getS2 X0 hx hZ hown (host := "") (Or.inl (hw _ (List.mem_of_getElem? (i := 4) rfl))) Via.refl e0 SU (g := (mkF m 43 #[.val (.int q1)] [])) rfl (hb hby d1_43)
            refine Gl.go (fun _ k => st15 _ k) ?_
            show Gl p.tables e below (QQof s (Q_of Z q1 rU rS rA h0 n0) 0 0) (T15.setTop (mkF m 46 #[.val (.int q1)] [(.ref rU)]))
            refine leafA X15 hx hlk Bd.returns rfl rfl (hb hby d1_46) ?_ (by decide) (by decide)
            exact ⟨by simp only [ofA, of2, if_neg h4_1, if_pos h11_9, if_neg h22_10, if_neg h29_12, if_pos h36_14], N0, e15⟩
          · skip
            refine Gl.go (fun _ k => XS.icmpNo X0.here hx rfl (hb hby d1_36) rfl (feq h36_14).1 k) ?_
            show Gl p.tables e below (QQof s (Q_of Z q1 rU rS rA h0 n0) 0 0) (s₁.setTop (mkF m 39 #[.val (.int q1)] []))
            obtain ⟨T16, X16, e16, st16⟩ := getS2 X0 hx hZ hown (host := "") (Or.inl (hw _ (List.mem_of_getElem? (i := 14) rfl))) Via.refl e0 SA (g := (mkF m 39 #[.val (.int q1)] [])) rfl (hb hby d1_39)
            refine Gl.go (fun _ k => st16 _ k) ?_
            show Gl p.tables e below (QQof s (Q_of Z q1 rU rS rA h0 n0) 0 0) (T16.setTop (mkF m 42 #[.val (.int q1)] [(.ref rA)]))
            refine leafA X16 hx hlk Bd.returns rfl rfl (hb hby d1_42) ?_ (by decide) (by decide)
            exact ⟨by simp only [ofA, of2, if_neg h4_1, if_pos h11_9, if_neg h22_10, if_neg h29_12, if_neg h36_14], N0, e16⟩
    · skip
      refine Gl.go (fun _ k => XS.icmpNo X0.here hx rfl (hb hby d1_11) rfl (flt h11_9).2.2.1 k) ?_
      show Gl p.tables e below (QQof s (Q_of Z q1 rU rS rA h0 n0) 0 0) (s₁.setTop (mkF m 14 #[.val (.int q1)] []))
      obtain ⟨T17, X17, e17, st17⟩ := getS2 X0 hx hZ hown (host := "") (Or.inl (hw _ (List.mem_of_getElem? (i := 11) rfl))) Via.refl e0 SS (g := (mkF m 14 #[.val (.int q1)] [])) rfl (hb hby d1_14)
      refine Gl.go (fun _ k => st17 _ k) ?_
      show Gl p.tables e below (QQof s (Q_of Z q1 rU rS rA h0 n0) 0 0) (T17.setTop (mkF m 17 #[.val (.int q1)] [(.ref rS)]))
      refine leafA X17 hx hlk Bd.returns rfl rfl (hb hby d1_17) ?_ (by decide) (by decide)
      exact ⟨by simp only [ofA, of2, if_neg h4_1, if_neg h11_9], N0, e17⟩
def Q_ex (Z : State) (q1 : Int32) (rU rS rA : Addr) (h0 : Heap) (n0 : Nat) (v : Option Value) (h : Heap) (L : List Loc) : Prop := v = some (.ref (exA q1 rU rS rA)) ∧ Fr n0 L ∧ h = h0
set_option maxRecDepth 65536 in
set_option maxHeartbeats 40000000 in
theorem rm_ex (l : Launch) (Z : State) (a0 : Array Value) (hw : ∀ d ∈ tables_1, d.before a0 Z = true) (ws : List Jvm.Cond) (q1 : Int32) (rU rS rA : Addr) (h0 : Heap) (n0 : Nat) (Z0 : n0 ≤ h0.size) (SU : Sta Z h0 "com/example/aloud/aloud/fetch/FetchResult$Outcome" "UNREACHABLE" "Lcom/example/aloud/aloud/fetch/FetchResult$Outcome;" (.ref rU)) (SS : Sta Z h0 "com/example/aloud/aloud/fetch/FetchResult$Outcome" "SUCCESSFUL" "Lcom/example/aloud/aloud/fetch/FetchResult$Outcome;" (.ref rS)) (SA : Sta Z h0 "com/example/aloud/aloud/fetch/FetchResult$Outcome" "UNAVAILABLE" "Lcom/example/aloud/aloud/fetch/FetchResult$Outcome;" (.ref rA)) :
    MetFree l (⟨"com/example/aloud/aloud/fetch/OutcomeOfPinLaw", "expected", "(I)Lcom/example/aloud/aloud/fetch/FetchResult$Outcome;"⟩ : MethodName) (head1 (Jvm.Cond.code (⟨"com/example/aloud/aloud/fetch/OutcomeOfPinLaw", "expected", "(I)Lcom/example/aloud/aloud/fetch/FetchResult$Outcome;"⟩ : MethodName) method_2_code 2 (some (.object "com/example/aloud/aloud/fetch/FetchResult$Outcome")) :: ws) ({ frames := 0, cells := 0, slots := 0, locals := 0 } : Room)) (fun aa U => aa = #[(.int q1)] ∧ Z.Warmed39 U.vm ∧ U.heap = h0) (fun _ _ _ _ _ => True) (fun _ U o U' => ∃ v L, o = .returned v ∧ Q_ex Z q1 rU rS rA h0 n0 v U'.heap L ∧ FrameEnd U o U' L ({ frames := 0, cells := 0, slots := 0, locals := 0 } : Room).cells ({ frames := 0, cells := 0, slots := 0, locals := 0 } : Room).slots) := by
  refine MetFree.of_bodySF (plainFor_of_name pn_1) hisR ?_
  intro p e s m args below meth c s₁ Bd hml0 hP hK
  obtain ⟨rfl, hZ, hh⟩ := hP
  have hx := Bd.exec
  have hby := Bd.bytes
  have hml : c.maxLocals = 2 := hml0
  have hown : s.vm.findClass "com/example/aloud/aloud/fetch/OutcomeOfPinLaw" = some m.cls := findClass_of_methodNamed Bd.named
  have hnm := (name_of_methodNamed Bd.named Bd.method).1
  have hlk : meth.locks = false := BodyLoose.notSynchronized Bd
  have X0 : Stand p l e ({ frames := 0, cells := 0, slots := 0, locals := 0 } : Room) s m #[(.int q1)] below meth c s₁ [] 0 0 := Stand.of_body Bd
  have e0 : s₁.heap = h0 := by rw [← hh, Bd.state]; rfl
  have N0 := Fr.nil n0
  have K0 : Keep h0 h0 [] := Keep.refl _ _
  show Gl p.tables e below (QQof s (Q_ex Z q1 rU rS rA h0 n0) 0 0) (s₁.setTop (entryFrame m #[(.int q1)] 2))
  refine Gl.go (fun t k => castTop (ef_ex m q1) k) ?_
  show Gl p.tables e below (QQof s (Q_ex Z q1 rU rS rA h0 n0) 0 0) (s₁.setTop (mkF m 0 #[.val (.int q1), .unset] []))
  refine Gl.go (fun _ k => XS.iloadN X0.here hx rfl (hb hby d2_0) rfl  k) ?_
  show Gl p.tables e below (QQof s (Q_ex Z q1 rU rS rA h0 n0) 0 0) (s₁.setTop (mkF m 1 #[.val (.int q1), .unset] [(.int q1)]))
  refine Gl.go (fun _ k => XS.sipush X0.here hx rfl (hb hby d2_1) k) ?_
  show Gl p.tables e below (QQof s (Q_ex Z q1 rU rS rA h0 n0) 0 0) (s₁.setTop (mkF m 4 #[.val (.int q1), .unset] [(.int (200 : Int32)), (.int q1)]))
  by_cases h4_1 : q1 < (200 : Int32)
  · skip
    refine Gl.go (fun _ k => XS.icmpYes X0.here hx rfl (pc0 := 4) (pc' := 14) rfl (hb hby d2_4) rfl (tlt h4_1).1 (by decide) (by decide) k) ?_
    show Gl p.tables e below (QQof s (Q_ex Z q1 rU rS rA h0 n0) 0 0) (s₁.setTop (mkF m 14 #[.val (.int q1), .unset] []))
    obtain ⟨T2, X2, e2, st2⟩ := getS2 X0 hx hZ hown (host := "") (Or.inl (hw _ (List.mem_of_getElem? (i := 10) rfl))) Via.refl e0 SU (g := (mkF m 14 #[.val (.int q1), .unset] [])) rfl (hb hby d2_14)
    refine Gl.go (fun _ k => st2 _ k) ?_
    show Gl p.tables e below (QQof s (Q_ex Z q1 rU rS rA h0 n0) 0 0) (T2.setTop (mkF m 17 #[.val (.int q1), .unset] [(.ref rU)]))
    refine leafA X2 hx hlk Bd.returns rfl rfl (hb hby d2_17) ?_ (by decide) (by decide)
    exact ⟨by simp only [exA, if_pos h4_1], N0, e2⟩
  · skip
    refine Gl.go (fun _ k => XS.icmpNo X0.here hx rfl (hb hby d2_4) rfl (flt h4_1).1 k) ?_
    show Gl p.tables e below (QQof s (Q_ex Z q1 rU rS rA h0 n0) 0 0) (s₁.setTop (mkF m 7 #[.val (.int q1), .unset] []))
    refine Gl.go (fun _ k => XS.iloadN X0.here hx rfl (hb hby d2_7) rfl  k) ?_
    show Gl p.tables e below (QQof s (Q_ex Z q1 rU rS rA h0 n0) 0 0) (s₁.setTop (mkF m 8 #[.val (.int q1), .unset] [(.int q1)]))
    refine Gl.go (fun _ k => XS.sipush X0.here hx rfl (hb hby d2_8) k) ?_
    show Gl p.tables e below (QQof s (Q_ex Z q1 rU rS rA h0 n0) 0 0) (s₁.setTop (mkF m 11 #[.val (.int q1), .unset] [(.int (599 : Int32)), (.int q1)]))
    by_cases h11_3 : (599 : Int32) < q1
    · skip
      refine Gl.go (fun _ k => XS.icmpNo X0.here hx rfl (hb hby d2_11) rfl (tlt h11_3).2.2.2 k) ?_
      show Gl p.tables e below (QQof s (Q_ex Z q1 rU rS rA h0 n0) 0 0) (s₁.setTop (mkF m 14 #[.val (.int q1), .unset] []))
      obtain ⟨T4, X4, e4, st4⟩ := getS2 X0 hx hZ hown (host := "") (Or.inl (hw _ (List.mem_of_getElem? (i := 10) rfl))) Via.refl e0 SU (g := (mkF m 14 #[.val (.int q1), .unset] [])) rfl (hb hby d2_14)
      refine Gl.go (fun _ k => st4 _ k) ?_
      show Gl p.tables e below (QQof s (Q_ex Z q1 rU rS rA h0 n0) 0 0) (T4.setTop (mkF m 17 #[.val (.int q1), .unset] [(.ref rU)]))
      refine leafA X4 hx hlk Bd.returns rfl rfl (hb hby d2_17) ?_ (by decide) (by decide)
      exact ⟨by simp only [exA, if_neg h4_1, if_pos h11_3], N0, e4⟩
    · skip
      refine Gl.go (fun _ k => XS.icmpYes X0.here hx rfl (pc0 := 11) (pc' := 18) rfl (hb hby d2_11) rfl (flt h11_3).2.2.2 (by decide) (by decide) k) ?_
      show Gl p.tables e below (QQof s (Q_ex Z q1 rU rS rA h0 n0) 0 0) (s₁.setTop (mkF m 18 #[.val (.int q1), .unset] []))
      refine Gl.go (fun _ k => XS.iloadN X0.here hx rfl (hb hby d2_18) rfl  k) ?_
      show Gl p.tables e below (QQof s (Q_ex Z q1 rU rS rA h0 n0) 0 0) (s₁.setTop (mkF m 19 #[.val (.int q1), .unset] [(.int q1)]))
      refine Gl.go (fun _ k => XS.bipush X0.here hx rfl (hb hby d2_19) k) ?_
      show Gl p.tables e below (QQof s (Q_ex Z q1 rU rS rA h0 n0) 0 0) (s₁.setTop (mkF m 21 #[.val (.int q1), .unset] [(.int (100 : Int32)), (.int q1)]))
      refine Gl.go (fun _ k => XS.idiv X0.here hx rfl (hb hby d2_21) rfl (by decide) k) ?_
      show Gl p.tables e below (QQof s (Q_ex Z q1 rU rS rA h0 n0) 0 0) (s₁.setTop (mkF m 22 #[.val (.int q1), .unset] [(.int (q1 / (100 : Int32)))]))
      refine Gl.go (fun _ k => XS.istoreN X0.here hx rfl (hb hby d2_22) rfl (l' := #[.val (.int q1), .val (.int (q1 / (100 : Int32)))]) rfl k) ?_
      show Gl p.tables e below (QQof s (Q_ex Z q1 rU rS rA h0 n0) 0 0) (s₁.setTop (mkF m 23 #[.val (.int q1), .val (.int (q1 / (100 : Int32)))] []))
      refine Gl.go (fun _ k => XS.iloadN X0.here hx rfl (hb hby d2_23) rfl  k) ?_
      show Gl p.tables e below (QQof s (Q_ex Z q1 rU rS rA h0 n0) 0 0) (s₁.setTop (mkF m 24 #[.val (.int q1), .val (.int (q1 / (100 : Int32)))] [(.int (q1 / (100 : Int32)))]))
      refine Gl.go (fun _ k => XS.iconst X0.here hx rfl (hb hby d2_24) k) ?_
      show Gl p.tables e below (QQof s (Q_ex Z q1 rU rS rA h0 n0) 0 0) (s₁.setTop (mkF m 25 #[.val (.int q1), .val (.int (q1 / (100 : Int32)))] [(.int (2 : Int32)), (.int (q1 / (100 : Int32)))]))
      by_cases h25_5 : (q1 / (100 : Int32)) = (2 : Int32)
      · skip
        refine Gl.go (fun _ k => XS.icmpNo X0.here hx rfl (hb hby d2_25) rfl (teq h25_5).2 k) ?_
        show Gl p.tables e below (QQof s (Q_ex Z q1 rU rS rA h0 n0) 0 0) (s₁.setTop (mkF m 28 #[.val (.int q1), .val (.int (q1 / (100 : Int32)))] []))
        obtain ⟨T6, X6, e6, st6⟩ := getS2 X0 hx hZ hown (host := "") (Or.inl (hw _ (List.mem_of_getElem? (i := 13) rfl))) Via.refl e0 SS (g := (mkF m 28 #[.val (.int q1), .val (.int (q1 / (100 : Int32)))] [])) rfl (hb hby d2_28)
        refine Gl.go (fun _ k => st6 _ k) ?_
        show Gl p.tables e below (QQof s (Q_ex Z q1 rU rS rA h0 n0) 0 0) (T6.setTop (mkF m 31 #[.val (.int q1), .val (.int (q1 / (100 : Int32)))] [(.ref rS)]))
        refine leafA X6 hx hlk Bd.returns rfl rfl (hb hby d2_31) ?_ (by decide) (by decide)
        exact ⟨by simp only [exA, if_neg h4_1, if_neg h11_3, if_pos h25_5], N0, e6⟩
      · skip
        refine Gl.go (fun _ k => XS.icmpYes X0.here hx rfl (pc0 := 25) (pc' := 32) rfl (hb hby d2_25) rfl (feq h25_5).2 (by decide) (by decide) k) ?_
        show Gl p.tables e below (QQof s (Q_ex Z q1 rU rS rA h0 n0) 0 0) (s₁.setTop (mkF m 32 #[.val (.int q1), .val (.int (q1 / (100 : Int32)))] []))
        refine Gl.go (fun _ k => XS.iloadN X0.here hx rfl (hb hby d2_32) rfl  k) ?_
        show Gl p.tables e below (QQof s (Q_ex Z q1 rU rS rA h0 n0) 0 0) (s₁.setTop (mkF m 33 #[.val (.int q1), .val (.int (q1 / (100 : Int32)))] [(.int (q1 / (100 : Int32)))]))
        refine Gl.go (fun _ k => XS.iconst X0.here hx rfl (hb hby d2_33) k) ?_
        show Gl p.tables e below (QQof s (Q_ex Z q1 rU rS rA h0 n0) 0 0) (s₁.setTop (mkF m 34 #[.val (.int q1), .val (.int (q1 / (100 : Int32)))] [(.int (5 : Int32)), (.int (q1 / (100 : Int32)))]))
        by_cases h34_7 : (q1 / (100 : Int32)) = (5 : Int32)
        · skip
          refine Gl.go (fun _ k => XS.icmpNo X0.here hx rfl (hb hby d2_34) rfl (teq h34_7).2 k) ?_
          show Gl p.tables e below (QQof s (Q_ex Z q1 rU rS rA h0 n0) 0 0) (s₁.setTop (mkF m 37 #[.val (.int q1), .val (.int (q1 / (100 : Int32)))] []))
          obtain ⟨T8, X8, e8, st8⟩ := getS2 X0 hx hZ hown (host := "") (Or.inl (hw _ (List.mem_of_getElem? (i := 10) rfl))) Via.refl e0 SU (g := (mkF m 37 #[.val (.int q1), .val (.int (q1 / (100 : Int32)))] [])) rfl (hb hby d2_37)
          refine Gl.go (fun _ k => st8 _ k) ?_
          show Gl p.tables e below (QQof s (Q_ex Z q1 rU rS rA h0 n0) 0 0) (T8.setTop (mkF m 40 #[.val (.int q1), .val (.int (q1 / (100 : Int32)))] [(.ref rU)]))
          refine leafA X8 hx hlk Bd.returns rfl rfl (hb hby d2_40) ?_ (by decide) (by decide)
          exact ⟨by simp only [exA, if_neg h4_1, if_neg h11_3, if_neg h25_5, if_pos h34_7], N0, e8⟩
        · skip
          refine Gl.go (fun _ k => XS.icmpYes X0.here hx rfl (pc0 := 34) (pc' := 41) rfl (hb hby d2_34) rfl (feq h34_7).2 (by decide) (by decide) k) ?_
          show Gl p.tables e below (QQof s (Q_ex Z q1 rU rS rA h0 n0) 0 0) (s₁.setTop (mkF m 41 #[.val (.int q1), .val (.int (q1 / (100 : Int32)))] []))
          refine Gl.go (fun _ k => XS.iloadN X0.here hx rfl (hb hby d2_41) rfl  k) ?_
          show Gl p.tables e below (QQof s (Q_ex Z q1 rU rS rA h0 n0) 0 0) (s₁.setTop (mkF m 42 #[.val (.int q1), .val (.int (q1 / (100 : Int32)))] [(.int q1)]))
          refine Gl.go (fun _ k => XS.sipush X0.here hx rfl (hb hby d2_42) k) ?_
          show Gl p.tables e below (QQof s (Q_ex Z q1 rU rS rA h0 n0) 0 0) (s₁.setTop (mkF m 45 #[.val (.int q1), .val (.int (q1 / (100 : Int32)))] [(.int (429 : Int32)), (.int q1)]))
          by_cases h45_9 : q1 = (429 : Int32)
          · skip
            refine Gl.go (fun _ k => XS.icmpNo X0.here hx rfl (hb hby d2_45) rfl (teq h45_9).2 k) ?_
            show Gl p.tables e below (QQof s (Q_ex Z q1 rU rS rA h0 n0) 0 0) (s₁.setTop (mkF m 48 #[.val (.int q1), .val (.int (q1 / (100 : Int32)))] []))
            obtain ⟨T10, X10, e10, st10⟩ := getS2 X0 hx hZ hown (host := "") (Or.inl (hw _ (List.mem_of_getElem? (i := 10) rfl))) Via.refl e0 SU (g := (mkF m 48 #[.val (.int q1), .val (.int (q1 / (100 : Int32)))] [])) rfl (hb hby d2_48)
            refine Gl.go (fun _ k => st10 _ k) ?_
            show Gl p.tables e below (QQof s (Q_ex Z q1 rU rS rA h0 n0) 0 0) (T10.setTop (mkF m 51 #[.val (.int q1), .val (.int (q1 / (100 : Int32)))] [(.ref rU)]))
            refine leafA X10 hx hlk Bd.returns rfl rfl (hb hby d2_51) ?_ (by decide) (by decide)
            exact ⟨by simp only [exA, if_neg h4_1, if_neg h11_3, if_neg h25_5, if_neg h34_7, if_pos h45_9], N0, e10⟩
          · skip
            refine Gl.go (fun _ k => XS.icmpYes X0.here hx rfl (pc0 := 45) (pc' := 52) rfl (hb hby d2_45) rfl (feq h45_9).2 (by decide) (by decide) k) ?_
            show Gl p.tables e below (QQof s (Q_ex Z q1 rU rS rA h0 n0) 0 0) (s₁.setTop (mkF m 52 #[.val (.int q1), .val (.int (q1 / (100 : Int32)))] []))
            obtain ⟨T11, X11, e11, st11⟩ := getS2 X0 hx hZ hown (host := "") (Or.inl (hw _ (List.mem_of_getElem? (i := 16) rfl))) Via.refl e0 SA (g := (mkF m 52 #[.val (.int q1), .val (.int (q1 / (100 : Int32)))] [])) rfl (hb hby d2_52)
            refine Gl.go (fun _ k => st11 _ k) ?_
            show Gl p.tables e below (QQof s (Q_ex Z q1 rU rS rA h0 n0) 0 0) (T11.setTop (mkF m 55 #[.val (.int q1), .val (.int (q1 / (100 : Int32)))] [(.ref rA)]))
            refine leafA X11 hx hlk Bd.returns rfl rfl (hb hby d2_55) ?_ (by decide) (by decide)
            exact ⟨by simp only [exA, if_neg h4_1, if_neg h11_3, if_neg h25_5, if_neg h34_7, if_neg h45_9], N0, e11⟩
def Q_law (Z : State) (a b : Int32) (rU rS rA : Addr) (h0 : Heap) (n0 : Nat) (v : Option Value) (h : Heap) (L : List Loc) : Prop := v = some (.int 1) ∧ Fr n0 L
set_option maxRecDepth 65536 in
set_option maxHeartbeats 40000000 in
theorem rm_law (l : Launch) (Z : State) (a0 : Array Value) (hw : ∀ d ∈ tables_1, d.before a0 Z = true) (ws : List Jvm.Cond) (a b : Int32) (rU rS rA : Addr) (h0 : Heap) (n0 : Nat) (Z0 : n0 ≤ h0.size) (SU : Sta Z h0 "com/example/aloud/aloud/fetch/FetchResult$Outcome" "UNREACHABLE" "Lcom/example/aloud/aloud/fetch/FetchResult$Outcome;" (.ref rU)) (SS : Sta Z h0 "com/example/aloud/aloud/fetch/FetchResult$Outcome" "SUCCESSFUL" "Lcom/example/aloud/aloud/fetch/FetchResult$Outcome;" (.ref rS)) (SA : Sta Z h0 "com/example/aloud/aloud/fetch/FetchResult$Outcome" "UNAVAILABLE" "Lcom/example/aloud/aloud/fetch/FetchResult$Outcome;" (.ref rA)) :
    MetFree l x (head1 (Jvm.Cond.code x code maxLocals ret :: ws) room_1) (fun aa U => aa = #[(.int a), (.int b)] ∧ Z.Warmed39 U.vm ∧ U.heap = h0) (fun _ _ _ _ _ => True) (fun _ U o U' => ∃ v L, o = .returned v ∧ Q_law Z a b rU rS rA h0 n0 v U'.heap L ∧ FrameEnd U o U' L 0 0) := by
  refine MetFree.of_bodySF (plainFor_of_name pn_1) hisR ?_
  intro p e s m args below meth c s₁ Bd hml0 hP hK
  obtain ⟨rfl, hZ, hh⟩ := hP
  have hx := Bd.exec
  have hby := Bd.bytes
  have hml : c.maxLocals = 5 := hml0
  have hown : s.vm.findClass "com/example/aloud/aloud/fetch/OutcomeOfPinLaw" = some m.cls := findClass_of_methodNamed Bd.named
  have hnm := (name_of_methodNamed Bd.named Bd.method).1
  have hlk : meth.locks = false := BodyLoose.notSynchronized Bd
  have X0 : Stand p l e room_1 s m #[(.int a), (.int b)] below meth c s₁ [] 0 0 := Stand.of_body Bd
  have e0 : s₁.heap = h0 := by rw [← hh, Bd.state]; rfl
  have N0 := Fr.nil n0
  have K0 : Keep h0 h0 [] := Keep.refl _ _
  show Gl p.tables e below (QQof s (Q_law Z a b rU rS rA h0 n0) 0 0) (s₁.setTop (entryFrame m #[(.int a), (.int b)] maxLocals))
  refine Gl.go (fun t k => castTop (ef_law m a b) k) ?_
  show Gl p.tables e below (QQof s (Q_law Z a b rU rS rA h0 n0) 0 0) (s₁.setTop (mkF m 0 #[.val (.int a), .val (.int b), .unset, .unset, .unset] []))
  refine Gl.go (fun _ k => XS.iloadN X0.here hx rfl (hb hby at_0) rfl  k) ?_
  show Gl p.tables e below (QQof s (Q_law Z a b rU rS rA h0 n0) 0 0) (s₁.setTop (mkF m 1 #[.val (.int a), .val (.int b), .unset, .unset, .unset] [(.int b)]))
  refine Gl.go (fun _ k => XS.iconst X0.here hx rfl (hb hby at_1) k) ?_
  show Gl p.tables e below (QQof s (Q_law Z a b rU rS rA h0 n0) 0 0) (s₁.setTop (mkF m 2 #[.val (.int a), .val (.int b), .unset, .unset, .unset] [(.int (3 : Int32)), (.int b)]))
  refine Gl.go (fun _ k => XS.iand X0.here hx rfl (hb hby at_2) rfl k) ?_
  show Gl p.tables e below (QQof s (Q_law Z a b rU rS rA h0 n0) 0 0) (s₁.setTop (mkF m 3 #[.val (.int a), .val (.int b), .unset, .unset, .unset] [(.int (b &&& (3 : Int32)))]))
  refine Gl.go (fun _ k => XS.istoreN X0.here hx rfl (hb hby at_3) rfl (l' := #[.val (.int a), .val (.int b), .val (.int (b &&& (3 : Int32))), .unset, .unset]) rfl k) ?_
  show Gl p.tables e below (QQof s (Q_law Z a b rU rS rA h0 n0) 0 0) (s₁.setTop (mkF m 4 #[.val (.int a), .val (.int b), .val (.int (b &&& (3 : Int32))), .unset, .unset] []))
  refine Gl.go (fun _ k => XS.iloadN X0.here hx rfl (hb hby at_4) rfl  k) ?_
  show Gl p.tables e below (QQof s (Q_law Z a b rU rS rA h0 n0) 0 0) (s₁.setTop (mkF m 5 #[.val (.int a), .val (.int b), .val (.int (b &&& (3 : Int32))), .unset, .unset] [(.int (b &&& (3 : Int32)))]))
  have D5_1 : ∀ t, Steps p.tables e below (s₁.setTop (mkF m 57 #[.val (.int a), .val (.int b), .val (.int (b &&& (3 : Int32))), .val (.int (if (b &&& (3 : Int32)) = (0 : Int32) then a else (if (b &&& (3 : Int32)) = (1 : Int32) then ((150 : Int32) + (a &&& (511 : Int32))) else (if (b &&& (3 : Int32)) = (2 : Int32) then ((420 : Int32) + (a &&& (15 : Int32))) else ((190 : Int32) + (a &&& (127 : Int32))))))), .unset] [])) t → Steps p.tables e below (s₁.setTop (mkF m 5 #[.val (.int a), .val (.int b), .val (.int (b &&& (3 : Int32))), .unset, .unset] [(.int (b &&& (3 : Int32)))])) t := by
    intro t k
    show Steps p.tables e below (s₁.setTop (mkF m 5 #[.val (.int a), .val (.int b), .val (.int (b &&& (3 : Int32))), .unset, .unset] [(.int (b &&& (3 : Int32)))])) _
    by_cases hd5_2 : (b &&& (3 : Int32)) = (0 : Int32)
    · skip
      refine XS.ifNo X0.here hx rfl (hb hby at_5) rfl ((if0 _ _).trans (teq hd5_2).2) ?_
      show Steps p.tables e below (s₁.setTop (mkF m 8 #[.val (.int a), .val (.int b), .val (.int (b &&& (3 : Int32))), .unset, .unset] [])) _
      refine XS.iloadN X0.here hx rfl (hb hby at_8) rfl  ?_
      show Steps p.tables e below (s₁.setTop (mkF m 9 #[.val (.int a), .val (.int b), .val (.int (b &&& (3 : Int32))), .unset, .unset] [(.int a)])) _
      refine XS.istoreN X0.here hx rfl (hb hby at_9) rfl (l' := #[.val (.int a), .val (.int b), .val (.int (b &&& (3 : Int32))), .val (.int a), .unset]) rfl ?_
      show Steps p.tables e below (s₁.setTop (mkF m 10 #[.val (.int a), .val (.int b), .val (.int (b &&& (3 : Int32))), .val (.int a), .unset] [])) _
      refine XS.goto X0.here hx rfl (pc0 := 10) (pc' := 57) rfl (hb hby at_10) (by decide) (by decide) ?_
      show Steps p.tables e below (s₁.setTop (mkF m 57 #[.val (.int a), .val (.int b), .val (.int (b &&& (3 : Int32))), .val (.int a), .unset] [])) _
      simp only [if_pos hd5_2] at k
      exact k
    · skip
      refine XS.ifYes X0.here hx rfl (pc0 := 5) (pc' := 13) rfl (hb hby at_5) rfl ((if0 _ _).trans (feq hd5_2).2) (by decide) (by decide) ?_
      show Steps p.tables e below (s₁.setTop (mkF m 13 #[.val (.int a), .val (.int b), .val (.int (b &&& (3 : Int32))), .unset, .unset] [])) _
      refine XS.iloadN X0.here hx rfl (hb hby at_13) rfl  ?_
      show Steps p.tables e below (s₁.setTop (mkF m 14 #[.val (.int a), .val (.int b), .val (.int (b &&& (3 : Int32))), .unset, .unset] [(.int (b &&& (3 : Int32)))])) _
      refine XS.iconst X0.here hx rfl (hb hby at_14) ?_
      show Steps p.tables e below (s₁.setTop (mkF m 15 #[.val (.int a), .val (.int b), .val (.int (b &&& (3 : Int32))), .unset, .unset] [(.int (1 : Int32)), (.int (b &&& (3 : Int32)))])) _
      by_cases hd15_3 : (b &&& (3 : Int32)) = (1 : Int32)
      · skip
        refine XS.icmpNo X0.here hx rfl (hb hby at_15) rfl (teq hd15_3).2 ?_
        show Steps p.tables e below (s₁.setTop (mkF m 18 #[.val (.int a), .val (.int b), .val (.int (b &&& (3 : Int32))), .unset, .unset] [])) _
        refine XS.sipush X0.here hx rfl (hb hby at_18) ?_
        show Steps p.tables e below (s₁.setTop (mkF m 21 #[.val (.int a), .val (.int b), .val (.int (b &&& (3 : Int32))), .unset, .unset] [(.int (150 : Int32))])) _
        refine XS.iloadN X0.here hx rfl (hb hby at_21) rfl  ?_
        show Steps p.tables e below (s₁.setTop (mkF m 22 #[.val (.int a), .val (.int b), .val (.int (b &&& (3 : Int32))), .unset, .unset] [(.int a), (.int (150 : Int32))])) _
        refine XS.sipush X0.here hx rfl (hb hby at_22) ?_
        show Steps p.tables e below (s₁.setTop (mkF m 25 #[.val (.int a), .val (.int b), .val (.int (b &&& (3 : Int32))), .unset, .unset] [(.int (511 : Int32)), (.int a), (.int (150 : Int32))])) _
        refine XS.iand X0.here hx rfl (hb hby at_25) rfl ?_
        show Steps p.tables e below (s₁.setTop (mkF m 26 #[.val (.int a), .val (.int b), .val (.int (b &&& (3 : Int32))), .unset, .unset] [(.int (a &&& (511 : Int32))), (.int (150 : Int32))])) _
        refine XS.iadd X0.here hx rfl (hb hby at_26) rfl ?_
        show Steps p.tables e below (s₁.setTop (mkF m 27 #[.val (.int a), .val (.int b), .val (.int (b &&& (3 : Int32))), .unset, .unset] [(.int ((150 : Int32) + (a &&& (511 : Int32))))])) _
        refine XS.istoreN X0.here hx rfl (hb hby at_27) rfl (l' := #[.val (.int a), .val (.int b), .val (.int (b &&& (3 : Int32))), .val (.int ((150 : Int32) + (a &&& (511 : Int32)))), .unset]) rfl ?_
        show Steps p.tables e below (s₁.setTop (mkF m 28 #[.val (.int a), .val (.int b), .val (.int (b &&& (3 : Int32))), .val (.int ((150 : Int32) + (a &&& (511 : Int32)))), .unset] [])) _
        refine XS.goto X0.here hx rfl (pc0 := 28) (pc' := 57) rfl (hb hby at_28) (by decide) (by decide) ?_
        show Steps p.tables e below (s₁.setTop (mkF m 57 #[.val (.int a), .val (.int b), .val (.int (b &&& (3 : Int32))), .val (.int ((150 : Int32) + (a &&& (511 : Int32)))), .unset] [])) _
        simp only [if_neg hd5_2, if_pos hd15_3] at k
        exact k
      · skip
        refine XS.icmpYes X0.here hx rfl (pc0 := 15) (pc' := 31) rfl (hb hby at_15) rfl (feq hd15_3).2 (by decide) (by decide) ?_
        show Steps p.tables e below (s₁.setTop (mkF m 31 #[.val (.int a), .val (.int b), .val (.int (b &&& (3 : Int32))), .unset, .unset] [])) _
        refine XS.iloadN X0.here hx rfl (hb hby at_31) rfl  ?_
        show Steps p.tables e below (s₁.setTop (mkF m 32 #[.val (.int a), .val (.int b), .val (.int (b &&& (3 : Int32))), .unset, .unset] [(.int (b &&& (3 : Int32)))])) _
        refine XS.iconst X0.here hx rfl (hb hby at_32) ?_
        show Steps p.tables e below (s₁.setTop (mkF m 33 #[.val (.int a), .val (.int b), .val (.int (b &&& (3 : Int32))), .unset, .unset] [(.int (2 : Int32)), (.int (b &&& (3 : Int32)))])) _
        by_cases hd33_4 : (b &&& (3 : Int32)) = (2 : Int32)
        · skip
          refine XS.icmpNo X0.here hx rfl (hb hby at_33) rfl (teq hd33_4).2 ?_
          show Steps p.tables e below (s₁.setTop (mkF m 36 #[.val (.int a), .val (.int b), .val (.int (b &&& (3 : Int32))), .unset, .unset] [])) _
          refine XS.sipush X0.here hx rfl (hb hby at_36) ?_
          show Steps p.tables e below (s₁.setTop (mkF m 39 #[.val (.int a), .val (.int b), .val (.int (b &&& (3 : Int32))), .unset, .unset] [(.int (420 : Int32))])) _
          refine XS.iloadN X0.here hx rfl (hb hby at_39) rfl  ?_
          show Steps p.tables e below (s₁.setTop (mkF m 40 #[.val (.int a), .val (.int b), .val (.int (b &&& (3 : Int32))), .unset, .unset] [(.int a), (.int (420 : Int32))])) _
          refine XS.bipush X0.here hx rfl (hb hby at_40) ?_
          show Steps p.tables e below (s₁.setTop (mkF m 42 #[.val (.int a), .val (.int b), .val (.int (b &&& (3 : Int32))), .unset, .unset] [(.int (15 : Int32)), (.int a), (.int (420 : Int32))])) _
          refine XS.iand X0.here hx rfl (hb hby at_42) rfl ?_
          show Steps p.tables e below (s₁.setTop (mkF m 43 #[.val (.int a), .val (.int b), .val (.int (b &&& (3 : Int32))), .unset, .unset] [(.int (a &&& (15 : Int32))), (.int (420 : Int32))])) _
          refine XS.iadd X0.here hx rfl (hb hby at_43) rfl ?_
          show Steps p.tables e below (s₁.setTop (mkF m 44 #[.val (.int a), .val (.int b), .val (.int (b &&& (3 : Int32))), .unset, .unset] [(.int ((420 : Int32) + (a &&& (15 : Int32))))])) _
          refine XS.istoreN X0.here hx rfl (hb hby at_44) rfl (l' := #[.val (.int a), .val (.int b), .val (.int (b &&& (3 : Int32))), .val (.int ((420 : Int32) + (a &&& (15 : Int32)))), .unset]) rfl ?_
          show Steps p.tables e below (s₁.setTop (mkF m 45 #[.val (.int a), .val (.int b), .val (.int (b &&& (3 : Int32))), .val (.int ((420 : Int32) + (a &&& (15 : Int32)))), .unset] [])) _
          refine XS.goto X0.here hx rfl (pc0 := 45) (pc' := 57) rfl (hb hby at_45) (by decide) (by decide) ?_
          show Steps p.tables e below (s₁.setTop (mkF m 57 #[.val (.int a), .val (.int b), .val (.int (b &&& (3 : Int32))), .val (.int ((420 : Int32) + (a &&& (15 : Int32)))), .unset] [])) _
          simp only [if_neg hd5_2, if_neg hd15_3, if_pos hd33_4] at k
          exact k
        · skip
          refine XS.icmpYes X0.here hx rfl (pc0 := 33) (pc' := 48) rfl (hb hby at_33) rfl (feq hd33_4).2 (by decide) (by decide) ?_
          show Steps p.tables e below (s₁.setTop (mkF m 48 #[.val (.int a), .val (.int b), .val (.int (b &&& (3 : Int32))), .unset, .unset] [])) _
          refine XS.sipush X0.here hx rfl (hb hby at_48) ?_
          show Steps p.tables e below (s₁.setTop (mkF m 51 #[.val (.int a), .val (.int b), .val (.int (b &&& (3 : Int32))), .unset, .unset] [(.int (190 : Int32))])) _
          refine XS.iloadN X0.here hx rfl (hb hby at_51) rfl  ?_
          show Steps p.tables e below (s₁.setTop (mkF m 52 #[.val (.int a), .val (.int b), .val (.int (b &&& (3 : Int32))), .unset, .unset] [(.int a), (.int (190 : Int32))])) _
          refine XS.bipush X0.here hx rfl (hb hby at_52) ?_
          show Steps p.tables e below (s₁.setTop (mkF m 54 #[.val (.int a), .val (.int b), .val (.int (b &&& (3 : Int32))), .unset, .unset] [(.int (127 : Int32)), (.int a), (.int (190 : Int32))])) _
          refine XS.iand X0.here hx rfl (hb hby at_54) rfl ?_
          show Steps p.tables e below (s₁.setTop (mkF m 55 #[.val (.int a), .val (.int b), .val (.int (b &&& (3 : Int32))), .unset, .unset] [(.int (a &&& (127 : Int32))), (.int (190 : Int32))])) _
          refine XS.iadd X0.here hx rfl (hb hby at_55) rfl ?_
          show Steps p.tables e below (s₁.setTop (mkF m 56 #[.val (.int a), .val (.int b), .val (.int (b &&& (3 : Int32))), .unset, .unset] [(.int ((190 : Int32) + (a &&& (127 : Int32))))])) _
          refine XS.istoreN X0.here hx rfl (hb hby at_56) rfl (l' := #[.val (.int a), .val (.int b), .val (.int (b &&& (3 : Int32))), .val (.int ((190 : Int32) + (a &&& (127 : Int32)))), .unset]) rfl ?_
          show Steps p.tables e below (s₁.setTop (mkF m 57 #[.val (.int a), .val (.int b), .val (.int (b &&& (3 : Int32))), .val (.int ((190 : Int32) + (a &&& (127 : Int32)))), .unset] [])) _
          simp only [if_neg hd5_2, if_neg hd15_3, if_neg hd33_4] at k
          exact k
  refine Gl.go (fun _ k => D5_1 _ k) ?_
  show Gl p.tables e below (QQof s (Q_law Z a b rU rS rA h0 n0) 0 0) (s₁.setTop (mkF m 57 #[.val (.int a), .val (.int b), .val (.int (b &&& (3 : Int32))), .val (.int (if (b &&& (3 : Int32)) = (0 : Int32) then a else (if (b &&& (3 : Int32)) = (1 : Int32) then ((150 : Int32) + (a &&& (511 : Int32))) else (if (b &&& (3 : Int32)) = (2 : Int32) then ((420 : Int32) + (a &&& (15 : Int32))) else ((190 : Int32) + (a &&& (127 : Int32))))))), .unset] []))
  generalize h_cd : (if (b &&& (3 : Int32)) = (0 : Int32) then a else (if (b &&& (3 : Int32)) = (1 : Int32) then ((150 : Int32) + (a &&& (511 : Int32))) else (if (b &&& (3 : Int32)) = (2 : Int32) then ((420 : Int32) + (a &&& (15 : Int32))) else ((190 : Int32) + (a &&& (127 : Int32)))))) = cd
  show Gl p.tables e below (QQof s (Q_law Z a b rU rS rA h0 n0) 0 0) (s₁.setTop (mkF m 57 #[.val (.int a), .val (.int b), .val (.int (b &&& (3 : Int32))), .val (.int cd), .unset] []))
  refine Gl.go (fun _ k => XS.iloadN X0.here hx rfl (hb hby at_57) rfl  k) ?_
  show Gl p.tables e below (QQof s (Q_law Z a b rU rS rA h0 n0) 0 0) (s₁.setTop (mkF m 58 #[.val (.int a), .val (.int b), .val (.int (b &&& (3 : Int32))), .val (.int cd), .unset] [(.int cd)]))
  obtain ⟨_, _, ⟨T5, L5, k5, n5⟩, -, X5, ⟨Lc5, hQ5, l5, y5, z5⟩, st5⟩ := Jvm.LawKit.callS X0 hx (y := (⟨"com/example/aloud/aloud/fetch/FetchResult$Outcome", "of", "(I)Lcom/example/aloud/aloud/fetch/FetchResult$Outcome;"⟩ : MethodName)) hown (mvT hZ (hw _ (List.mem_of_getElem? (i := 0) rfl))) (mvT hZ (hw _ (List.mem_of_getElem? (i := 1) rfl))) (mvT hZ (hw _ (List.mem_of_getElem? (i := 2) rfl))) (mvT hZ (hw _ (List.mem_of_getElem? (i := 3) rfl))) (by decide) (backOf (W := 0) (rm_of l Z a0 hw [] cd rU rS rA h0 n0 Z0 SU SS SA) hZ (hw _ (List.mem_of_getElem? (i := 3) rfl)) (hw _ (List.mem_of_getElem? (i := 2) rfl)) (by decide) (by decide)) (g := (mkF m 58 #[.val (.int a), .val (.int b), .val (.int (b &&& (3 : Int32))), .val (.int cd), .unset] [(.int cd)])) rfl (by rw [hml]; rfl) (argsL := [(.int cd)]) (rest := []) (lenOf pd_0 rfl) rfl (by show 2 * 0 + _ ≤ _; exact Nat.le_of_eq rfl) (hb hby at_58) (fun _ _ => ⟨rfl, e0, (by decide : 0 + 0 ≤ _), (by decide : 0 + 0 ≤ _)⟩)
  dsimp only [Pt.U, Pt.locs, Pt.cells, Pt.slots] at X5 l5 y5 z5 st5 hQ5
  subst l5 y5 z5
  obtain ⟨rfl, Nq5, e5⟩ := hQ5
  have N5 := Fr.app N0 Nq5
  refine Gl.go (fun _ k => st5 _ k) ?_
  show Gl p.tables e below (QQof s (Q_law Z a b rU rS rA h0 n0) 0 0) (T5.setTop (mkF m 61 #[.val (.int a), .val (.int b), .val (.int (b &&& (3 : Int32))), .val (.int cd), .unset] [(.ref (ofA cd rU rS rA))]))
  refine Gl.go (fun _ k => XS.astore X5.here hx rfl (hb hby at_61) rfl rfl (l' := #[.val (.int a), .val (.int b), .val (.int (b &&& (3 : Int32))), .val (.int cd), .val (.ref (ofA cd rU rS rA))]) rfl k) ?_
  show Gl p.tables e below (QQof s (Q_law Z a b rU rS rA h0 n0) 0 0) (T5.setTop (mkF m 63 #[.val (.int a), .val (.int b), .val (.int (b &&& (3 : Int32))), .val (.int cd), .val (.ref (ofA cd rU rS rA))] []))
  refine Gl.go (fun _ k => XS.aload X5.here hx rfl (hb hby at_63) rfl rfl  k) ?_
  show Gl p.tables e below (QQof s (Q_law Z a b rU rS rA h0 n0) 0 0) (T5.setTop (mkF m 65 #[.val (.int a), .val (.int b), .val (.int (b &&& (3 : Int32))), .val (.int cd), .val (.ref (ofA cd rU rS rA))] [(.ref (ofA cd rU rS rA))]))
  refine Gl.go (fun _ k => XS.iloadN X5.here hx rfl (hb hby at_65) rfl  k) ?_
  show Gl p.tables e below (QQof s (Q_law Z a b rU rS rA h0 n0) 0 0) (T5.setTop (mkF m 66 #[.val (.int a), .val (.int b), .val (.int (b &&& (3 : Int32))), .val (.int cd), .val (.ref (ofA cd rU rS rA))] [(.int cd), (.ref (ofA cd rU rS rA))]))
  obtain ⟨_, _, ⟨T6, L6, k6, n6⟩, -, X6, ⟨Lc6, hQ6, l6, y6, z6⟩, st6⟩ := Jvm.LawKit.callS X5 hx (y := (⟨"com/example/aloud/aloud/fetch/OutcomeOfPinLaw", "expected", "(I)Lcom/example/aloud/aloud/fetch/FetchResult$Outcome;"⟩ : MethodName)) hown (mvT hZ (hw _ (List.mem_of_getElem? (i := 6) rfl))) (mvT hZ (hw _ (List.mem_of_getElem? (i := 7) rfl))) (mvT hZ (hw _ (List.mem_of_getElem? (i := 8) rfl))) (mvT hZ (hw _ (List.mem_of_getElem? (i := 9) rfl))) (by decide) (backOf (W := 1) (rm_ex l Z a0 hw [] cd rU rS rA h0 n0 Z0 SU SS SA) hZ (hw _ (List.mem_of_getElem? (i := 9) rfl)) (hw _ (List.mem_of_getElem? (i := 8) rfl)) (by decide) (by decide)) (g := (mkF m 66 #[.val (.int a), .val (.int b), .val (.int (b &&& (3 : Int32))), .val (.int cd), .val (.ref (ofA cd rU rS rA))] [(.int cd), (.ref (ofA cd rU rS rA))])) rfl (by rw [hml]; rfl) (argsL := [(.int cd)]) (rest := [(.ref (ofA cd rU rS rA))]) (lenOf pd_0 rfl) rfl (by show 2 * 0 + _ ≤ _; exact Nat.le_of_eq rfl) (hb hby at_66) (fun _ _ => ⟨rfl, e5, (by decide : 0 + 0 ≤ _), (by decide : 0 + 0 ≤ _)⟩)
  dsimp only [Pt.U, Pt.locs, Pt.cells, Pt.slots] at X6 l6 y6 z6 st6 hQ6
  subst l6 y6 z6
  obtain ⟨rfl, Nq6, e6⟩ := hQ6
  have N6 := Fr.app N5 Nq6
  refine Gl.go (fun _ k => st6 _ k) ?_
  show Gl p.tables e below (QQof s (Q_law Z a b rU rS rA h0 n0) 0 0) (T6.setTop (mkF m 69 #[.val (.int a), .val (.int b), .val (.int (b &&& (3 : Int32))), .val (.int cd), .val (.ref (ofA cd rU rS rA))] [(.ref (exA cd rU rS rA)), (.ref (ofA cd rU rS rA))]))
  refine Gl.go (fun _ k => Jvm.RoadKit.acmp (g := (mkF m 69 #[.val (.int a), .val (.int b), .val (.int (b &&& (3 : Int32))), .val (.int cd), .val (.ref (ofA cd rU rS rA))] [(.ref (exA cd rU rS rA)), (.ref (ofA cd rU rS rA))])) X6 hx rfl rfl rfl (pc0 := 69) (pc' := 72) (same := true) rfl (hb hby at_69) rfl (decide_eq_true (congrArg Value.ref (own_eq cd rU rS rA))) (by decide) (by decide) k) ?_
  show Gl p.tables e below (QQof s (Q_law Z a b rU rS rA h0 n0) 0 0) (T6.setTop (mkF m 72 #[.val (.int a), .val (.int b), .val (.int (b &&& (3 : Int32))), .val (.int cd), .val (.ref (ofA cd rU rS rA))] []))
  refine Gl.go (fun _ k => XS.iconst X6.here hx rfl (hb hby at_72) k) ?_
  show Gl p.tables e below (QQof s (Q_law Z a b rU rS rA h0 n0) 0 0) (T6.setTop (mkF m 73 #[.val (.int a), .val (.int b), .val (.int (b &&& (3 : Int32))), .val (.int cd), .val (.ref (ofA cd rU rS rA))] [(.int (1 : Int32))]))
  refine Gl.go (fun _ k => XS.goto X6.here hx rfl (pc0 := 73) (pc' := 77) rfl (hb hby at_73) (by decide) (by decide) k) ?_
  show Gl p.tables e below (QQof s (Q_law Z a b rU rS rA h0 n0) 0 0) (T6.setTop (mkF m 77 #[.val (.int a), .val (.int b), .val (.int (b &&& (3 : Int32))), .val (.int cd), .val (.ref (ofA cd rU rS rA))] [(.int (1 : Int32))]))
  refine leafN X6 hx hlk (t := .boolean) Bd.returns (by simp) (hb hby at_77) ?_ (by decide) (by decide)
  exact ⟨rfl, N6⟩
set_option maxRecDepth 65536 in
set_option maxHeartbeats 40000000 in
theorem comes_1 {Post : Tables → Env → Array Value → State → Outcome → State → Prop} (hpost : ∀ tb e args s v u, (limb_1_1.after args s (.returned v) u = true ∧ limb_1_2.after args s (.returned v) u = true ∧ True) → FrameEnd s (.returned v) u (Jvm.fieldLocs frame_1_writes args s ++ Jvm.arrayLocs frame_1_arrays args s ++ Jvm.staticLocs frame_1_statics s) 0 0 → Post tb e args s (.returned v) u) :
    ArmFor flags0 classFile x code maxLocals ret World_1 tables_1 room_1 Calls_1 rest_1 Pre_1 Post := by
  intro l hfl _ _ p e ha hc hk s m args below hf hA hF happ hP
  obtain ⟨hcalls, hrest, hpre⟩ := hP
  obtain ⟨-, -, -, hnamed, -, -, -, hat⟩ := (Spec.applies_iff hf).mp happ
  obtain ⟨hg, hn⟩ := and_e (Cond.before_iff.mp (show (Jvm.Cond.and given_1 narrow_1).before args s = true from hpre))
  obtain ⟨hcount, hg0⟩ := and_e hg
  obtain ⟨hk0, hg1⟩ := and_e hg0
  have hk1 := hg1
  obtain ⟨w0, w1, rfl⟩ : ∃ w0 w1 : Value, args = #[w0, w1] := by
    have hs : args.size = 2 := by simpa [Cond.value, given_1] using hcount
    obtain ⟨L⟩ := args
    match L, hs with
    | [w0, w1], _ => exact ⟨w0, w1, rfl⟩
  have hw := fun d (hd : d ∈ tables_1) => atoms_spec (ws := Jvm.Cond.code x code maxLocals ret :: tables_1) hat d (List.mem_cons_of_mem _ hd)
  have hfit : Fit s := fun {y c} hc i hi => by
    obtain ⟨ha, rfl⟩ := Array.getElem?_eq_some_iff.mp hc
    have q := List.all_eq_true.mp ((Array.all_eq_true_iff_forall_mem.mp hF) _ (Array.getElem_mem ha)) i (List.mem_range.mpr hi)
    simpa [Array.getElem?_eq_getElem hi] using q
  obtain ⟨i0, ei0⟩ := is_v hk0
  obtain rfl : w0 = (.int i0) := Option.some.inj ei0
  obtain ⟨i1, ei1⟩ := is_v hk1
  obtain rfl : w1 = (.int i1) := Option.some.inj ei1
  obtain ⟨m1, hn⟩ := and_e hn
  obtain ⟨m2, m3⟩ := and_e hn
  obtain ⟨rU, evU⟩ := exa_v m1
  have SU : Sta s s.heap "com/example/aloud/aloud/fetch/FetchResult$Outcome" "UNREACHABLE" "Lcom/example/aloud/aloud/fetch/FetchResult$Outcome;" (.ref rU) := Sta.start evU (Or.inr ⟨(hw _ (List.mem_of_getElem? (i := 2) rfl)), (hw _ (List.mem_of_getElem? (i := 5) rfl))⟩)
  obtain ⟨rS, evS⟩ := exa_v m2
  have SS : Sta s s.heap "com/example/aloud/aloud/fetch/FetchResult$Outcome" "SUCCESSFUL" "Lcom/example/aloud/aloud/fetch/FetchResult$Outcome;" (.ref rS) := Sta.start evS (Or.inr ⟨(hw _ (List.mem_of_getElem? (i := 2) rfl)), (hw _ (List.mem_of_getElem? (i := 12) rfl))⟩)
  obtain ⟨rA, evA⟩ := exa_v m3
  have SA : Sta s s.heap "com/example/aloud/aloud/fetch/FetchResult$Outcome" "UNAVAILABLE" "Lcom/example/aloud/aloud/fetch/FetchResult$Outcome;" (.ref rA) := Sta.start evA (Or.inr ⟨(hw _ (List.mem_of_getElem? (i := 2) rfl)), (hw _ (List.mem_of_getElem? (i := 15) rfl))⟩)
  obtain ⟨n, o, h1, h2, h3, _, L, rfl, ⟨rfl, N⟩, hq⟩ := rm_law l s _ hw tables_1 i0 i1 rU rS rA s.heap s.heap.size (Nat.le_refl _) SU SS SA p e ha hc hk s m _ below hf ((Spec.applies_iff_loose hf).mp happ).1 ⟨rfl, State.Warmed39.refl s, rfl⟩ trivial
  refine ⟨n, _, h1, h2, h3, hpost _ _ _ _ _ _ ⟨Cond.after_iff.mpr rfl, Cond.after_iff.mpr (eq_i res_at (Term.int_eval (1)) rfl), trivial⟩ ⟨hq.1, hq.2.1, (hq.2.2.sift fun y hy => Or.inr (N y hy)).mono (by decide) (by decide)⟩⟩
theorem main_1_1 : Claimed_1_1 := comes_1 fun _ _ _ _ _ _ h hF => ⟨h.1, hF⟩
theorem main_1_2 : Claimed_1_2 := comes_1 fun _ _ _ _ _ _ h hF => ⟨h.2.1, hF⟩
end Jvm.Pilot.@@N@@
namespace Jvm.Pilot.@@N@@
open Jvm Jvm.ClassFile Sem Op Lib Jvm.Free Jvm.Stand Jvm.Pilot.@@N@@.Jvm.D
/-! MADE BY PROGRAM (witnessworld.py) out of the Statement's table words and the real class files: 12 classes; the members and pool entries that the words name. The judged class is class 1, her method 2. -/
namespace start1
open Jvm.ClassFile
def u (s : String) : CpInfo := .utf8 (stringToUtf16 s)
/-- a pool by its gaps: so many unusable entries, then the entry; so many at the end -/
def gap : Nat → List CpInfo → List CpInfo
  | 0, r => r
  | n + 1, r => .unusable :: gap n r
def poolList (es : List (Nat × CpInfo)) (last : Nat) : List CpInfo := es.foldr (fun e r => gap e.1 (e.2 :: r)) (gap last [])
def pool (es : List (Nat × CpInfo)) (last : Nat) : Array CpInfo := ⟨poolList es last⟩
def fileOf (pool : Array CpInfo) (this : Nat) (attrs : Array Attribute := #[]) (ms : Array MethodInfo := #[]) (fl : Nat := 33) (sup : Nat := 0) (ifs : Array Nat := #[]) (fds : Array FieldInfo := #[]) : ClassFile where
  minorVersion := 0
  majorVersion := 65
  constantPool := pool
  accessFlags := fl
  thisClass := this
  superClass := sup
  interfaces := ifs
  fields := fds
  methods := ms
  attributes := attrs
def plain (name : String) (sup : Option ClassId) : Class where
  name := name
  kind := .ordinary
  loader := none
  accessFlags := 33
  super := sup
  interfaces := #[]
  cf := none
  fields := #[]
  methods := #[]
  instanceTypes := #[]
  staticTypes := #[]
  resolved := #[]
  callSites := []
  init := .initialized
  statics := none
  mirror := none

def pool0 : Array CpInfo := pool [(5, u "<init>"), (0, u "()V"), (1, .class_ 10), (1, u "java/lang/Object")] 113

def k0m0 : Method := { name := "<init>", desc := "()V", sig := { parameters := [], returnType := none }, accessFlags := 1, code := none }
/-- java/lang/Object -/
def k0 : Class := { plain "java/lang/Object" none with
  accessFlags := 33
  interfaces := #[]
  cf := some (fileOf pool0 8 #[] #[{ accessFlags := 1, nameIndex := 5, descriptorIndex := 6, attributes := #[] }] 33 0 #[] #[])
  fields := #[]
  methods := #[k0m0]
  instanceTypes := #[]
  staticTypes := #[]
  resolved := Array.replicate 124 none
  statics := none }

def pool1 : Array CpInfo := pool [(2, .class_ 4), (1, u "java/lang/Object"), (0, u "<init>"), (0, u "()V"), (0, .fieldref 8 9), (0, .class_ 10), (0, .nameAndType 11 12), (0, u "com/example/aloud/aloud/fetch/FetchResult$Outcome"), (0, u "UNREACHABLE"), (0, u "Lcom/example/aloud/aloud/fetch/FetchResult$Outcome;"), (0, .fieldref 8 14), (0, .nameAndType 15 12), (0, u "SUCCESSFUL"), (0, .fieldref 8 17), (0, .nameAndType 18 12), (0, u "UNAVAILABLE"), (0, .methodref 8 20), (0, .nameAndType 21 22), (0, u "of"), (0, u "(I)Lcom/example/aloud/aloud/fetch/FetchResult$Outcome;"), (0, .methodref 24 25), (0, .class_ 26), (0, .nameAndType 27 22), (0, u "com/example/aloud/aloud/fetch/OutcomeOfPinLaw"), (0, u "expected"), (3, u "law"), (0, u "(II)Z")] 6

def k1m0 : Method := { name := "<init>", desc := "()V", sig := { parameters := [], returnType := none }, accessFlags := 2, code := none }
def k1c1 : Code := { maxStack := 2, maxLocals := 2, code := method_2_code, exceptionTable := #[], attributes := #[] }
def k1m1 : Method := { name := "expected", desc := "(I)Lcom/example/aloud/aloud/fetch/FetchResult$Outcome;", sig := { parameters := [.int], returnType := some (.object "com/example/aloud/aloud/fetch/FetchResult$Outcome") }, accessFlags := 10, code := some k1c1 }
def k1c2 : Code := { maxStack := 3, maxLocals := 5, code := code, exceptionTable := #[], attributes := #[] }
def k1m2 : Method := { name := "law", desc := "(II)Z", sig := { parameters := [.int, .int], returnType := some .boolean }, accessFlags := 9, code := some k1c2 }
/-- com/example/aloud/aloud/fetch/OutcomeOfPinLaw -/
def k1 : Class := { plain "com/example/aloud/aloud/fetch/OutcomeOfPinLaw" (some 0) with
  accessFlags := 49
  interfaces := #[]
  cf := some (fileOf pool1 24 #[] #[{ accessFlags := 2, nameIndex := 5, descriptorIndex := 6, attributes := #[] }, { accessFlags := 10, nameIndex := 27, descriptorIndex := 22, attributes := #[] }, { accessFlags := 9, nameIndex := 31, descriptorIndex := 32, attributes := #[] }] 49 2 #[] #[])
  fields := #[]
  methods := #[k1m0, k1m1, k1m2]
  instanceTypes := #[]
  staticTypes := #[]
  resolved := Array.replicate 39 none
  statics := none }

def pool2 : Array CpInfo := pool [(1, .class_ 2), (0, u "java/lang/constant/Constable"), (0, .class_ 4), (0, u "java/lang/Object")] 6

/-- java/lang/constant/Constable -/
def k2 : Class := { plain "java/lang/constant/Constable" (some 0) with
  accessFlags := 1537
  interfaces := #[]
  cf := some (fileOf pool2 1 #[] #[] 1537 3 #[] #[])
  fields := #[]
  methods := #[]
  instanceTypes := #[]
  staticTypes := #[]
  resolved := Array.replicate 11 none
  statics := none }

def pool3 : Array CpInfo := pool [(1, .class_ 2), (0, u "java/lang/Comparable"), (0, .class_ 4), (0, u "java/lang/Object")] 7

/-- java/lang/Comparable -/
def k3 : Class := { plain "java/lang/Comparable" (some 0) with
  accessFlags := 1537
  interfaces := #[]
  cf := some (fileOf pool3 1 #[] #[] 1537 3 #[] #[])
  fields := #[]
  methods := #[]
  instanceTypes := #[]
  staticTypes := #[]
  resolved := Array.replicate 12 none
  statics := none }

def pool4 : Array CpInfo := pool [(1, .class_ 2), (0, u "java/io/Serializable"), (0, .class_ 4), (0, u "java/lang/Object")] 2

/-- java/io/Serializable -/
def k4 : Class := { plain "java/io/Serializable" (some 0) with
  accessFlags := 1537
  interfaces := #[]
  cf := some (fileOf pool4 1 #[] #[] 1537 3 #[] #[])
  fields := #[]
  methods := #[]
  instanceTypes := #[]
  staticTypes := #[]
  resolved := Array.replicate 7 none
  statics := none }

def pool5 : Array CpInfo := pool [(2, .class_ 4), (1, u "java/lang/Enum"), (0, u "name"), (0, u "Ljava/lang/String;"), (2, u "ordinal"), (0, u "I"), (1, .class_ 14), (1, u "java/lang/Object"), (4, u "hash"), (86, .class_ 108), (1, u "java/lang/Enum$EnumDesc"), (2, .class_ 112), (0, u "java/lang/constant/Constable"), (0, .class_ 114), (0, u "java/lang/Comparable"), (0, .class_ 116), (0, u "java/io/Serializable")] 87

/-- java/lang/Enum -/
def k5 : Class := { plain "java/lang/Enum" (some 0) with
  accessFlags := 1057
  interfaces := #[2, 3, 4]
  cf := some (fileOf pool5 2 #[.nestMembers #[106]] #[] 1057 12 #[111, 113, 115] #[{ accessFlags := 18, nameIndex := 5, descriptorIndex := 6, attributes := #[] }, { accessFlags := 18, nameIndex := 9, descriptorIndex := 10, attributes := #[] }, { accessFlags := 2, nameIndex := 19, descriptorIndex := 10, attributes := #[] }])
  fields := #[{ name := "name", type := (.object "java/lang/String"), accessFlags := 18, slot := 0, constantValue := 0 }, { name := "ordinal", type := .int, accessFlags := 18, slot := 1, constantValue := 0 }, { name := "hash", type := .int, accessFlags := 2, slot := 2, constantValue := 0 }]
  methods := #[]
  instanceTypes := #[(.object "java/lang/String"), .int, .int]
  staticTypes := #[]
  resolved := Array.replicate 204 none
  statics := none }

def pool6 : Array CpInfo := pool [(1, .class_ 2), (0, u "com/example/aloud/aloud/fetch/FetchResult$Outcome"), (0, .fieldref 1 4), (0, .nameAndType 5 6), (0, u "SUCCESSFUL"), (0, u "Lcom/example/aloud/aloud/fetch/FetchResult$Outcome;"), (0, .fieldref 1 8), (0, .nameAndType 9 6), (0, u "UNAVAILABLE"), (0, .fieldref 1 11), (0, .nameAndType 12 6), (0, u "UNREACHABLE"), (2, u "$VALUES"), (0, u "[Lcom/example/aloud/aloud/fetch/FetchResult$Outcome;"), (6, .class_ 25), (1, u "java/lang/Enum"), (17, .class_ 45), (1, u "com/example/aloud/aloud/fetch/FetchResult"), (20, u "of"), (0, u "(I)Lcom/example/aloud/aloud/fetch/FetchResult$Outcome;")] 9

def k6c0 : Code := { maxStack := 2, maxLocals := 1, code := prog_51_method_4_code, exceptionTable := #[], attributes := #[] }
def k6m0 : Method := { name := "of", desc := "(I)Lcom/example/aloud/aloud/fetch/FetchResult$Outcome;", sig := { parameters := [.int], returnType := some (.object "com/example/aloud/aloud/fetch/FetchResult$Outcome") }, accessFlags := 9, code := some k6c0 }
/-- com/example/aloud/aloud/fetch/FetchResult$Outcome -/
def k6 : Class := { plain "com/example/aloud/aloud/fetch/FetchResult$Outcome" (some 5) with
  accessFlags := 16433
  interfaces := #[]
  cf := some (fileOf pool6 1 #[.nestHost 43] #[{ accessFlags := 9, nameIndex := 66, descriptorIndex := 67, attributes := #[] }] 16433 23 #[] #[{ accessFlags := 16409, nameIndex := 5, descriptorIndex := 6, attributes := #[] }, { accessFlags := 16409, nameIndex := 9, descriptorIndex := 6, attributes := #[] }, { accessFlags := 16409, nameIndex := 12, descriptorIndex := 6, attributes := #[] }, { accessFlags := 4122, nameIndex := 15, descriptorIndex := 16, attributes := #[] }])
  fields := #[{ name := "SUCCESSFUL", type := (.object "com/example/aloud/aloud/fetch/FetchResult$Outcome"), accessFlags := 16409, slot := 0, constantValue := 0 }, { name := "UNAVAILABLE", type := (.object "com/example/aloud/aloud/fetch/FetchResult$Outcome"), accessFlags := 16409, slot := 1, constantValue := 0 }, { name := "UNREACHABLE", type := (.object "com/example/aloud/aloud/fetch/FetchResult$Outcome"), accessFlags := 16409, slot := 2, constantValue := 0 }, { name := "$VALUES", type := (.array (.object "com/example/aloud/aloud/fetch/FetchResult$Outcome")), accessFlags := 4122, slot := 3, constantValue := 0 }]
  methods := #[k6m0]
  instanceTypes := #[(.object "java/lang/String"), .int, .int]
  staticTypes := #[(.object "com/example/aloud/aloud/fetch/FetchResult$Outcome"), (.object "com/example/aloud/aloud/fetch/FetchResult$Outcome"), (.object "com/example/aloud/aloud/fetch/FetchResult$Outcome"), (.array (.object "com/example/aloud/aloud/fetch/FetchResult$Outcome"))]
  resolved := Array.replicate 77 none
  statics := some 0 }

def pool7 : Array CpInfo := pool [(1, u "java/lang/Cloneable"), (0, .class_ 1), (0, u "java/lang/Object"), (0, .class_ 3)] 3

/-- java/lang/Cloneable -/
def k7 : Class := { plain "java/lang/Cloneable" (some 0) with
  accessFlags := 1537
  interfaces := #[]
  cf := some (fileOf pool7 2 #[] #[] 1537 4 #[] #[])
  fields := #[]
  methods := #[]
  instanceTypes := #[]
  staticTypes := #[]
  resolved := Array.replicate 8 none
  statics := none }

/-- the primitive byte -/
def k8 : Class := { plain "byte" none with kind := .primitive 'B', accessFlags := 0x411 }
/-- [B -/
def k9 : Class := { plain "[B" (some 0) with kind := .array 8 .byte, interfaces := #[7, 4], accessFlags := 1041 }

/-- the primitive int -/
def k10 : Class := { plain "int" none with kind := .primitive 'I', accessFlags := 0x411 }
/-- [I -/
def k11 : Class := { plain "[I" (some 0) with kind := .array 10 .int, interfaces := #[7, 4], accessFlags := 1041 }

def heap : Heap := #[{ cls := 6, slots := #[.ref 2, .ref 3, .ref 1, .null], vm := .statics 6 },
  { cls := 6, slots := #[.null, .int 2, .int 0], vm := .none },
  { cls := 6, slots := #[.null, .int 0, .int 0], vm := .none },
  { cls := 6, slots := #[.null, .int 1, .int 0], vm := .none }]
def classes : Array Class := #[k0, k1, k2, k3, k4, k5, k6, k7, k8, k9, k10, k11]
def interned : List (Array UInt16 × Addr) := []
def slotsUsed : Nat := 13
def theMethod : MethodId := ⟨1, 2⟩
def args0 : Array Value := #[.int 250, .int 0]
def aboutOver (below : List Frame) : State where
  vm := { classes := classes, interned := interned.toArray }
  heap := heap
  slotsUsed := slotsUsed
  threads := #[{ frames := .invoking theMethod args0 :: below }]
def below0 : List Frame := [.native { method := ⟨0, 0⟩, args := #[] }]
def about1 : State := aboutOver below0
def p0 : Program := .bare "" "" ""
def e0 : Env := launch0.env 0 0 0
theorem w_frames : about1.frames = Frame.invoking theMethod args0 :: below0 := rfl
set_option maxRecDepth 65536 in
theorem w_args : argsFit about1.vm theMethod args0 = true := by decide +kernel
set_option maxRecDepth 65536 in
theorem w_heap : heapFits about1 = true := by decide +kernel
set_option maxRecDepth 65536 in
theorem w_runnable : about1.curStatus? = some .runnable := by decide +kernel
set_option maxRecDepth 65536 in
theorem w_alone : about1.alone = true := by decide +kernel
set_option maxRecDepth 65536 in
theorem w_named : about1.methodNamed? x = some theMethod := by decide +kernel
set_option maxRecDepth 65536 in
theorem w_hears : about1.hears theMethod below0 = true := by decide +kernel
set_option maxRecDepth 65536 in
theorem w_ripe : about1.ripe theMethod args0 below0 = true := by decide +kernel
theorem w_running : about1.status = .running := rfl
set_option maxRecDepth 65536 in
theorem w_room : about1.hasRoom e0.platform room_1 = true :=
  launch0.hasRoom_least _ room_1 (by decide +kernel) (by decide +kernel) (by decide +kernel) (by decide +kernel) (by decide +kernel) (by decide +kernel)
theorem allAtoms_all (ts : List Jvm.Cond) (a : Array Jvm.Value) (st : Jvm.State) : (allAtoms ts).before a st = ts.all (fun c => c.before a st) := by
  induction ts with
  | nil => rfl
  | cons c t ih =>
    show (Jvm.Cond.and c (allAtoms t)).before a st = _
    rw [Jvm.Cond.before_and, ih, List.all_cons]
def words1 : List Jvm.Cond := Jvm.Cond.code x code maxLocals ret :: tables_1
/-- a 'code' word, met by the world's own term for the bytes: nothing is compared byte by byte -/
theorem code_word {y : MethodName} {bytes : ByteArray} {mx : Nat} {rt : Option FieldType} {a : Array Value} {s : State} {m : MethodId} {meth : Method} {c : Code} (h1 : s.methodNamed? y = some m) (h2 : s.vm.method? m = some meth) (h3 : meth.code = some c) (h4 : c.code = bytes)
    (h5 : (c.maxLocals == mx && c.exceptionTable.isEmpty && decide (c.maxStack ≤ mostOperands) && decide (meth.sig.returnType = rt) && !meth.locks && decide (parseMethodDescriptor y.desc = some meth.sig)) = true) : (Jvm.Cond.code y bytes mx rt).before a s = true := by
  simp only [Bool.and_eq_true, beq_iff_eq, Bool.not_eq_true', decide_eq_true_eq] at h5
  obtain ⟨⟨⟨⟨⟨g1, g2⟩, g3⟩, g4⟩, g5⟩, g6⟩ := h5
  simp [Cond.before, Cond.holds, Cond.value, h1, h2, h3, h4, g1, g2, g3, g4, g5, g6]
def isCode : Jvm.Cond → Bool
  | .code _ _ _ _ => true
  | _ => false
theorem all_split {L : List Jvm.Cond} {P : Jvm.Cond → Bool} (h1 : L.all (fun c => isCode c || P c) = true) (h2 : ∀ c ∈ L.filter isCode, P c = true) : L.all P = true := by
  refine List.all_eq_true.mpr fun c hc => ?_
  have h := List.all_eq_true.mp h1 c hc
  rcases Bool.eq_false_or_eq_true (isCode c) with hi | hi
  · exact h2 c (List.mem_filter.mpr ⟨hc, hi⟩)
  · simpa [hi] using h
set_option maxRecDepth 65536 in
theorem w_c0 : (Jvm.Cond.code x code maxLocals ret).before args0 about1 = true := code_word (m := ⟨1, 2⟩) (meth := k1m2) (c := k1c2) (by decide +kernel) rfl rfl rfl (by decide +kernel)
set_option maxRecDepth 65536 in
theorem w_c1 : (Jvm.Cond.code ({ cls := "com/example/aloud/aloud/fetch/FetchResult$Outcome", name := "of", desc := "(I)Lcom/example/aloud/aloud/fetch/FetchResult$Outcome;" } : Jvm.MethodName) prog_51_method_4_code (1 : Nat) (Option.some (Jvm.ClassFile.FieldType.object "com/example/aloud/aloud/fetch/FetchResult$Outcome"))).before args0 about1 = true := code_word (m := ⟨6, 0⟩) (meth := k6m0) (c := k6c0) (by decide +kernel) rfl rfl rfl (by decide +kernel)
set_option maxRecDepth 65536 in
theorem w_c2 : (Jvm.Cond.code ({ cls := "com/example/aloud/aloud/fetch/OutcomeOfPinLaw", name := "expected", desc := "(I)Lcom/example/aloud/aloud/fetch/FetchResult$Outcome;" } : Jvm.MethodName) method_2_code (2 : Nat) (Option.some (Jvm.ClassFile.FieldType.object "com/example/aloud/aloud/fetch/FetchResult$Outcome"))).before args0 about1 = true := code_word (m := ⟨1, 1⟩) (meth := k1m1) (c := k1c1) (by decide +kernel) rfl rfl rfl (by decide +kernel)
def codes1 : List Jvm.Cond := [Jvm.Cond.code x code maxLocals ret, Jvm.Cond.code ({ cls := "com/example/aloud/aloud/fetch/FetchResult$Outcome", name := "of", desc := "(I)Lcom/example/aloud/aloud/fetch/FetchResult$Outcome;" } : Jvm.MethodName) prog_51_method_4_code (1 : Nat) (Option.some (Jvm.ClassFile.FieldType.object "com/example/aloud/aloud/fetch/FetchResult$Outcome")), Jvm.Cond.code ({ cls := "com/example/aloud/aloud/fetch/OutcomeOfPinLaw", name := "expected", desc := "(I)Lcom/example/aloud/aloud/fetch/FetchResult$Outcome;" } : Jvm.MethodName) method_2_code (2 : Nat) (Option.some (Jvm.ClassFile.FieldType.object "com/example/aloud/aloud/fetch/FetchResult$Outcome"))]
set_option maxRecDepth 65536 in
theorem codes_eq : words1.filter isCode = codes1 := rfl
theorem w_codes : ∀ c ∈ words1.filter isCode, c.before args0 about1 = true := by
  rw [codes_eq]
  intro c hc
  simp only [codes1, List.mem_cons, List.not_mem_nil, or_false] at hc
  rcases hc with rfl | rfl | rfl
  · exact w_c0
  · exact w_c1
  · exact w_c2
set_option maxRecDepth 65536 in
theorem w_t1 : words1.all (fun c => isCode c || c.before args0 about1) = true := by decide +kernel
theorem w_tables : (allAtoms (Jvm.Cond.code x code maxLocals ret :: tables_1)).before args0 about1 = true := by
  rw [allAtoms_all]
  show words1.all (fun c => c.before args0 about1) = true
  refine all_split ?_ w_codes
  rw [w_t1]
set_option maxRecDepth 65536 in
theorem w_case : (Jvm.Cond.and given_1 narrow_1).before args0 about1 = true := by decide +kernel
theorem w_applies : (headSpec (Jvm.Cond.code x code maxLocals ret :: tables_1) room_1).applies x e0.platform about1 = true :=
  (Spec.applies_iff w_frames).mpr ⟨w_running, w_runnable, w_alone, w_named, w_hears, w_ripe, w_room, w_tables⟩
theorem atStart : AtStart classFile x code maxLocals ret World_1 tables_1 room_1 Calls_1 rest_1 Pre_1 launch0 p0 e0 about1 theMethod args0 below0 :=
  ⟨lists_1, trivial, launch0.admits_env _ _ _, launch0.least_env, fairChoices_fair.cas, fairChoices_fair.clock, w_frames, w_args, w_heap, w_applies, trivial, trivial, w_case⟩
end start1
theorem witness_1 : WitnessClaimed_1 := ⟨start1.p0, start1.e0, start1.about1, start1.theMethod, start1.args0, start1.below0, start1.atStart⟩
end Jvm.Pilot.@@N@@
