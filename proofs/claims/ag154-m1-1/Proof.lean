import JvmDerived
import JvmDerived.Pilot.@@N@@Statement
import JvmDerived.Pilot.@@N@@Code
set_option linter.unusedVariables false
set_option linter.unusedSimpArgs false
namespace Jvm.Pilot.@@N@@
open Jvm Jvm.ClassFile Sem Op Lib Jvm.Free Jvm.Stand Jvm.LawKit Jvm.RoadKit Bundle Jvm.Pilot.@@N@@.Jvm.D
/-! own small kit: the goal of a walk, backward; the leaves -/
def Gl (tb : Tables) (e : Env) (below : List Frame) (QQ : Outcome → State → Prop) (st : State) : Prop := ∃ s₂ o, Steps tb e below st s₂ ∧ s₂.status = .running ∧ Ended s₂ below o ∧ QQ o s₂
theorem Gl.go {tb : Tables} {e : Env} {below : List Frame} {QQ : Outcome → State → Prop} {st st' : State} (h : ∀ t, Steps tb e below st' t → Steps tb e below st t) (g : Gl tb e below QQ st') : Gl tb e below QQ st := by
  obtain ⟨s2, o, h1, h2⟩ := g
  exact ⟨s2, o, h _ h1, h2⟩
def QQof (s : State) (Q : Option Value → Heap → List Loc → Prop) (k n : Nat) : Outcome → State → Prop := fun o U => ∃ v L, o = .returned v ∧ Q v U.heap L ∧ FrameEnd s o U L k n
section Leaf
variable {p : Program} {l : Launch} {e : Env} {R : Room} {s : State} {m : MethodId} {args : Array Value} {below : List Frame} {meth : Method} {c : Code} {T : State} {locs : List Loc} {cells slots : Nat} {pc : Nat} {Ls : Array Slot} {rest : List Value} {Q : Option Value → Heap → List Loc → Prop} {k n : Nat}
theorem leafN (X : Stand p l e R s m args below meth c T locs cells slots) (hx : p.tables.exec = Jvm.exec) (hlk : meth.locks = false) {z : Int32} {t : FieldType} (hret : meth.sig.returnType = some t) (ht : t = .boolean ∨ t = .byte ∨ t = .char ∨ t = .short) (hd : decode c.code pc = .ok (.ireturn, 1))
    (hq : Q (some (.int (nar t z))) T.heap locs) (hk : cells ≤ k) (hn : slots ≤ n) : Gl p.tables e below (QQof s Q k n) (T.setTop (mkF m pc Ls (.int z :: rest))) := by
  obtain ⟨fs, hr, hrun, hended, hW, hsame⟩ := X.leave (v := some (.int (nar t z))) (fun h => by rw [hret] at h; cases h) hlk
  exact ⟨_, _, retN X hx hret ht hd hr, hrun, hended, _, _, rfl, hq, ⟨_, rfl⟩, hW, hsame.mono hk hn⟩
theorem leafI (X : Stand p l e R s m args below meth c T locs cells slots) (hx : p.tables.exec = Jvm.exec) (hlk : meth.locks = false) {z : Int32} (hret : meth.sig.returnType = some .int) (hd : decode c.code pc = .ok (.ireturn, 1))
    (hq : Q (some (.int z)) T.heap locs) (hk : cells ≤ k) (hn : slots ≤ n) : Gl p.tables e below (QQof s Q k n) (T.setTop (mkF m pc Ls (.int z :: rest))) := by
  obtain ⟨fs, hr, hrun, hended, hW, hsame⟩ := X.leave (v := some (.int z)) (fun h => by rw [hret] at h; cases h) hlk
  exact ⟨_, _, retOut X hx hret rfl (Or.inl ⟨rfl, Or.inl rfl, _, rfl⟩) hd hr, hrun, hended, _, _, rfl, hq, ⟨_, rfl⟩, hW, hsame.mono hk hn⟩
theorem leafL (X : Stand p l e R s m args below meth c T locs cells slots) (hx : p.tables.exec = Jvm.exec) (hlk : meth.locks = false) {z : Int64} (hret : meth.sig.returnType = some .long) (hd : decode c.code pc = .ok (.lreturn, 1))
    (hq : Q (some (.long z)) T.heap locs) (hk : cells ≤ k) (hn : slots ≤ n) : Gl p.tables e below (QQof s Q k n) (T.setTop (mkF m pc Ls (.long z :: rest))) := by
  obtain ⟨fs, hr, hrun, hended, hW, hsame⟩ := X.leave (v := some (.long z)) (fun h => by rw [hret] at h; cases h) hlk
  exact ⟨_, _, retOut X hx hret rfl (Or.inr (Or.inl ⟨rfl, rfl, _, rfl⟩)) hd hr, hrun, hended, _, _, rfl, hq, ⟨_, rfl⟩, hW, hsame.mono hk hn⟩
theorem leafD (X : Stand p l e R s m args below meth c T locs cells slots) (hx : p.tables.exec = Jvm.exec) (hlk : meth.locks = false) {z : UInt64} (hret : meth.sig.returnType = some .double) (hd : decode c.code pc = .ok (.dreturn, 1))
    (hq : Q (some (.double z)) T.heap locs) (hk : cells ≤ k) (hn : slots ≤ n) : Gl p.tables e below (QQof s Q k n) (T.setTop (mkF m pc Ls (.double z :: rest))) := by
  obtain ⟨fs, hr, hrun, hended, hW, hsame⟩ := X.leave (v := some (.double z)) (fun h => by rw [hret] at h; cases h) hlk
  exact ⟨_, _, retOut X hx hret rfl (Or.inr (Or.inr (Or.inl ⟨rfl, rfl, _, rfl⟩))) hd hr, hrun, hended, _, _, rfl, hq, ⟨_, rfl⟩, hW, hsame.mono hk hn⟩
theorem narrowR {t : FieldType} {w : Value} (ht : t.isReference = true) (hw : w.isRef = true) : narrow t w = w := by
  cases w <;> simp [Value.isRef] at hw <;> cases t <;> simp [FieldType.isReference] at ht <;> rfl
theorem leafA (X : Stand p l e R s m args below meth c T locs cells slots) (hx : p.tables.exec = Jvm.exec) (hlk : meth.locks = false) {w : Value} {t : FieldType} (hret : meth.sig.returnType = some t) (ht : t.isReference = true) (hw : w.isRef = true) (hd : decode c.code pc = .ok (.areturn, 1))
    (hq : Q (some w) T.heap locs) (hk : cells ≤ k) (hn : slots ≤ n) : Gl p.tables e below (QQof s Q k n) (T.setTop (mkF m pc Ls (w :: rest))) := by
  obtain ⟨fs, hr, hrun, hended, hW, hsame⟩ := X.leave (v := some w) (fun h => by rw [hret] at h; cases h) hlk
  exact ⟨_, _, retOut X hx hret (narrowR ht hw) (Or.inr (Or.inr (Or.inr (Or.inr ⟨rfl, ht, hw⟩)))) hd hr, hrun, hended, _, _, rfl, hq, ⟨_, rfl⟩, hW, hsame.mono hk hn⟩
theorem leafV (X : Stand p l e R s m args below meth c T locs cells slots) (hx : p.tables.exec = Jvm.exec) (hlk : meth.locks = false) (hret : meth.sig.returnType = none) (hd : decode c.code pc = .ok (.return_, 1))
    (hq : Q none T.heap locs) (hk : cells ≤ k) (hn : slots ≤ n) : Gl p.tables e below (QQof s Q k n) (T.setTop (mkF m pc Ls [])) := by
  obtain ⟨fs, hr, hrun, hended, hW, hsame⟩ := X.leave (v := none) (fun _ => rfl) hlk
  exact ⟨_, _, X.returnOut hx hret hd hr, hrun, hended, _, _, rfl, hq, ⟨_, rfl⟩, hW, hsame.mono hk hn⟩
end Leaf
theorem fitsR {t : FieldType} {w : Value} (ht : t.isReference = true) (hw : w.isRef = true) : fits t w = true := by
  cases w <;> simp [Value.isRef] at hw <;> cases t <;> simp [FieldType.isReference] at ht <;> rfl
theorem nar1 : nar .boolean (1 : Int32) = 1 := by decide
theorem nar0 : nar .boolean (0 : Int32) = 0 := by decide
theorem int_at {args : Array Value} {s : State} {t : Term} {k : Int32} (h : (Jvm.Cond.eq t (.int k)).value args s none s [] = some true) : t.eval args s none [] s = some (.int k) := by
  obtain ⟨x, y, hx, hy, kx, ky⟩ := cmp_v (Or.inl h)
  have hk : y = .int k := Option.some.inj (hy.symm.trans (Term.int_eval k))
  subst hk
  obtain ⟨z, rfl⟩ := ky
  have hz := gotT (Cond.eq_ints hx (Term.int_eval k)) h
  rw [hx, hz]
theorem fld_int {args : Array Value} {s : State} {t : Term} {C n d : String} {k : Int32} {x : Addr} (ht : t.eval args s none [] s = some (.ref x)) (h : (Jvm.Cond.eq (.field t C n d) (.int k)).value args s none s [] = some true) : Fld s s.heap x C n d (.int k) := Fld.start ((fld_at ht).symm.trans (int_at h))
theorem ref_at {args : Array Value} {s : State} {a b : Term} {x : Addr} (hb : b.eval args s none [] s = some (.ref x)) (h : (Jvm.Cond.eq a b).value args s none s [] = some true) : a.eval args s none [] s = some (.ref x) := by
  obtain ⟨y, z, hy, hz, ky, kz⟩ := cmp_v (Or.inl h)
  have hk : z = .ref x := Option.some.inj (hz.symm.trans hb)
  subst hk
  have hr : y.isRef = true := kz.2
  have he := gotT (eq_R hy hb hr rfl) h
  rw [hy, he]
theorem ext_of_keep {h h' : Heap} (K : Keep h h' []) : Ext h h' := ⟨K.1, fun a c q => K.2.1 a c q nin0⟩
theorem arr_len {args : Array Value} {s : State} {t : Term} {a : Addr} {cl : Cell} {ty : FieldType} {k : Int32} (ev : t.eval args s none [] s = some (.ref a)) (A : Arr s s.heap a cl ty) (h : (Jvm.Cond.eq (.length t) (.int k)).value args s none s [] = some true) : cl.slots.size < 2 ^ 31 ∧ cl.slots.size.toInt32 = k := by
  obtain ⟨b, cell, e1, e2, e3, e4⟩ := Jvm.Lib.length_spec (int_at h)
  have hb : a = b := Value.ref.inj (Option.some.inj (ev.symm.trans e1))
  subst hb
  have hc : cl = cell := Option.some.inj ((A.fin (Vm.Alike.refl _)).symm.trans e2)
  subst hc
  exact ⟨e3, (Value.int.inj e4).symm⟩
theorem arr_elem {args : Array Value} {s : State} {t : Term} {a : Addr} {cl : Cell} {ty : FieldType} {j : Int32} {v : Value} (ev : t.eval args s none [] s = some (.ref a)) (A : Arr s s.heap a cl ty) (h : (Term.elem t (.int j)).eval args s none [] s = some v) : cl.slots[j.toNatClampNeg]? = some v := (elem_in h ev (Term.int_eval j) A.1).2

def pickV (x : Int32) : Int32 := if (x &&& (3 : Int32)) = (0 : Int32) then (13 : Int32) else if (x &&& (3 : Int32)) = (1 : Int32) then (10 : Int32) else nar .char (((((x.toUInt32 >>> ((2 : Int32) &&& 31).toUInt32).toInt32) &&& (65535 : Int32)).toUInt32.toUInt16.toUInt32.toInt32))
def oneV (x : Int32) : Int32 := if x = (0 : Int32) then (0 : Int32) else (1 : Int32)
def eqV (a b : Int32) : Int32 := if a = b then (1 : Int32) else (0 : Int32)
def eq2V (a b a' b' : Int32) : Int32 := if a = b then (if a' = b' then (1 : Int32) else (0 : Int32)) else (0 : Int32)
def brV (p x : Int32) : Int32 := if x = (13 : Int32) then (1 : Int32) else if x = (10 : Int32) then (if p = (13 : Int32) then (0 : Int32) else (1 : Int32)) else (0 : Int32)
theorem own_nar1 : nar .boolean (1 : Int32) = 1 := by decide
theorem own_nar0 : nar .boolean (0 : Int32) = 0 := by decide
theorem own_n13 : nar .char (13 : Int32) = 13 := by decide
theorem own_n10 : nar .char (10 : Int32) = 10 := by decide
theorem own_A (p x : Int32) : oneV (brV p x) = (oneV (eqV x (13 : Int32)) + oneV (eqV x (10 : Int32))) - oneV (eq2V p (13 : Int32) x (10 : Int32)) := by
  unfold oneV brV eqV eq2V
  by_cases h1 : x = 13
  · subst h1; by_cases h2 : p = 13 <;> simp [h2]
  · by_cases h3 : x = 10
    · subst h3; by_cases h2 : p = 13 <;> simp [h2]
    · simp [h1, h3]
theorem own_B (a b c d e f x y z : Int32) (h : x = (a + b) - c) (h' : y = (d + e) - f) : x + y = ((a + d) + (b + e)) - (c + f) := by
  subst h h'; simp only [Int32.sub_eq_add_neg, Int32.neg_add]; ac_rfl
theorem pn_0 : plainName "com/example/kontraktor/kontraktor/cli/InputFileBeginsLineBreakPinLaw" = true := by first | (simp [plainName, overriddenIn]; done) | decide +kernel
theorem ef_pick (m : MethodId) (x0 : Int32) : entryFrame m #[(.int x0)] 2 = mkF m 0 #[.val (.int x0), .unset] [] := by first | (simp [entryFrame, mkF, argsToLocals, Value.category]; done) | rfl
theorem d1_0 : decode method_2_code 0 = .ok (.iload_n 0, 1) := by decide +kernel
theorem d1_1 : decode method_2_code 1 = .ok (.iconst 3, 1) := by decide +kernel
theorem d1_2 : decode method_2_code 2 = .ok (.iand, 1) := by decide +kernel
theorem d1_3 : decode method_2_code 3 = .ok (.istore_n 1, 1) := by decide +kernel
theorem d1_4 : decode method_2_code 4 = .ok (.iload_n 1, 1) := by decide +kernel
theorem d1_5 : decode method_2_code 5 = .ok (.ifCond .ne 6, 3) := by decide +kernel
theorem d1_8 : decode method_2_code 8 = .ok (.bipush 13, 2) := by decide +kernel
theorem d1_10 : decode method_2_code 10 = .ok (.ireturn, 1) := by decide +kernel
theorem d1_11 : decode method_2_code 11 = .ok (.iload_n 1, 1) := by decide +kernel
theorem d1_12 : decode method_2_code 12 = .ok (.iconst 1, 1) := by decide +kernel
theorem d1_13 : decode method_2_code 13 = .ok (.if_icmp .ne 6, 3) := by decide +kernel
theorem d1_16 : decode method_2_code 16 = .ok (.bipush 10, 2) := by decide +kernel
theorem d1_18 : decode method_2_code 18 = .ok (.ireturn, 1) := by decide +kernel
theorem d1_19 : decode method_2_code 19 = .ok (.iload_n 0, 1) := by decide +kernel
theorem d1_20 : decode method_2_code 20 = .ok (.iconst 2, 1) := by decide +kernel
theorem d1_21 : decode method_2_code 21 = .ok (.iushr, 1) := by decide +kernel
theorem d1_22 : decode method_2_code 22 = .ok (.ldc 7, 2) := by decide +kernel
theorem d1_24 : decode method_2_code 24 = .ok (.iand, 1) := by decide +kernel
theorem d1_25 : decode method_2_code 25 = .ok (.i2c, 1) := by decide +kernel
theorem d1_26 : decode method_2_code 26 = .ok (.ireturn, 1) := by decide +kernel
theorem ef_one (m : MethodId) (x0 : Int32) : entryFrame m #[(.int x0)] 1 = mkF m 0 #[.val (.int x0)] [] := by first | (simp [entryFrame, mkF, argsToLocals, Value.category]; done) | rfl
theorem d2_0 : decode method_3_code 0 = .ok (.iload_n 0, 1) := by decide +kernel
theorem d2_1 : decode method_3_code 1 = .ok (.ifCond .eq 7, 3) := by decide +kernel
theorem d2_8 : decode method_3_code 8 = .ok (.iconst 0, 1) := by decide +kernel
theorem d2_9 : decode method_3_code 9 = .ok (.ireturn, 1) := by decide +kernel
theorem d2_4 : decode method_3_code 4 = .ok (.iconst 1, 1) := by decide +kernel
theorem d2_5 : decode method_3_code 5 = .ok (.goto 4, 3) := by decide +kernel
theorem pn_1 : plainName "com/example/kontraktor/kontraktor/cli/InputFile" = true := by first | (simp [plainName, overriddenIn]; done) | decide +kernel
theorem ef_br (m : MethodId) (x0 : Int32) (x1 : Int32) : entryFrame m #[(.int x0), (.int x1)] 2 = mkF m 0 #[.val (.int x0), .val (.int x1)] [] := by first | (simp [entryFrame, mkF, argsToLocals, Value.category]; done) | rfl
theorem d3_0 : decode prog_18_method_4_code 0 = .ok (.iload_n 1, 1) := by decide +kernel
theorem d3_1 : decode prog_18_method_4_code 1 = .ok (.bipush 13, 2) := by decide +kernel
theorem d3_3 : decode prog_18_method_4_code 3 = .ok (.if_icmp .eq 15, 3) := by decide +kernel
theorem d3_18 : decode prog_18_method_4_code 18 = .ok (.iconst 1, 1) := by decide +kernel
theorem d3_19 : decode prog_18_method_4_code 19 = .ok (.goto 4, 3) := by decide +kernel
theorem d3_23 : decode prog_18_method_4_code 23 = .ok (.ireturn, 1) := by decide +kernel
theorem d3_6 : decode prog_18_method_4_code 6 = .ok (.iload_n 1, 1) := by decide +kernel
theorem d3_7 : decode prog_18_method_4_code 7 = .ok (.bipush 10, 2) := by decide +kernel
theorem d3_9 : decode prog_18_method_4_code 9 = .ok (.if_icmp .ne 13, 3) := by decide +kernel
theorem d3_12 : decode prog_18_method_4_code 12 = .ok (.iload_n 0, 1) := by decide +kernel
theorem d3_13 : decode prog_18_method_4_code 13 = .ok (.bipush 13, 2) := by decide +kernel
theorem d3_15 : decode prog_18_method_4_code 15 = .ok (.if_icmp .eq 7, 3) := by decide +kernel
theorem d3_22 : decode prog_18_method_4_code 22 = .ok (.iconst 0, 1) := by decide +kernel
theorem ef_law (m : MethodId) (x0 : Int32) (x1 : Int32) (x2 : Int32) (x3 : Int32) : entryFrame m #[(.int x0), (.int x1), (.int x2), (.int x3)] maxLocals = mkF m 0 #[.val (.int x0), .val (.int x1), .val (.int x2), .val (.int x3), .unset, .unset, .unset, .unset, .unset, .unset, .unset, .unset, .unset, .unset, .unset, .unset, .unset, .unset, .unset, .unset] [] := by first | (simp [entryFrame, mkF, argsToLocals, Value.category, maxLocals]; done) | rfl
theorem pd_0 : parseMethodDescriptor "(I)C" = some ⟨[.int], some .char⟩ := by decide +kernel
theorem pd_1 : parseMethodDescriptor "(Z)I" = some ⟨[.boolean], some .int⟩ := by decide +kernel
theorem pd_2 : parseMethodDescriptor "(CC)Z" = some ⟨[.char, .char], some .boolean⟩ := by decide +kernel
def Q_pick (Z : State) (q1 : Int32) (h0 : Heap) (n0 : Nat) (v : Option Value) (h : Heap) (L : List Loc) : Prop := v = some (.int (pickV q1)) ∧ Fr n0 L ∧ h = h0
set_option maxRecDepth 65536 in
set_option maxHeartbeats 40000000 in
theorem rm_pick (l : Launch) (Z : State) (a0 : Array Value) (hw : ∀ d ∈ tables_1, d.before a0 Z = true) (ws : List Jvm.Cond) (q1 : Int32) (h0 : Heap) (n0 : Nat) (Z0 : n0 ≤ h0.size)  :
    MetFree l (⟨"com/example/kontraktor/kontraktor/cli/InputFileBeginsLineBreakPinLaw", "pick", "(I)C"⟩ : MethodName) (head1 (Jvm.Cond.code (⟨"com/example/kontraktor/kontraktor/cli/InputFileBeginsLineBreakPinLaw", "pick", "(I)C"⟩ : MethodName) method_2_code 2 (some .char) :: ws) ({ frames := 0, cells := 0, slots := 0, locals := 0 } : Room)) (fun aa U => aa = #[(.int q1)] ∧ Z.Warmed39 U.vm ∧ U.heap = h0) (fun _ _ _ _ _ => True) (fun _ U o U' => ∃ v L, o = .returned v ∧ Q_pick Z q1 h0 n0 v U'.heap L ∧ FrameEnd U o U' L ({ frames := 0, cells := 0, slots := 0, locals := 0 } : Room).cells ({ frames := 0, cells := 0, slots := 0, locals := 0 } : Room).slots) := by
  refine MetFree.of_bodySF (plainFor_of_name pn_0) hisR ?_
  intro p e s m args below meth c s₁ Bd hml0 hP hK
  obtain ⟨rfl, hZ, hh⟩ := hP
  have hx := Bd.exec
  have hby := Bd.bytes
  have hml : c.maxLocals = 2 := hml0
  have hown : s.vm.findClass "com/example/kontraktor/kontraktor/cli/InputFileBeginsLineBreakPinLaw" = some m.cls := findClass_of_methodNamed Bd.named
  have hnm := (name_of_methodNamed Bd.named Bd.method).1
  have hlk : meth.locks = false := BodyLoose.notSynchronized Bd
  have X0 : Stand p l e ({ frames := 0, cells := 0, slots := 0, locals := 0 } : Room) s m #[(.int q1)] below meth c s₁ [] 0 0 := Stand.of_body Bd
  have e0 : s₁.heap = h0 := by rw [← hh, Bd.state]; rfl
  have N0 := Fr.nil n0
  have K0 : Keep h0 h0 [] := Keep.refl _ _
  show Gl p.tables e below (QQof s (Q_pick Z q1 h0 n0) 0 0) (s₁.setTop (entryFrame m #[(.int q1)] 2))
  refine Gl.go (fun t k => castTop (ef_pick m q1) k) ?_
  show Gl p.tables e below (QQof s (Q_pick Z q1 h0 n0) 0 0) (s₁.setTop (mkF m 0 #[.val (.int q1), .unset] []))
  refine Gl.go (fun _ k => XS.iloadN X0.here hx rfl (hb hby d1_0) rfl  k) ?_
  show Gl p.tables e below (QQof s (Q_pick Z q1 h0 n0) 0 0) (s₁.setTop (mkF m 1 #[.val (.int q1), .unset] [(.int q1)]))
  refine Gl.go (fun _ k => XS.iconst X0.here hx rfl (hb hby d1_1) k) ?_
  show Gl p.tables e below (QQof s (Q_pick Z q1 h0 n0) 0 0) (s₁.setTop (mkF m 2 #[.val (.int q1), .unset] [(.int (3 : Int32)), (.int q1)]))
  refine Gl.go (fun _ k => XS.iand X0.here hx rfl (hb hby d1_2) rfl k) ?_
  show Gl p.tables e below (QQof s (Q_pick Z q1 h0 n0) 0 0) (s₁.setTop (mkF m 3 #[.val (.int q1), .unset] [(.int (q1 &&& (3 : Int32)))]))
  refine Gl.go (fun _ k => XS.istoreN X0.here hx rfl (hb hby d1_3) rfl (l' := #[.val (.int q1), .val (.int (q1 &&& (3 : Int32)))]) rfl k) ?_
  show Gl p.tables e below (QQof s (Q_pick Z q1 h0 n0) 0 0) (s₁.setTop (mkF m 4 #[.val (.int q1), .val (.int (q1 &&& (3 : Int32)))] []))
  refine Gl.go (fun _ k => XS.iloadN X0.here hx rfl (hb hby d1_4) rfl  k) ?_
  show Gl p.tables e below (QQof s (Q_pick Z q1 h0 n0) 0 0) (s₁.setTop (mkF m 5 #[.val (.int q1), .val (.int (q1 &&& (3 : Int32)))] [(.int (q1 &&& (3 : Int32)))]))
  by_cases h5 : (q1 &&& (3 : Int32)) = (0 : Int32)
  · skip
    refine Gl.go (fun _ k => XS.ifNo X0.here hx rfl (hb hby d1_5) rfl ((if0 _ _).trans (teq h5).2) k) ?_
    show Gl p.tables e below (QQof s (Q_pick Z q1 h0 n0) 0 0) (s₁.setTop (mkF m 8 #[.val (.int q1), .val (.int (q1 &&& (3 : Int32)))] []))
    refine Gl.go (fun _ k => XS.bipush X0.here hx rfl (hb hby d1_8) k) ?_
    show Gl p.tables e below (QQof s (Q_pick Z q1 h0 n0) 0 0) (s₁.setTop (mkF m 10 #[.val (.int q1), .val (.int (q1 &&& (3 : Int32)))] [(.int (13 : Int32))]))
    refine leafN X0 hx hlk (t := .char) Bd.returns (by simp) (hb hby d1_10) ?_ (by decide) (by decide)
    exact ⟨by rw [own_n13, pickV, if_pos h5], N0, e0⟩
  · skip
    refine Gl.go (fun _ k => XS.ifYes X0.here hx rfl (pc0 := 5) (pc' := 11) rfl (hb hby d1_5) rfl ((if0 _ _).trans (feq h5).2) (by decide) (by decide) k) ?_
    show Gl p.tables e below (QQof s (Q_pick Z q1 h0 n0) 0 0) (s₁.setTop (mkF m 11 #[.val (.int q1), .val (.int (q1 &&& (3 : Int32)))] []))
    refine Gl.go (fun _ k => XS.iloadN X0.here hx rfl (hb hby d1_11) rfl  k) ?_
    show Gl p.tables e below (QQof s (Q_pick Z q1 h0 n0) 0 0) (s₁.setTop (mkF m 12 #[.val (.int q1), .val (.int (q1 &&& (3 : Int32)))] [(.int (q1 &&& (3 : Int32)))]))
    refine Gl.go (fun _ k => XS.iconst X0.here hx rfl (hb hby d1_12) k) ?_
    show Gl p.tables e below (QQof s (Q_pick Z q1 h0 n0) 0 0) (s₁.setTop (mkF m 13 #[.val (.int q1), .val (.int (q1 &&& (3 : Int32)))] [(.int (1 : Int32)), (.int (q1 &&& (3 : Int32)))]))
    by_cases h13 : (q1 &&& (3 : Int32)) = (1 : Int32)
    · skip
      refine Gl.go (fun _ k => XS.icmpNo X0.here hx rfl (hb hby d1_13) rfl (teq h13).2 k) ?_
      show Gl p.tables e below (QQof s (Q_pick Z q1 h0 n0) 0 0) (s₁.setTop (mkF m 16 #[.val (.int q1), .val (.int (q1 &&& (3 : Int32)))] []))
      refine Gl.go (fun _ k => XS.bipush X0.here hx rfl (hb hby d1_16) k) ?_
      show Gl p.tables e below (QQof s (Q_pick Z q1 h0 n0) 0 0) (s₁.setTop (mkF m 18 #[.val (.int q1), .val (.int (q1 &&& (3 : Int32)))] [(.int (10 : Int32))]))
      refine leafN X0 hx hlk (t := .char) Bd.returns (by simp) (hb hby d1_18) ?_ (by decide) (by decide)
      exact ⟨by rw [own_n10, pickV, if_neg h5, if_pos h13], N0, e0⟩
    · skip
      refine Gl.go (fun _ k => XS.icmpYes X0.here hx rfl (pc0 := 13) (pc' := 19) rfl (hb hby d1_13) rfl (feq h13).2 (by decide) (by decide) k) ?_
      show Gl p.tables e below (QQof s (Q_pick Z q1 h0 n0) 0 0) (s₁.setTop (mkF m 19 #[.val (.int q1), .val (.int (q1 &&& (3 : Int32)))] []))
      refine Gl.go (fun _ k => XS.iloadN X0.here hx rfl (hb hby d1_19) rfl  k) ?_
      show Gl p.tables e below (QQof s (Q_pick Z q1 h0 n0) 0 0) (s₁.setTop (mkF m 20 #[.val (.int q1), .val (.int (q1 &&& (3 : Int32)))] [(.int q1)]))
      refine Gl.go (fun _ k => XS.iconst X0.here hx rfl (hb hby d1_20) k) ?_
      show Gl p.tables e below (QQof s (Q_pick Z q1 h0 n0) 0 0) (s₁.setTop (mkF m 21 #[.val (.int q1), .val (.int (q1 &&& (3 : Int32)))] [(.int (2 : Int32)), (.int q1)]))
      refine Gl.go (fun _ k => XS.iushr X0.here hx rfl (hb hby d1_21) rfl k) ?_
      show Gl p.tables e below (QQof s (Q_pick Z q1 h0 n0) 0 0) (s₁.setTop (mkF m 22 #[.val (.int q1), .val (.int (q1 &&& (3 : Int32)))] [(.int ((q1.toUInt32 >>> ((2 : Int32) &&& 31).toUInt32).toInt32))]))
      refine Gl.go (fun _ k => X0.ldcInt hx hown (mvT hZ (hw _ (List.mem_of_getElem? (i := 4) rfl))) (g := (mkF m 22 #[.val (.int q1), .val (.int (q1 &&& (3 : Int32)))] [(.int ((q1.toUInt32 >>> ((2 : Int32) &&& 31).toUInt32).toInt32))])) rfl (hb hby d1_22) _ k) ?_
      show Gl p.tables e below (QQof s (Q_pick Z q1 h0 n0) 0 0) (s₁.setTop (mkF m 24 #[.val (.int q1), .val (.int (q1 &&& (3 : Int32)))] [(.int (65535 : Int32)), (.int ((q1.toUInt32 >>> ((2 : Int32) &&& 31).toUInt32).toInt32))]))
      refine Gl.go (fun _ k => XS.iand X0.here hx rfl (hb hby d1_24) rfl k) ?_
      show Gl p.tables e below (QQof s (Q_pick Z q1 h0 n0) 0 0) (s₁.setTop (mkF m 25 #[.val (.int q1), .val (.int (q1 &&& (3 : Int32)))] [(.int (((q1.toUInt32 >>> ((2 : Int32) &&& 31).toUInt32).toInt32) &&& (65535 : Int32)))]))
      refine Gl.go (fun _ k => XS.i2c X0.here hx rfl (hb hby d1_25) rfl k) ?_
      show Gl p.tables e below (QQof s (Q_pick Z q1 h0 n0) 0 0) (s₁.setTop (mkF m 26 #[.val (.int q1), .val (.int (q1 &&& (3 : Int32)))] [(.int ((((q1.toUInt32 >>> ((2 : Int32) &&& 31).toUInt32).toInt32) &&& (65535 : Int32)).toUInt32.toUInt16.toUInt32.toInt32))]))
      refine leafN X0 hx hlk (t := .char) Bd.returns (by simp) (hb hby d1_26) ?_ (by decide) (by decide)
      exact ⟨by rw [pickV, if_neg h5, if_neg h13], N0, e0⟩
def Q_one (Z : State) (q1 : Int32) (h0 : Heap) (n0 : Nat) (v : Option Value) (h : Heap) (L : List Loc) : Prop := v = some (.int (oneV q1)) ∧ Fr n0 L ∧ h = h0
set_option maxRecDepth 65536 in
set_option maxHeartbeats 40000000 in
theorem rm_one (l : Launch) (Z : State) (a0 : Array Value) (hw : ∀ d ∈ tables_1, d.before a0 Z = true) (ws : List Jvm.Cond) (q1 : Int32) (h0 : Heap) (n0 : Nat) (Z0 : n0 ≤ h0.size)  :
    MetFree l (⟨"com/example/kontraktor/kontraktor/cli/InputFileBeginsLineBreakPinLaw", "one", "(Z)I"⟩ : MethodName) (head1 (Jvm.Cond.code (⟨"com/example/kontraktor/kontraktor/cli/InputFileBeginsLineBreakPinLaw", "one", "(Z)I"⟩ : MethodName) method_3_code 1 (some .int) :: ws) ({ frames := 0, cells := 0, slots := 0, locals := 0 } : Room)) (fun aa U => aa = #[(.int q1)] ∧ Z.Warmed39 U.vm ∧ U.heap = h0) (fun _ _ _ _ _ => True) (fun _ U o U' => ∃ v L, o = .returned v ∧ Q_one Z q1 h0 n0 v U'.heap L ∧ FrameEnd U o U' L ({ frames := 0, cells := 0, slots := 0, locals := 0 } : Room).cells ({ frames := 0, cells := 0, slots := 0, locals := 0 } : Room).slots) := by
  refine MetFree.of_bodySF (plainFor_of_name pn_0) hisR ?_
  intro p e s m args below meth c s₁ Bd hml0 hP hK
  obtain ⟨rfl, hZ, hh⟩ := hP
  have hx := Bd.exec
  have hby := Bd.bytes
  have hml : c.maxLocals = 1 := hml0
  have hown : s.vm.findClass "com/example/kontraktor/kontraktor/cli/InputFileBeginsLineBreakPinLaw" = some m.cls := findClass_of_methodNamed Bd.named
  have hnm := (name_of_methodNamed Bd.named Bd.method).1
  have hlk : meth.locks = false := BodyLoose.notSynchronized Bd
  have X0 : Stand p l e ({ frames := 0, cells := 0, slots := 0, locals := 0 } : Room) s m #[(.int q1)] below meth c s₁ [] 0 0 := Stand.of_body Bd
  have e0 : s₁.heap = h0 := by rw [← hh, Bd.state]; rfl
  have N0 := Fr.nil n0
  have K0 : Keep h0 h0 [] := Keep.refl _ _
  show Gl p.tables e below (QQof s (Q_one Z q1 h0 n0) 0 0) (s₁.setTop (entryFrame m #[(.int q1)] 1))
  refine Gl.go (fun t k => castTop (ef_one m q1) k) ?_
  show Gl p.tables e below (QQof s (Q_one Z q1 h0 n0) 0 0) (s₁.setTop (mkF m 0 #[.val (.int q1)] []))
  refine Gl.go (fun _ k => XS.iloadN X0.here hx rfl (hb hby d2_0) rfl  k) ?_
  show Gl p.tables e below (QQof s (Q_one Z q1 h0 n0) 0 0) (s₁.setTop (mkF m 1 #[.val (.int q1)] [(.int q1)]))
  by_cases h1 : q1 = (0 : Int32)
  · skip
    refine Gl.go (fun _ k => XS.ifYes X0.here hx rfl (pc0 := 1) (pc' := 8) rfl (hb hby d2_1) rfl ((if0 _ _).trans (teq h1).1) (by decide) (by decide) k) ?_
    show Gl p.tables e below (QQof s (Q_one Z q1 h0 n0) 0 0) (s₁.setTop (mkF m 8 #[.val (.int q1)] []))
    refine Gl.go (fun _ k => XS.iconst X0.here hx rfl (hb hby d2_8) k) ?_
    show Gl p.tables e below (QQof s (Q_one Z q1 h0 n0) 0 0) (s₁.setTop (mkF m 9 #[.val (.int q1)] [(.int (0 : Int32))]))
    refine leafI X0 hx hlk Bd.returns (hb hby d2_9) ?_ (by decide) (by decide)
    exact ⟨by rw [oneV, if_pos h1], N0, e0⟩
  · skip
    refine Gl.go (fun _ k => XS.ifNo X0.here hx rfl (hb hby d2_1) rfl ((if0 _ _).trans (feq h1).1) k) ?_
    show Gl p.tables e below (QQof s (Q_one Z q1 h0 n0) 0 0) (s₁.setTop (mkF m 4 #[.val (.int q1)] []))
    refine Gl.go (fun _ k => XS.iconst X0.here hx rfl (hb hby d2_4) k) ?_
    show Gl p.tables e below (QQof s (Q_one Z q1 h0 n0) 0 0) (s₁.setTop (mkF m 5 #[.val (.int q1)] [(.int (1 : Int32))]))
    refine Gl.go (fun _ k => XS.goto X0.here hx rfl (pc0 := 5) (pc' := 9) rfl (hb hby d2_5) (by decide) (by decide) k) ?_
    show Gl p.tables e below (QQof s (Q_one Z q1 h0 n0) 0 0) (s₁.setTop (mkF m 9 #[.val (.int q1)] [(.int (1 : Int32))]))
    refine leafI X0 hx hlk Bd.returns (hb hby d2_9) ?_ (by decide) (by decide)
    exact ⟨by rw [oneV, if_neg h1], N0, e0⟩
def Q_br (Z : State) (q1 : Int32) (q2 : Int32) (h0 : Heap) (n0 : Nat) (v : Option Value) (h : Heap) (L : List Loc) : Prop := v = some (.int (brV q1 q2)) ∧ Fr n0 L ∧ h = h0
set_option maxRecDepth 65536 in
set_option maxHeartbeats 40000000 in
theorem rm_br (l : Launch) (Z : State) (a0 : Array Value) (hw : ∀ d ∈ tables_1, d.before a0 Z = true) (ws : List Jvm.Cond) (q1 : Int32) (q2 : Int32) (h0 : Heap) (n0 : Nat) (Z0 : n0 ≤ h0.size)  :
    MetFree l (⟨"com/example/kontraktor/kontraktor/cli/InputFile", "beginsLineBreak", "(CC)Z"⟩ : MethodName) (head1 (Jvm.Cond.code (⟨"com/example/kontraktor/kontraktor/cli/InputFile", "beginsLineBreak", "(CC)Z"⟩ : MethodName) prog_18_method_4_code 2 (some .boolean) :: ws) ({ frames := 0, cells := 0, slots := 0, locals := 0 } : Room)) (fun aa U => aa = #[(.int q1), (.int q2)] ∧ Z.Warmed39 U.vm ∧ U.heap = h0) (fun _ _ _ _ _ => True) (fun _ U o U' => ∃ v L, o = .returned v ∧ Q_br Z q1 q2 h0 n0 v U'.heap L ∧ FrameEnd U o U' L ({ frames := 0, cells := 0, slots := 0, locals := 0 } : Room).cells ({ frames := 0, cells := 0, slots := 0, locals := 0 } : Room).slots) := by
  refine MetFree.of_bodySF (plainFor_of_name pn_1) hisR ?_
  intro p e s m args below meth c s₁ Bd hml0 hP hK
  obtain ⟨rfl, hZ, hh⟩ := hP
  have hx := Bd.exec
  have hby := Bd.bytes
  have hml : c.maxLocals = 2 := hml0
  have hown : s.vm.findClass "com/example/kontraktor/kontraktor/cli/InputFile" = some m.cls := findClass_of_methodNamed Bd.named
  have hnm := (name_of_methodNamed Bd.named Bd.method).1
  have hlk : meth.locks = false := BodyLoose.notSynchronized Bd
  have X0 : Stand p l e ({ frames := 0, cells := 0, slots := 0, locals := 0 } : Room) s m #[(.int q1), (.int q2)] below meth c s₁ [] 0 0 := Stand.of_body Bd
  have e0 : s₁.heap = h0 := by rw [← hh, Bd.state]; rfl
  have N0 := Fr.nil n0
  have K0 : Keep h0 h0 [] := Keep.refl _ _
  show Gl p.tables e below (QQof s (Q_br Z q1 q2 h0 n0) 0 0) (s₁.setTop (entryFrame m #[(.int q1), (.int q2)] 2))
  refine Gl.go (fun t k => castTop (ef_br m q1 q2) k) ?_
  show Gl p.tables e below (QQof s (Q_br Z q1 q2 h0 n0) 0 0) (s₁.setTop (mkF m 0 #[.val (.int q1), .val (.int q2)] []))
  refine Gl.go (fun _ k => XS.iloadN X0.here hx rfl (hb hby d3_0) rfl  k) ?_
  show Gl p.tables e below (QQof s (Q_br Z q1 q2 h0 n0) 0 0) (s₁.setTop (mkF m 1 #[.val (.int q1), .val (.int q2)] [(.int q2)]))
  refine Gl.go (fun _ k => XS.bipush X0.here hx rfl (hb hby d3_1) k) ?_
  show Gl p.tables e below (QQof s (Q_br Z q1 q2 h0 n0) 0 0) (s₁.setTop (mkF m 3 #[.val (.int q1), .val (.int q2)] [(.int (13 : Int32)), (.int q2)]))
  by_cases h3 : q2 = (13 : Int32)
  · skip
    refine Gl.go (fun _ k => XS.icmpYes X0.here hx rfl (pc0 := 3) (pc' := 18) rfl (hb hby d3_3) rfl (teq h3).1 (by decide) (by decide) k) ?_
    show Gl p.tables e below (QQof s (Q_br Z q1 q2 h0 n0) 0 0) (s₁.setTop (mkF m 18 #[.val (.int q1), .val (.int q2)] []))
    refine Gl.go (fun _ k => XS.iconst X0.here hx rfl (hb hby d3_18) k) ?_
    show Gl p.tables e below (QQof s (Q_br Z q1 q2 h0 n0) 0 0) (s₁.setTop (mkF m 19 #[.val (.int q1), .val (.int q2)] [(.int (1 : Int32))]))
    refine Gl.go (fun _ k => XS.goto X0.here hx rfl (pc0 := 19) (pc' := 23) rfl (hb hby d3_19) (by decide) (by decide) k) ?_
    show Gl p.tables e below (QQof s (Q_br Z q1 q2 h0 n0) 0 0) (s₁.setTop (mkF m 23 #[.val (.int q1), .val (.int q2)] [(.int (1 : Int32))]))
    refine leafN X0 hx hlk (t := .boolean) Bd.returns (by simp) (hb hby d3_23) ?_ (by decide) (by decide)
    exact ⟨by rw [own_nar1, brV, if_pos h3], N0, e0⟩
  · skip
    refine Gl.go (fun _ k => XS.icmpNo X0.here hx rfl (hb hby d3_3) rfl (feq h3).1 k) ?_
    show Gl p.tables e below (QQof s (Q_br Z q1 q2 h0 n0) 0 0) (s₁.setTop (mkF m 6 #[.val (.int q1), .val (.int q2)] []))
    refine Gl.go (fun _ k => XS.iloadN X0.here hx rfl (hb hby d3_6) rfl  k) ?_
    show Gl p.tables e below (QQof s (Q_br Z q1 q2 h0 n0) 0 0) (s₁.setTop (mkF m 7 #[.val (.int q1), .val (.int q2)] [(.int q2)]))
    refine Gl.go (fun _ k => XS.bipush X0.here hx rfl (hb hby d3_7) k) ?_
    show Gl p.tables e below (QQof s (Q_br Z q1 q2 h0 n0) 0 0) (s₁.setTop (mkF m 9 #[.val (.int q1), .val (.int q2)] [(.int (10 : Int32)), (.int q2)]))
    by_cases h9 : q2 = (10 : Int32)
    · skip
      refine Gl.go (fun _ k => XS.icmpNo X0.here hx rfl (hb hby d3_9) rfl (teq h9).2 k) ?_
      show Gl p.tables e below (QQof s (Q_br Z q1 q2 h0 n0) 0 0) (s₁.setTop (mkF m 12 #[.val (.int q1), .val (.int q2)] []))
      refine Gl.go (fun _ k => XS.iloadN X0.here hx rfl (hb hby d3_12) rfl  k) ?_
      show Gl p.tables e below (QQof s (Q_br Z q1 q2 h0 n0) 0 0) (s₁.setTop (mkF m 13 #[.val (.int q1), .val (.int q2)] [(.int q1)]))
      refine Gl.go (fun _ k => XS.bipush X0.here hx rfl (hb hby d3_13) k) ?_
      show Gl p.tables e below (QQof s (Q_br Z q1 q2 h0 n0) 0 0) (s₁.setTop (mkF m 15 #[.val (.int q1), .val (.int q2)] [(.int (13 : Int32)), (.int q1)]))
      by_cases h15 : q1 = (13 : Int32)
      · skip
        refine Gl.go (fun _ k => XS.icmpYes X0.here hx rfl (pc0 := 15) (pc' := 22) rfl (hb hby d3_15) rfl (teq h15).1 (by decide) (by decide) k) ?_
        show Gl p.tables e below (QQof s (Q_br Z q1 q2 h0 n0) 0 0) (s₁.setTop (mkF m 22 #[.val (.int q1), .val (.int q2)] []))
        refine Gl.go (fun _ k => XS.iconst X0.here hx rfl (hb hby d3_22) k) ?_
        show Gl p.tables e below (QQof s (Q_br Z q1 q2 h0 n0) 0 0) (s₁.setTop (mkF m 23 #[.val (.int q1), .val (.int q2)] [(.int (0 : Int32))]))
        refine leafN X0 hx hlk (t := .boolean) Bd.returns (by simp) (hb hby d3_23) ?_ (by decide) (by decide)
        exact ⟨by rw [own_nar0, brV, if_neg h3, if_pos h9, if_pos h15], N0, e0⟩
      · skip
        refine Gl.go (fun _ k => XS.icmpNo X0.here hx rfl (hb hby d3_15) rfl (feq h15).1 k) ?_
        show Gl p.tables e below (QQof s (Q_br Z q1 q2 h0 n0) 0 0) (s₁.setTop (mkF m 18 #[.val (.int q1), .val (.int q2)] []))
        refine Gl.go (fun _ k => XS.iconst X0.here hx rfl (hb hby d3_18) k) ?_
        show Gl p.tables e below (QQof s (Q_br Z q1 q2 h0 n0) 0 0) (s₁.setTop (mkF m 19 #[.val (.int q1), .val (.int q2)] [(.int (1 : Int32))]))
        refine Gl.go (fun _ k => XS.goto X0.here hx rfl (pc0 := 19) (pc' := 23) rfl (hb hby d3_19) (by decide) (by decide) k) ?_
        show Gl p.tables e below (QQof s (Q_br Z q1 q2 h0 n0) 0 0) (s₁.setTop (mkF m 23 #[.val (.int q1), .val (.int q2)] [(.int (1 : Int32))]))
        refine leafN X0 hx hlk (t := .boolean) Bd.returns (by simp) (hb hby d3_23) ?_ (by decide) (by decide)
        exact ⟨by rw [own_nar1, brV, if_neg h3, if_pos h9, if_neg h15], N0, e0⟩
    · skip
      refine Gl.go (fun _ k => XS.icmpYes X0.here hx rfl (pc0 := 9) (pc' := 22) rfl (hb hby d3_9) rfl (feq h9).2 (by decide) (by decide) k) ?_
      show Gl p.tables e below (QQof s (Q_br Z q1 q2 h0 n0) 0 0) (s₁.setTop (mkF m 22 #[.val (.int q1), .val (.int q2)] []))
      refine Gl.go (fun _ k => XS.iconst X0.here hx rfl (hb hby d3_22) k) ?_
      show Gl p.tables e below (QQof s (Q_br Z q1 q2 h0 n0) 0 0) (s₁.setTop (mkF m 23 #[.val (.int q1), .val (.int q2)] [(.int (0 : Int32))]))
      refine leafN X0 hx hlk (t := .boolean) Bd.returns (by simp) (hb hby d3_23) ?_ (by decide) (by decide)
      exact ⟨by rw [own_nar0, brV, if_neg h3, if_neg h9], N0, e0⟩
def Q_law (Z : State) (a b c_ d : Int32) (h0 : Heap) (n0 : Nat) (v : Option Value) (h : Heap) (L : List Loc) : Prop := v = some (.int 1) ∧ Fr n0 L
set_option maxRecDepth 65536 in
set_option maxHeartbeats 40000000 in
theorem rm_law (l : Launch) (Z : State) (a0 : Array Value) (hw : ∀ d ∈ tables_1, d.before a0 Z = true) (ws : List Jvm.Cond) (a b c_ d : Int32) (h0 : Heap) (n0 : Nat) (Z0 : n0 ≤ h0.size)  :
    MetFree l x (head1 (Jvm.Cond.code x code maxLocals ret :: ws) room_1) (fun aa U => aa = #[(.int a), (.int b), (.int c_), (.int d)] ∧ Z.Warmed39 U.vm ∧ U.heap = h0) (fun _ _ _ _ _ => True) (fun _ U o U' => ∃ v L, o = .returned v ∧ Q_law Z a b c_ d h0 n0 v U'.heap L ∧ FrameEnd U o U' L 0 0) := by
  refine MetFree.of_bodySF (plainFor_of_name pn_0) hisR ?_
  intro p e s m args below meth c s₁ Bd hml0 hP hK
  obtain ⟨rfl, hZ, hh⟩ := hP
  have hx := Bd.exec
  have hby := Bd.bytes
  have hml : c.maxLocals = 20 := hml0
  have hown : s.vm.findClass "com/example/kontraktor/kontraktor/cli/InputFileBeginsLineBreakPinLaw" = some m.cls := findClass_of_methodNamed Bd.named
  have hnm := (name_of_methodNamed Bd.named Bd.method).1
  have hlk : meth.locks = false := BodyLoose.notSynchronized Bd
  have X0 : Stand p l e room_1 s m #[(.int a), (.int b), (.int c_), (.int d)] below meth c s₁ [] 0 0 := Stand.of_body Bd
  have e0 : s₁.heap = h0 := by rw [← hh, Bd.state]; rfl
  have N0 := Fr.nil n0
  have K0 : Keep h0 h0 [] := Keep.refl _ _
  show Gl p.tables e below (QQof s (Q_law Z a b c_ d h0 n0) 0 0) (s₁.setTop (entryFrame m #[(.int a), (.int b), (.int c_), (.int d)] maxLocals))
  refine Gl.go (fun t k => castTop (ef_law m a b c_ d) k) ?_
  show Gl p.tables e below (QQof s (Q_law Z a b c_ d h0 n0) 0 0) (s₁.setTop (mkF m 0 #[.val (.int a), .val (.int b), .val (.int c_), .val (.int d), .unset, .unset, .unset, .unset, .unset, .unset, .unset, .unset, .unset, .unset, .unset, .unset, .unset, .unset, .unset, .unset] []))
  refine Gl.go (fun _ k => XS.iloadN X0.here hx rfl (hb hby at_0) rfl  k) ?_
  show Gl p.tables e below (QQof s (Q_law Z a b c_ d h0 n0) 0 0) (s₁.setTop (mkF m 1 #[.val (.int a), .val (.int b), .val (.int c_), .val (.int d), .unset, .unset, .unset, .unset, .unset, .unset, .unset, .unset, .unset, .unset, .unset, .unset, .unset, .unset, .unset, .unset] [(.int a)]))
  obtain ⟨_, _, ⟨T1, L1, k1, n1⟩, -, X1, ⟨Lc1, hQ1, l1, y1, z1⟩, st1⟩ := Jvm.LawKit.callS X0 hx (y := (⟨"com/example/kontraktor/kontraktor/cli/InputFileBeginsLineBreakPinLaw", "pick", "(I)C"⟩ : MethodName)) hown (mvT hZ (hw _ (List.mem_of_getElem? (i := 0) rfl))) (mvT hZ (hw _ (List.mem_of_getElem? (i := 1) rfl))) (mvT hZ (hw _ (List.mem_of_getElem? (i := 2) rfl))) (mvT hZ (hw _ (List.mem_of_getElem? (i := 3) rfl))) (by decide) (backOf (W := 0) (rm_pick l Z a0 hw [] a h0 n0 Z0 ) hZ (hw _ (List.mem_of_getElem? (i := 3) rfl)) (hw _ (List.mem_of_getElem? (i := 2) rfl)) (by decide) (by decide)) (g := (mkF m 1 #[.val (.int a), .val (.int b), .val (.int c_), .val (.int d), .unset, .unset, .unset, .unset, .unset, .unset, .unset, .unset, .unset, .unset, .unset, .unset, .unset, .unset, .unset, .unset] [(.int a)])) rfl (by rw [hml]; rfl) (argsL := [(.int a)]) (rest := []) (lenOf pd_0 rfl) rfl (by show 2 * 0 + _ ≤ _; exact Nat.le_of_eq rfl) (hb hby at_1) (fun _ _ => ⟨rfl, e0, (by decide : 0 + 0 ≤ _), (by decide : 0 + 0 ≤ _)⟩)
  dsimp only [Pt.U, Pt.locs, Pt.cells, Pt.slots] at X1 l1 y1 z1 st1 hQ1
  subst l1 y1 z1
  obtain ⟨rfl, Nq1, e1⟩ := hQ1
  have N1 := Fr.app N0 Nq1
  refine Gl.go (fun _ k => st1 _ k) ?_
  show Gl p.tables e below (QQof s (Q_law Z a b c_ d h0 n0) 0 0) (T1.setTop (mkF m 4 #[.val (.int a), .val (.int b), .val (.int c_), .val (.int d), .unset, .unset, .unset, .unset, .unset, .unset, .unset, .unset, .unset, .unset, .unset, .unset, .unset, .unset, .unset, .unset] [(.int (pickV a))]))
  generalize h_p_ : (pickV a) = p_
  show Gl p.tables e below (QQof s (Q_law Z a b c_ d h0 n0) 0 0) (T1.setTop (mkF m 4 #[.val (.int a), .val (.int b), .val (.int c_), .val (.int d), .unset, .unset, .unset, .unset, .unset, .unset, .unset, .unset, .unset, .unset, .unset, .unset, .unset, .unset, .unset, .unset] [(.int p_)]))
  refine Gl.go (fun _ k => XS.istore X1.here hx rfl (hb hby at_4) rfl (l' := #[.val (.int a), .val (.int b), .val (.int c_), .val (.int d), .val (.int p_), .unset, .unset, .unset, .unset, .unset, .unset, .unset, .unset, .unset, .unset, .unset, .unset, .unset, .unset, .unset]) rfl k) ?_
  show Gl p.tables e below (QQof s (Q_law Z a b c_ d h0 n0) 0 0) (T1.setTop (mkF m 6 #[.val (.int a), .val (.int b), .val (.int c_), .val (.int d), .val (.int p_), .unset, .unset, .unset, .unset, .unset, .unset, .unset, .unset, .unset, .unset, .unset, .unset, .unset, .unset, .unset] []))
  refine Gl.go (fun _ k => XS.iloadN X1.here hx rfl (hb hby at_6) rfl  k) ?_
  show Gl p.tables e below (QQof s (Q_law Z a b c_ d h0 n0) 0 0) (T1.setTop (mkF m 7 #[.val (.int a), .val (.int b), .val (.int c_), .val (.int d), .val (.int p_), .unset, .unset, .unset, .unset, .unset, .unset, .unset, .unset, .unset, .unset, .unset, .unset, .unset, .unset, .unset] [(.int b)]))
  obtain ⟨_, _, ⟨T2, L2, k2, n2⟩, -, X2, ⟨Lc2, hQ2, l2, y2, z2⟩, st2⟩ := Jvm.LawKit.callS X1 hx (y := (⟨"com/example/kontraktor/kontraktor/cli/InputFileBeginsLineBreakPinLaw", "pick", "(I)C"⟩ : MethodName)) hown (mvT hZ (hw _ (List.mem_of_getElem? (i := 0) rfl))) (mvT hZ (hw _ (List.mem_of_getElem? (i := 1) rfl))) (mvT hZ (hw _ (List.mem_of_getElem? (i := 2) rfl))) (mvT hZ (hw _ (List.mem_of_getElem? (i := 3) rfl))) (by decide) (backOf (W := 0) (rm_pick l Z a0 hw [] b h0 n0 Z0 ) hZ (hw _ (List.mem_of_getElem? (i := 3) rfl)) (hw _ (List.mem_of_getElem? (i := 2) rfl)) (by decide) (by decide)) (g := (mkF m 7 #[.val (.int a), .val (.int b), .val (.int c_), .val (.int d), .val (.int p_), .unset, .unset, .unset, .unset, .unset, .unset, .unset, .unset, .unset, .unset, .unset, .unset, .unset, .unset, .unset] [(.int b)])) rfl (by rw [hml]; rfl) (argsL := [(.int b)]) (rest := []) (lenOf pd_0 rfl) rfl (by show 2 * 0 + _ ≤ _; exact Nat.le_of_eq rfl) (hb hby at_7) (fun _ _ => ⟨rfl, e1, (by decide : 0 + 0 ≤ _), (by decide : 0 + 0 ≤ _)⟩)
  dsimp only [Pt.U, Pt.locs, Pt.cells, Pt.slots] at X2 l2 y2 z2 st2 hQ2
  subst l2 y2 z2
  obtain ⟨rfl, Nq2, e2⟩ := hQ2
  have N2 := Fr.app N1 Nq2
  refine Gl.go (fun _ k => st2 _ k) ?_
  show Gl p.tables e below (QQof s (Q_law Z a b c_ d h0 n0) 0 0) (T2.setTop (mkF m 10 #[.val (.int a), .val (.int b), .val (.int c_), .val (.int d), .val (.int p_), .unset, .unset, .unset, .unset, .unset, .unset, .unset, .unset, .unset, .unset, .unset, .unset, .unset, .unset, .unset] [(.int (pickV b))]))
  generalize h_x1 : (pickV b) = x1
  show Gl p.tables e below (QQof s (Q_law Z a b c_ d h0 n0) 0 0) (T2.setTop (mkF m 10 #[.val (.int a), .val (.int b), .val (.int c_), .val (.int d), .val (.int p_), .unset, .unset, .unset, .unset, .unset, .unset, .unset, .unset, .unset, .unset, .unset, .unset, .unset, .unset, .unset] [(.int x1)]))
  refine Gl.go (fun _ k => XS.istore X2.here hx rfl (hb hby at_10) rfl (l' := #[.val (.int a), .val (.int b), .val (.int c_), .val (.int d), .val (.int p_), .val (.int x1), .unset, .unset, .unset, .unset, .unset, .unset, .unset, .unset, .unset, .unset, .unset, .unset, .unset, .unset]) rfl k) ?_
  show Gl p.tables e below (QQof s (Q_law Z a b c_ d h0 n0) 0 0) (T2.setTop (mkF m 12 #[.val (.int a), .val (.int b), .val (.int c_), .val (.int d), .val (.int p_), .val (.int x1), .unset, .unset, .unset, .unset, .unset, .unset, .unset, .unset, .unset, .unset, .unset, .unset, .unset, .unset] []))
  refine Gl.go (fun _ k => XS.iloadN X2.here hx rfl (hb hby at_12) rfl  k) ?_
  show Gl p.tables e below (QQof s (Q_law Z a b c_ d h0 n0) 0 0) (T2.setTop (mkF m 13 #[.val (.int a), .val (.int b), .val (.int c_), .val (.int d), .val (.int p_), .val (.int x1), .unset, .unset, .unset, .unset, .unset, .unset, .unset, .unset, .unset, .unset, .unset, .unset, .unset, .unset] [(.int c_)]))
  obtain ⟨_, _, ⟨T3, L3, k3, n3⟩, -, X3, ⟨Lc3, hQ3, l3, y3, z3⟩, st3⟩ := Jvm.LawKit.callS X2 hx (y := (⟨"com/example/kontraktor/kontraktor/cli/InputFileBeginsLineBreakPinLaw", "pick", "(I)C"⟩ : MethodName)) hown (mvT hZ (hw _ (List.mem_of_getElem? (i := 0) rfl))) (mvT hZ (hw _ (List.mem_of_getElem? (i := 1) rfl))) (mvT hZ (hw _ (List.mem_of_getElem? (i := 2) rfl))) (mvT hZ (hw _ (List.mem_of_getElem? (i := 3) rfl))) (by decide) (backOf (W := 0) (rm_pick l Z a0 hw [] c_ h0 n0 Z0 ) hZ (hw _ (List.mem_of_getElem? (i := 3) rfl)) (hw _ (List.mem_of_getElem? (i := 2) rfl)) (by decide) (by decide)) (g := (mkF m 13 #[.val (.int a), .val (.int b), .val (.int c_), .val (.int d), .val (.int p_), .val (.int x1), .unset, .unset, .unset, .unset, .unset, .unset, .unset, .unset, .unset, .unset, .unset, .unset, .unset, .unset] [(.int c_)])) rfl (by rw [hml]; rfl) (argsL := [(.int c_)]) (rest := []) (lenOf pd_0 rfl) rfl (by show 2 * 0 + _ ≤ _; exact Nat.le_of_eq rfl) (hb hby at_13) (fun _ _ => ⟨rfl, e2, (by decide : 0 + 0 ≤ _), (by decide : 0 + 0 ≤ _)⟩)
  dsimp only [Pt.U, Pt.locs, Pt.cells, Pt.slots] at X3 l3 y3 z3 st3 hQ3
  subst l3 y3 z3
  obtain ⟨rfl, Nq3, e3⟩ := hQ3
  have N3 := Fr.app N2 Nq3
  refine Gl.go (fun _ k => st3 _ k) ?_
  show Gl p.tables e below (QQof s (Q_law Z a b c_ d h0 n0) 0 0) (T3.setTop (mkF m 16 #[.val (.int a), .val (.int b), .val (.int c_), .val (.int d), .val (.int p_), .val (.int x1), .unset, .unset, .unset, .unset, .unset, .unset, .unset, .unset, .unset, .unset, .unset, .unset, .unset, .unset] [(.int (pickV c_))]))
  generalize h_x2 : (pickV c_) = x2
  show Gl p.tables e below (QQof s (Q_law Z a b c_ d h0 n0) 0 0) (T3.setTop (mkF m 16 #[.val (.int a), .val (.int b), .val (.int c_), .val (.int d), .val (.int p_), .val (.int x1), .unset, .unset, .unset, .unset, .unset, .unset, .unset, .unset, .unset, .unset, .unset, .unset, .unset, .unset] [(.int x2)]))
  refine Gl.go (fun _ k => XS.istore X3.here hx rfl (hb hby at_16) rfl (l' := #[.val (.int a), .val (.int b), .val (.int c_), .val (.int d), .val (.int p_), .val (.int x1), .val (.int x2), .unset, .unset, .unset, .unset, .unset, .unset, .unset, .unset, .unset, .unset, .unset, .unset, .unset]) rfl k) ?_
  show Gl p.tables e below (QQof s (Q_law Z a b c_ d h0 n0) 0 0) (T3.setTop (mkF m 18 #[.val (.int a), .val (.int b), .val (.int c_), .val (.int d), .val (.int p_), .val (.int x1), .val (.int x2), .unset, .unset, .unset, .unset, .unset, .unset, .unset, .unset, .unset, .unset, .unset, .unset, .unset] []))
  refine Gl.go (fun _ k => XS.iloadN X3.here hx rfl (hb hby at_18) rfl  k) ?_
  show Gl p.tables e below (QQof s (Q_law Z a b c_ d h0 n0) 0 0) (T3.setTop (mkF m 19 #[.val (.int a), .val (.int b), .val (.int c_), .val (.int d), .val (.int p_), .val (.int x1), .val (.int x2), .unset, .unset, .unset, .unset, .unset, .unset, .unset, .unset, .unset, .unset, .unset, .unset, .unset] [(.int d)]))
  obtain ⟨_, _, ⟨T4, L4, k4, n4⟩, -, X4, ⟨Lc4, hQ4, l4, y4, z4⟩, st4⟩ := Jvm.LawKit.callS X3 hx (y := (⟨"com/example/kontraktor/kontraktor/cli/InputFileBeginsLineBreakPinLaw", "pick", "(I)C"⟩ : MethodName)) hown (mvT hZ (hw _ (List.mem_of_getElem? (i := 0) rfl))) (mvT hZ (hw _ (List.mem_of_getElem? (i := 1) rfl))) (mvT hZ (hw _ (List.mem_of_getElem? (i := 2) rfl))) (mvT hZ (hw _ (List.mem_of_getElem? (i := 3) rfl))) (by decide) (backOf (W := 0) (rm_pick l Z a0 hw [] d h0 n0 Z0 ) hZ (hw _ (List.mem_of_getElem? (i := 3) rfl)) (hw _ (List.mem_of_getElem? (i := 2) rfl)) (by decide) (by decide)) (g := (mkF m 19 #[.val (.int a), .val (.int b), .val (.int c_), .val (.int d), .val (.int p_), .val (.int x1), .val (.int x2), .unset, .unset, .unset, .unset, .unset, .unset, .unset, .unset, .unset, .unset, .unset, .unset, .unset] [(.int d)])) rfl (by rw [hml]; rfl) (argsL := [(.int d)]) (rest := []) (lenOf pd_0 rfl) rfl (by show 2 * 0 + _ ≤ _; exact Nat.le_of_eq rfl) (hb hby at_19) (fun _ _ => ⟨rfl, e3, (by decide : 0 + 0 ≤ _), (by decide : 0 + 0 ≤ _)⟩)
  dsimp only [Pt.U, Pt.locs, Pt.cells, Pt.slots] at X4 l4 y4 z4 st4 hQ4
  subst l4 y4 z4
  obtain ⟨rfl, Nq4, e4⟩ := hQ4
  have N4 := Fr.app N3 Nq4
  refine Gl.go (fun _ k => st4 _ k) ?_
  show Gl p.tables e below (QQof s (Q_law Z a b c_ d h0 n0) 0 0) (T4.setTop (mkF m 22 #[.val (.int a), .val (.int b), .val (.int c_), .val (.int d), .val (.int p_), .val (.int x1), .val (.int x2), .unset, .unset, .unset, .unset, .unset, .unset, .unset, .unset, .unset, .unset, .unset, .unset, .unset] [(.int (pickV d))]))
  generalize h_x3 : (pickV d) = x3
  show Gl p.tables e below (QQof s (Q_law Z a b c_ d h0 n0) 0 0) (T4.setTop (mkF m 22 #[.val (.int a), .val (.int b), .val (.int c_), .val (.int d), .val (.int p_), .val (.int x1), .val (.int x2), .unset, .unset, .unset, .unset, .unset, .unset, .unset, .unset, .unset, .unset, .unset, .unset, .unset] [(.int x3)]))
  refine Gl.go (fun _ k => XS.istore X4.here hx rfl (hb hby at_22) rfl (l' := #[.val (.int a), .val (.int b), .val (.int c_), .val (.int d), .val (.int p_), .val (.int x1), .val (.int x2), .val (.int x3), .unset, .unset, .unset, .unset, .unset, .unset, .unset, .unset, .unset, .unset, .unset, .unset]) rfl k) ?_
  show Gl p.tables e below (QQof s (Q_law Z a b c_ d h0 n0) 0 0) (T4.setTop (mkF m 24 #[.val (.int a), .val (.int b), .val (.int c_), .val (.int d), .val (.int p_), .val (.int x1), .val (.int x2), .val (.int x3), .unset, .unset, .unset, .unset, .unset, .unset, .unset, .unset, .unset, .unset, .unset, .unset] []))
  refine Gl.go (fun _ k => XS.iload X4.here hx rfl (hb hby at_24) rfl  k) ?_
  show Gl p.tables e below (QQof s (Q_law Z a b c_ d h0 n0) 0 0) (T4.setTop (mkF m 26 #[.val (.int a), .val (.int b), .val (.int c_), .val (.int d), .val (.int p_), .val (.int x1), .val (.int x2), .val (.int x3), .unset, .unset, .unset, .unset, .unset, .unset, .unset, .unset, .unset, .unset, .unset, .unset] [(.int x1)]))
  refine Gl.go (fun _ k => XS.bipush X4.here hx rfl (hb hby at_26) k) ?_
  show Gl p.tables e below (QQof s (Q_law Z a b c_ d h0 n0) 0 0) (T4.setTop (mkF m 28 #[.val (.int a), .val (.int b), .val (.int c_), .val (.int d), .val (.int p_), .val (.int x1), .val (.int x2), .val (.int x3), .unset, .unset, .unset, .unset, .unset, .unset, .unset, .unset, .unset, .unset, .unset, .unset] [(.int (13 : Int32)), (.int x1)]))
  have D28_5 : ∀ t, Steps p.tables e below (T4.setTop (mkF m 36 #[.val (.int a), .val (.int b), .val (.int c_), .val (.int d), .val (.int p_), .val (.int x1), .val (.int x2), .val (.int x3), .unset, .unset, .unset, .unset, .unset, .unset, .unset, .unset, .unset, .unset, .unset, .unset] [(.int (if x1 = (13 : Int32) then (1 : Int32) else (0 : Int32)))])) t → Steps p.tables e below (T4.setTop (mkF m 28 #[.val (.int a), .val (.int b), .val (.int c_), .val (.int d), .val (.int p_), .val (.int x1), .val (.int x2), .val (.int x3), .unset, .unset, .unset, .unset, .unset, .unset, .unset, .unset, .unset, .unset, .unset, .unset] [(.int (13 : Int32)), (.int x1)])) t := by
    intro t k
    show Steps p.tables e below (T4.setTop (mkF m 28 #[.val (.int a), .val (.int b), .val (.int c_), .val (.int d), .val (.int p_), .val (.int x1), .val (.int x2), .val (.int x3), .unset, .unset, .unset, .unset, .unset, .unset, .unset, .unset, .unset, .unset, .unset, .unset] [(.int (13 : Int32)), (.int x1)])) _
    by_cases hd28_6 : x1 = (13 : Int32)
    · skip
      refine XS.icmpNo X4.here hx rfl (hb hby at_28) rfl (teq hd28_6).2 ?_
      show Steps p.tables e below (T4.setTop (mkF m 31 #[.val (.int a), .val (.int b), .val (.int c_), .val (.int d), .val (.int p_), .val (.int x1), .val (.int x2), .val (.int x3), .unset, .unset, .unset, .unset, .unset, .unset, .unset, .unset, .unset, .unset, .unset, .unset] [])) _
      refine XS.iconst X4.here hx rfl (hb hby at_31) ?_
      show Steps p.tables e below (T4.setTop (mkF m 32 #[.val (.int a), .val (.int b), .val (.int c_), .val (.int d), .val (.int p_), .val (.int x1), .val (.int x2), .val (.int x3), .unset, .unset, .unset, .unset, .unset, .unset, .unset, .unset, .unset, .unset, .unset, .unset] [(.int (1 : Int32))])) _
      refine XS.goto X4.here hx rfl (pc0 := 32) (pc' := 36) rfl (hb hby at_32) (by decide) (by decide) ?_
      show Steps p.tables e below (T4.setTop (mkF m 36 #[.val (.int a), .val (.int b), .val (.int c_), .val (.int d), .val (.int p_), .val (.int x1), .val (.int x2), .val (.int x3), .unset, .unset, .unset, .unset, .unset, .unset, .unset, .unset, .unset, .unset, .unset, .unset] [(.int (1 : Int32))])) _
      simp only [if_pos hd28_6] at k
      exact k
    · skip
      refine XS.icmpYes X4.here hx rfl (pc0 := 28) (pc' := 35) rfl (hb hby at_28) rfl (feq hd28_6).2 (by decide) (by decide) ?_
      show Steps p.tables e below (T4.setTop (mkF m 35 #[.val (.int a), .val (.int b), .val (.int c_), .val (.int d), .val (.int p_), .val (.int x1), .val (.int x2), .val (.int x3), .unset, .unset, .unset, .unset, .unset, .unset, .unset, .unset, .unset, .unset, .unset, .unset] [])) _
      refine XS.iconst X4.here hx rfl (hb hby at_35) ?_
      show Steps p.tables e below (T4.setTop (mkF m 36 #[.val (.int a), .val (.int b), .val (.int c_), .val (.int d), .val (.int p_), .val (.int x1), .val (.int x2), .val (.int x3), .unset, .unset, .unset, .unset, .unset, .unset, .unset, .unset, .unset, .unset, .unset, .unset] [(.int (0 : Int32))])) _
      simp only [if_neg hd28_6] at k
      exact k
  refine Gl.go (fun _ k => D28_5 _ k) ?_
  show Gl p.tables e below (QQof s (Q_law Z a b c_ d h0 n0) 0 0) (T4.setTop (mkF m 36 #[.val (.int a), .val (.int b), .val (.int c_), .val (.int d), .val (.int p_), .val (.int x1), .val (.int x2), .val (.int x3), .unset, .unset, .unset, .unset, .unset, .unset, .unset, .unset, .unset, .unset, .unset, .unset] [(.int (if x1 = (13 : Int32) then (1 : Int32) else (0 : Int32)))]))
  show Gl p.tables e below (QQof s (Q_law Z a b c_ d h0 n0) 0 0) (T4.setTop (mkF m 36 #[.val (.int a), .val (.int b), .val (.int c_), .val (.int d), .val (.int p_), .val (.int x1), .val (.int x2), .val (.int x3), .unset, .unset, .unset, .unset, .unset, .unset, .unset, .unset, .unset, .unset, .unset, .unset] [(.int (eqV x1 (13 : Int32)))]))
  obtain ⟨_, _, ⟨T7, L7, k7, n7⟩, -, X7, ⟨Lc7, hQ7, l7, y7, z7⟩, st7⟩ := Jvm.LawKit.callS X4 hx (y := (⟨"com/example/kontraktor/kontraktor/cli/InputFileBeginsLineBreakPinLaw", "one", "(Z)I"⟩ : MethodName)) hown (mvT hZ (hw _ (List.mem_of_getElem? (i := 5) rfl))) (mvT hZ (hw _ (List.mem_of_getElem? (i := 6) rfl))) (mvT hZ (hw _ (List.mem_of_getElem? (i := 2) rfl))) (mvT hZ (hw _ (List.mem_of_getElem? (i := 7) rfl))) (by decide) (backOf (W := 0) (rm_one l Z a0 hw [] (eqV x1 (13 : Int32)) h0 n0 Z0 ) hZ (hw _ (List.mem_of_getElem? (i := 7) rfl)) (hw _ (List.mem_of_getElem? (i := 2) rfl)) (by decide) (by decide)) (g := (mkF m 36 #[.val (.int a), .val (.int b), .val (.int c_), .val (.int d), .val (.int p_), .val (.int x1), .val (.int x2), .val (.int x3), .unset, .unset, .unset, .unset, .unset, .unset, .unset, .unset, .unset, .unset, .unset, .unset] [(.int (eqV x1 (13 : Int32)))])) rfl (by rw [hml]; rfl) (argsL := [(.int (eqV x1 (13 : Int32)))]) (rest := []) (lenOf pd_1 rfl) rfl (by show 2 * 0 + _ ≤ _; exact Nat.le_of_eq rfl) (hb hby at_36) (fun _ _ => ⟨rfl, e4, (by decide : 0 + 0 ≤ _), (by decide : 0 + 0 ≤ _)⟩)
  dsimp only [Pt.U, Pt.locs, Pt.cells, Pt.slots] at X7 l7 y7 z7 st7 hQ7
  subst l7 y7 z7
  obtain ⟨rfl, Nq7, e7⟩ := hQ7
  have N7 := Fr.app N4 Nq7
  refine Gl.go (fun _ k => st7 _ k) ?_
  show Gl p.tables e below (QQof s (Q_law Z a b c_ d h0 n0) 0 0) (T7.setTop (mkF m 39 #[.val (.int a), .val (.int b), .val (.int c_), .val (.int d), .val (.int p_), .val (.int x1), .val (.int x2), .val (.int x3), .unset, .unset, .unset, .unset, .unset, .unset, .unset, .unset, .unset, .unset, .unset, .unset] [(.int (oneV (eqV x1 (13 : Int32))))]))
  generalize h_r1 : (oneV (eqV x1 (13 : Int32))) = r1
  show Gl p.tables e below (QQof s (Q_law Z a b c_ d h0 n0) 0 0) (T7.setTop (mkF m 39 #[.val (.int a), .val (.int b), .val (.int c_), .val (.int d), .val (.int p_), .val (.int x1), .val (.int x2), .val (.int x3), .unset, .unset, .unset, .unset, .unset, .unset, .unset, .unset, .unset, .unset, .unset, .unset] [(.int r1)]))
  refine Gl.go (fun _ k => XS.istore X7.here hx rfl (hb hby at_39) rfl (l' := #[.val (.int a), .val (.int b), .val (.int c_), .val (.int d), .val (.int p_), .val (.int x1), .val (.int x2), .val (.int x3), .val (.int r1), .unset, .unset, .unset, .unset, .unset, .unset, .unset, .unset, .unset, .unset, .unset]) rfl k) ?_
  show Gl p.tables e below (QQof s (Q_law Z a b c_ d h0 n0) 0 0) (T7.setTop (mkF m 41 #[.val (.int a), .val (.int b), .val (.int c_), .val (.int d), .val (.int p_), .val (.int x1), .val (.int x2), .val (.int x3), .val (.int r1), .unset, .unset, .unset, .unset, .unset, .unset, .unset, .unset, .unset, .unset, .unset] []))
  refine Gl.go (fun _ k => XS.iload X7.here hx rfl (hb hby at_41) rfl  k) ?_
  show Gl p.tables e below (QQof s (Q_law Z a b c_ d h0 n0) 0 0) (T7.setTop (mkF m 43 #[.val (.int a), .val (.int b), .val (.int c_), .val (.int d), .val (.int p_), .val (.int x1), .val (.int x2), .val (.int x3), .val (.int r1), .unset, .unset, .unset, .unset, .unset, .unset, .unset, .unset, .unset, .unset, .unset] [(.int r1)]))
  refine Gl.go (fun _ k => XS.iload X7.here hx rfl (hb hby at_43) rfl  k) ?_
  show Gl p.tables e below (QQof s (Q_law Z a b c_ d h0 n0) 0 0) (T7.setTop (mkF m 45 #[.val (.int a), .val (.int b), .val (.int c_), .val (.int d), .val (.int p_), .val (.int x1), .val (.int x2), .val (.int x3), .val (.int r1), .unset, .unset, .unset, .unset, .unset, .unset, .unset, .unset, .unset, .unset, .unset] [(.int x2), (.int r1)]))
  refine Gl.go (fun _ k => XS.bipush X7.here hx rfl (hb hby at_45) k) ?_
  show Gl p.tables e below (QQof s (Q_law Z a b c_ d h0 n0) 0 0) (T7.setTop (mkF m 47 #[.val (.int a), .val (.int b), .val (.int c_), .val (.int d), .val (.int p_), .val (.int x1), .val (.int x2), .val (.int x3), .val (.int r1), .unset, .unset, .unset, .unset, .unset, .unset, .unset, .unset, .unset, .unset, .unset] [(.int (13 : Int32)), (.int x2), (.int r1)]))
  have D47_8 : ∀ t, Steps p.tables e below (T7.setTop (mkF m 55 #[.val (.int a), .val (.int b), .val (.int c_), .val (.int d), .val (.int p_), .val (.int x1), .val (.int x2), .val (.int x3), .val (.int r1), .unset, .unset, .unset, .unset, .unset, .unset, .unset, .unset, .unset, .unset, .unset] [(.int (if x2 = (13 : Int32) then (1 : Int32) else (0 : Int32))), (.int r1)])) t → Steps p.tables e below (T7.setTop (mkF m 47 #[.val (.int a), .val (.int b), .val (.int c_), .val (.int d), .val (.int p_), .val (.int x1), .val (.int x2), .val (.int x3), .val (.int r1), .unset, .unset, .unset, .unset, .unset, .unset, .unset, .unset, .unset, .unset, .unset] [(.int (13 : Int32)), (.int x2), (.int r1)])) t := by
    intro t k
    show Steps p.tables e below (T7.setTop (mkF m 47 #[.val (.int a), .val (.int b), .val (.int c_), .val (.int d), .val (.int p_), .val (.int x1), .val (.int x2), .val (.int x3), .val (.int r1), .unset, .unset, .unset, .unset, .unset, .unset, .unset, .unset, .unset, .unset, .unset] [(.int (13 : Int32)), (.int x2), (.int r1)])) _
    by_cases hd47_9 : x2 = (13 : Int32)
    · skip
      refine XS.icmpNo X7.here hx rfl (hb hby at_47) rfl (teq hd47_9).2 ?_
      show Steps p.tables e below (T7.setTop (mkF m 50 #[.val (.int a), .val (.int b), .val (.int c_), .val (.int d), .val (.int p_), .val (.int x1), .val (.int x2), .val (.int x3), .val (.int r1), .unset, .unset, .unset, .unset, .unset, .unset, .unset, .unset, .unset, .unset, .unset] [(.int r1)])) _
      refine XS.iconst X7.here hx rfl (hb hby at_50) ?_
      show Steps p.tables e below (T7.setTop (mkF m 51 #[.val (.int a), .val (.int b), .val (.int c_), .val (.int d), .val (.int p_), .val (.int x1), .val (.int x2), .val (.int x3), .val (.int r1), .unset, .unset, .unset, .unset, .unset, .unset, .unset, .unset, .unset, .unset, .unset] [(.int (1 : Int32)), (.int r1)])) _
      refine XS.goto X7.here hx rfl (pc0 := 51) (pc' := 55) rfl (hb hby at_51) (by decide) (by decide) ?_
      show Steps p.tables e below (T7.setTop (mkF m 55 #[.val (.int a), .val (.int b), .val (.int c_), .val (.int d), .val (.int p_), .val (.int x1), .val (.int x2), .val (.int x3), .val (.int r1), .unset, .unset, .unset, .unset, .unset, .unset, .unset, .unset, .unset, .unset, .unset] [(.int (1 : Int32)), (.int r1)])) _
      simp only [if_pos hd47_9] at k
      exact k
    · skip
      refine XS.icmpYes X7.here hx rfl (pc0 := 47) (pc' := 54) rfl (hb hby at_47) rfl (feq hd47_9).2 (by decide) (by decide) ?_
      show Steps p.tables e below (T7.setTop (mkF m 54 #[.val (.int a), .val (.int b), .val (.int c_), .val (.int d), .val (.int p_), .val (.int x1), .val (.int x2), .val (.int x3), .val (.int r1), .unset, .unset, .unset, .unset, .unset, .unset, .unset, .unset, .unset, .unset, .unset] [(.int r1)])) _
      refine XS.iconst X7.here hx rfl (hb hby at_54) ?_
      show Steps p.tables e below (T7.setTop (mkF m 55 #[.val (.int a), .val (.int b), .val (.int c_), .val (.int d), .val (.int p_), .val (.int x1), .val (.int x2), .val (.int x3), .val (.int r1), .unset, .unset, .unset, .unset, .unset, .unset, .unset, .unset, .unset, .unset, .unset] [(.int (0 : Int32)), (.int r1)])) _
      simp only [if_neg hd47_9] at k
      exact k
  refine Gl.go (fun _ k => D47_8 _ k) ?_
  show Gl p.tables e below (QQof s (Q_law Z a b c_ d h0 n0) 0 0) (T7.setTop (mkF m 55 #[.val (.int a), .val (.int b), .val (.int c_), .val (.int d), .val (.int p_), .val (.int x1), .val (.int x2), .val (.int x3), .val (.int r1), .unset, .unset, .unset, .unset, .unset, .unset, .unset, .unset, .unset, .unset, .unset] [(.int (if x2 = (13 : Int32) then (1 : Int32) else (0 : Int32))), (.int r1)]))
  show Gl p.tables e below (QQof s (Q_law Z a b c_ d h0 n0) 0 0) (T7.setTop (mkF m 55 #[.val (.int a), .val (.int b), .val (.int c_), .val (.int d), .val (.int p_), .val (.int x1), .val (.int x2), .val (.int x3), .val (.int r1), .unset, .unset, .unset, .unset, .unset, .unset, .unset, .unset, .unset, .unset, .unset] [(.int (eqV x2 (13 : Int32))), (.int r1)]))
  obtain ⟨_, _, ⟨T10, L10, k10, n10⟩, -, X10, ⟨Lc10, hQ10, l10, y10, z10⟩, st10⟩ := Jvm.LawKit.callS X7 hx (y := (⟨"com/example/kontraktor/kontraktor/cli/InputFileBeginsLineBreakPinLaw", "one", "(Z)I"⟩ : MethodName)) hown (mvT hZ (hw _ (List.mem_of_getElem? (i := 5) rfl))) (mvT hZ (hw _ (List.mem_of_getElem? (i := 6) rfl))) (mvT hZ (hw _ (List.mem_of_getElem? (i := 2) rfl))) (mvT hZ (hw _ (List.mem_of_getElem? (i := 7) rfl))) (by decide) (backOf (W := 1) (rm_one l Z a0 hw [] (eqV x2 (13 : Int32)) h0 n0 Z0 ) hZ (hw _ (List.mem_of_getElem? (i := 7) rfl)) (hw _ (List.mem_of_getElem? (i := 2) rfl)) (by decide) (by decide)) (g := (mkF m 55 #[.val (.int a), .val (.int b), .val (.int c_), .val (.int d), .val (.int p_), .val (.int x1), .val (.int x2), .val (.int x3), .val (.int r1), .unset, .unset, .unset, .unset, .unset, .unset, .unset, .unset, .unset, .unset, .unset] [(.int (eqV x2 (13 : Int32))), (.int r1)])) rfl (by rw [hml]; rfl) (argsL := [(.int (eqV x2 (13 : Int32)))]) (rest := [(.int r1)]) (lenOf pd_1 rfl) rfl (by show 2 * 0 + _ ≤ _; exact Nat.le_of_eq rfl) (hb hby at_55) (fun _ _ => ⟨rfl, e7, (by decide : 0 + 0 ≤ _), (by decide : 0 + 0 ≤ _)⟩)
  dsimp only [Pt.U, Pt.locs, Pt.cells, Pt.slots] at X10 l10 y10 z10 st10 hQ10
  subst l10 y10 z10
  obtain ⟨rfl, Nq10, e10⟩ := hQ10
  have N10 := Fr.app N7 Nq10
  refine Gl.go (fun _ k => st10 _ k) ?_
  show Gl p.tables e below (QQof s (Q_law Z a b c_ d h0 n0) 0 0) (T10.setTop (mkF m 58 #[.val (.int a), .val (.int b), .val (.int c_), .val (.int d), .val (.int p_), .val (.int x1), .val (.int x2), .val (.int x3), .val (.int r1), .unset, .unset, .unset, .unset, .unset, .unset, .unset, .unset, .unset, .unset, .unset] [(.int (oneV (eqV x2 (13 : Int32)))), (.int r1)]))
  generalize h_r2 : (oneV (eqV x2 (13 : Int32))) = r2
  show Gl p.tables e below (QQof s (Q_law Z a b c_ d h0 n0) 0 0) (T10.setTop (mkF m 58 #[.val (.int a), .val (.int b), .val (.int c_), .val (.int d), .val (.int p_), .val (.int x1), .val (.int x2), .val (.int x3), .val (.int r1), .unset, .unset, .unset, .unset, .unset, .unset, .unset, .unset, .unset, .unset, .unset] [(.int r2), (.int r1)]))
  refine Gl.go (fun _ k => XS.iadd X10.here hx rfl (hb hby at_58) rfl k) ?_
  show Gl p.tables e below (QQof s (Q_law Z a b c_ d h0 n0) 0 0) (T10.setTop (mkF m 59 #[.val (.int a), .val (.int b), .val (.int c_), .val (.int d), .val (.int p_), .val (.int x1), .val (.int x2), .val (.int x3), .val (.int r1), .unset, .unset, .unset, .unset, .unset, .unset, .unset, .unset, .unset, .unset, .unset] [(.int (r1 + r2))]))
  refine Gl.go (fun _ k => XS.istore X10.here hx rfl (hb hby at_59) rfl (l' := #[.val (.int a), .val (.int b), .val (.int c_), .val (.int d), .val (.int p_), .val (.int x1), .val (.int x2), .val (.int x3), .val (.int r1), .val (.int (r1 + r2)), .unset, .unset, .unset, .unset, .unset, .unset, .unset, .unset, .unset, .unset]) rfl k) ?_
  show Gl p.tables e below (QQof s (Q_law Z a b c_ d h0 n0) 0 0) (T10.setTop (mkF m 61 #[.val (.int a), .val (.int b), .val (.int c_), .val (.int d), .val (.int p_), .val (.int x1), .val (.int x2), .val (.int x3), .val (.int r1), .val (.int (r1 + r2)), .unset, .unset, .unset, .unset, .unset, .unset, .unset, .unset, .unset, .unset] []))
  refine Gl.go (fun _ k => XS.iload X10.here hx rfl (hb hby at_61) rfl  k) ?_
  show Gl p.tables e below (QQof s (Q_law Z a b c_ d h0 n0) 0 0) (T10.setTop (mkF m 63 #[.val (.int a), .val (.int b), .val (.int c_), .val (.int d), .val (.int p_), .val (.int x1), .val (.int x2), .val (.int x3), .val (.int r1), .val (.int (r1 + r2)), .unset, .unset, .unset, .unset, .unset, .unset, .unset, .unset, .unset, .unset] [(.int (r1 + r2))]))
  refine Gl.go (fun _ k => XS.iload X10.here hx rfl (hb hby at_63) rfl  k) ?_
  show Gl p.tables e below (QQof s (Q_law Z a b c_ d h0 n0) 0 0) (T10.setTop (mkF m 65 #[.val (.int a), .val (.int b), .val (.int c_), .val (.int d), .val (.int p_), .val (.int x1), .val (.int x2), .val (.int x3), .val (.int r1), .val (.int (r1 + r2)), .unset, .unset, .unset, .unset, .unset, .unset, .unset, .unset, .unset, .unset] [(.int x3), (.int (r1 + r2))]))
  refine Gl.go (fun _ k => XS.bipush X10.here hx rfl (hb hby at_65) k) ?_
  show Gl p.tables e below (QQof s (Q_law Z a b c_ d h0 n0) 0 0) (T10.setTop (mkF m 67 #[.val (.int a), .val (.int b), .val (.int c_), .val (.int d), .val (.int p_), .val (.int x1), .val (.int x2), .val (.int x3), .val (.int r1), .val (.int (r1 + r2)), .unset, .unset, .unset, .unset, .unset, .unset, .unset, .unset, .unset, .unset] [(.int (13 : Int32)), (.int x3), (.int (r1 + r2))]))
  have D67_11 : ∀ t, Steps p.tables e below (T10.setTop (mkF m 75 #[.val (.int a), .val (.int b), .val (.int c_), .val (.int d), .val (.int p_), .val (.int x1), .val (.int x2), .val (.int x3), .val (.int r1), .val (.int (r1 + r2)), .unset, .unset, .unset, .unset, .unset, .unset, .unset, .unset, .unset, .unset] [(.int (if x3 = (13 : Int32) then (1 : Int32) else (0 : Int32))), (.int (r1 + r2))])) t → Steps p.tables e below (T10.setTop (mkF m 67 #[.val (.int a), .val (.int b), .val (.int c_), .val (.int d), .val (.int p_), .val (.int x1), .val (.int x2), .val (.int x3), .val (.int r1), .val (.int (r1 + r2)), .unset, .unset, .unset, .unset, .unset, .unset, .unset, .unset, .unset, .unset] [(.int (13 : Int32)), (.int x3), (.int (r1 + r2))])) t := by
    intro t k
    show Steps p.tables e below (T10.setTop (mkF m 67 #[.val (.int a), .val (.int b), .val (.int c_), .val (.int d), .val (.int p_), .val (.int x1), .val (.int x2), .val (.int x3), .val (.int r1), .val (.int (r1 + r2)), .unset, .unset, .unset, .unset, .unset, .unset, .unset, .unset, .unset, .unset] [(.int (13 : Int32)), (.int x3), (.int (r1 + r2))])) _
    by_cases hd67_12 : x3 = (13 : Int32)
    · skip
      refine XS.icmpNo X10.here hx rfl (hb hby at_67) rfl (teq hd67_12).2 ?_
      show Steps p.tables e below (T10.setTop (mkF m 70 #[.val (.int a), .val (.int b), .val (.int c_), .val (.int d), .val (.int p_), .val (.int x1), .val (.int x2), .val (.int x3), .val (.int r1), .val (.int (r1 + r2)), .unset, .unset, .unset, .unset, .unset, .unset, .unset, .unset, .unset, .unset] [(.int (r1 + r2))])) _
      refine XS.iconst X10.here hx rfl (hb hby at_70) ?_
      show Steps p.tables e below (T10.setTop (mkF m 71 #[.val (.int a), .val (.int b), .val (.int c_), .val (.int d), .val (.int p_), .val (.int x1), .val (.int x2), .val (.int x3), .val (.int r1), .val (.int (r1 + r2)), .unset, .unset, .unset, .unset, .unset, .unset, .unset, .unset, .unset, .unset] [(.int (1 : Int32)), (.int (r1 + r2))])) _
      refine XS.goto X10.here hx rfl (pc0 := 71) (pc' := 75) rfl (hb hby at_71) (by decide) (by decide) ?_
      show Steps p.tables e below (T10.setTop (mkF m 75 #[.val (.int a), .val (.int b), .val (.int c_), .val (.int d), .val (.int p_), .val (.int x1), .val (.int x2), .val (.int x3), .val (.int r1), .val (.int (r1 + r2)), .unset, .unset, .unset, .unset, .unset, .unset, .unset, .unset, .unset, .unset] [(.int (1 : Int32)), (.int (r1 + r2))])) _
      simp only [if_pos hd67_12] at k
      exact k
    · skip
      refine XS.icmpYes X10.here hx rfl (pc0 := 67) (pc' := 74) rfl (hb hby at_67) rfl (feq hd67_12).2 (by decide) (by decide) ?_
      show Steps p.tables e below (T10.setTop (mkF m 74 #[.val (.int a), .val (.int b), .val (.int c_), .val (.int d), .val (.int p_), .val (.int x1), .val (.int x2), .val (.int x3), .val (.int r1), .val (.int (r1 + r2)), .unset, .unset, .unset, .unset, .unset, .unset, .unset, .unset, .unset, .unset] [(.int (r1 + r2))])) _
      refine XS.iconst X10.here hx rfl (hb hby at_74) ?_
      show Steps p.tables e below (T10.setTop (mkF m 75 #[.val (.int a), .val (.int b), .val (.int c_), .val (.int d), .val (.int p_), .val (.int x1), .val (.int x2), .val (.int x3), .val (.int r1), .val (.int (r1 + r2)), .unset, .unset, .unset, .unset, .unset, .unset, .unset, .unset, .unset, .unset] [(.int (0 : Int32)), (.int (r1 + r2))])) _
      simp only [if_neg hd67_12] at k
      exact k
  refine Gl.go (fun _ k => D67_11 _ k) ?_
  show Gl p.tables e below (QQof s (Q_law Z a b c_ d h0 n0) 0 0) (T10.setTop (mkF m 75 #[.val (.int a), .val (.int b), .val (.int c_), .val (.int d), .val (.int p_), .val (.int x1), .val (.int x2), .val (.int x3), .val (.int r1), .val (.int (r1 + r2)), .unset, .unset, .unset, .unset, .unset, .unset, .unset, .unset, .unset, .unset] [(.int (if x3 = (13 : Int32) then (1 : Int32) else (0 : Int32))), (.int (r1 + r2))]))
  show Gl p.tables e below (QQof s (Q_law Z a b c_ d h0 n0) 0 0) (T10.setTop (mkF m 75 #[.val (.int a), .val (.int b), .val (.int c_), .val (.int d), .val (.int p_), .val (.int x1), .val (.int x2), .val (.int x3), .val (.int r1), .val (.int (r1 + r2)), .unset, .unset, .unset, .unset, .unset, .unset, .unset, .unset, .unset, .unset] [(.int (eqV x3 (13 : Int32))), (.int (r1 + r2))]))
  obtain ⟨_, _, ⟨T13, L13, k13, n13⟩, -, X13, ⟨Lc13, hQ13, l13, y13, z13⟩, st13⟩ := Jvm.LawKit.callS X10 hx (y := (⟨"com/example/kontraktor/kontraktor/cli/InputFileBeginsLineBreakPinLaw", "one", "(Z)I"⟩ : MethodName)) hown (mvT hZ (hw _ (List.mem_of_getElem? (i := 5) rfl))) (mvT hZ (hw _ (List.mem_of_getElem? (i := 6) rfl))) (mvT hZ (hw _ (List.mem_of_getElem? (i := 2) rfl))) (mvT hZ (hw _ (List.mem_of_getElem? (i := 7) rfl))) (by decide) (backOf (W := 1) (rm_one l Z a0 hw [] (eqV x3 (13 : Int32)) h0 n0 Z0 ) hZ (hw _ (List.mem_of_getElem? (i := 7) rfl)) (hw _ (List.mem_of_getElem? (i := 2) rfl)) (by decide) (by decide)) (g := (mkF m 75 #[.val (.int a), .val (.int b), .val (.int c_), .val (.int d), .val (.int p_), .val (.int x1), .val (.int x2), .val (.int x3), .val (.int r1), .val (.int (r1 + r2)), .unset, .unset, .unset, .unset, .unset, .unset, .unset, .unset, .unset, .unset] [(.int (eqV x3 (13 : Int32))), (.int (r1 + r2))])) rfl (by rw [hml]; rfl) (argsL := [(.int (eqV x3 (13 : Int32)))]) (rest := [(.int (r1 + r2))]) (lenOf pd_1 rfl) rfl (by show 2 * 0 + _ ≤ _; exact Nat.le_of_eq rfl) (hb hby at_75) (fun _ _ => ⟨rfl, e10, (by decide : 0 + 0 ≤ _), (by decide : 0 + 0 ≤ _)⟩)
  dsimp only [Pt.U, Pt.locs, Pt.cells, Pt.slots] at X13 l13 y13 z13 st13 hQ13
  subst l13 y13 z13
  obtain ⟨rfl, Nq13, e13⟩ := hQ13
  have N13 := Fr.app N10 Nq13
  refine Gl.go (fun _ k => st13 _ k) ?_
  show Gl p.tables e below (QQof s (Q_law Z a b c_ d h0 n0) 0 0) (T13.setTop (mkF m 78 #[.val (.int a), .val (.int b), .val (.int c_), .val (.int d), .val (.int p_), .val (.int x1), .val (.int x2), .val (.int x3), .val (.int r1), .val (.int (r1 + r2)), .unset, .unset, .unset, .unset, .unset, .unset, .unset, .unset, .unset, .unset] [(.int (oneV (eqV x3 (13 : Int32)))), (.int (r1 + r2))]))
  generalize h_r3 : (oneV (eqV x3 (13 : Int32))) = r3
  show Gl p.tables e below (QQof s (Q_law Z a b c_ d h0 n0) 0 0) (T13.setTop (mkF m 78 #[.val (.int a), .val (.int b), .val (.int c_), .val (.int d), .val (.int p_), .val (.int x1), .val (.int x2), .val (.int x3), .val (.int r1), .val (.int (r1 + r2)), .unset, .unset, .unset, .unset, .unset, .unset, .unset, .unset, .unset, .unset] [(.int r3), (.int (r1 + r2))]))
  refine Gl.go (fun _ k => XS.iadd X13.here hx rfl (hb hby at_78) rfl k) ?_
  show Gl p.tables e below (QQof s (Q_law Z a b c_ d h0 n0) 0 0) (T13.setTop (mkF m 79 #[.val (.int a), .val (.int b), .val (.int c_), .val (.int d), .val (.int p_), .val (.int x1), .val (.int x2), .val (.int x3), .val (.int r1), .val (.int (r1 + r2)), .unset, .unset, .unset, .unset, .unset, .unset, .unset, .unset, .unset, .unset] [(.int ((r1 + r2) + r3))]))
  refine Gl.go (fun _ k => XS.istore X13.here hx rfl (hb hby at_79) rfl (l' := #[.val (.int a), .val (.int b), .val (.int c_), .val (.int d), .val (.int p_), .val (.int x1), .val (.int x2), .val (.int x3), .val (.int r1), .val (.int (r1 + r2)), .val (.int ((r1 + r2) + r3)), .unset, .unset, .unset, .unset, .unset, .unset, .unset, .unset, .unset]) rfl k) ?_
  show Gl p.tables e below (QQof s (Q_law Z a b c_ d h0 n0) 0 0) (T13.setTop (mkF m 81 #[.val (.int a), .val (.int b), .val (.int c_), .val (.int d), .val (.int p_), .val (.int x1), .val (.int x2), .val (.int x3), .val (.int r1), .val (.int (r1 + r2)), .val (.int ((r1 + r2) + r3)), .unset, .unset, .unset, .unset, .unset, .unset, .unset, .unset, .unset] []))
  refine Gl.go (fun _ k => XS.iload X13.here hx rfl (hb hby at_81) rfl  k) ?_
  show Gl p.tables e below (QQof s (Q_law Z a b c_ d h0 n0) 0 0) (T13.setTop (mkF m 83 #[.val (.int a), .val (.int b), .val (.int c_), .val (.int d), .val (.int p_), .val (.int x1), .val (.int x2), .val (.int x3), .val (.int r1), .val (.int (r1 + r2)), .val (.int ((r1 + r2) + r3)), .unset, .unset, .unset, .unset, .unset, .unset, .unset, .unset, .unset] [(.int x1)]))
  refine Gl.go (fun _ k => XS.bipush X13.here hx rfl (hb hby at_83) k) ?_
  show Gl p.tables e below (QQof s (Q_law Z a b c_ d h0 n0) 0 0) (T13.setTop (mkF m 85 #[.val (.int a), .val (.int b), .val (.int c_), .val (.int d), .val (.int p_), .val (.int x1), .val (.int x2), .val (.int x3), .val (.int r1), .val (.int (r1 + r2)), .val (.int ((r1 + r2) + r3)), .unset, .unset, .unset, .unset, .unset, .unset, .unset, .unset, .unset] [(.int (10 : Int32)), (.int x1)]))
  have D85_14 : ∀ t, Steps p.tables e below (T13.setTop (mkF m 93 #[.val (.int a), .val (.int b), .val (.int c_), .val (.int d), .val (.int p_), .val (.int x1), .val (.int x2), .val (.int x3), .val (.int r1), .val (.int (r1 + r2)), .val (.int ((r1 + r2) + r3)), .unset, .unset, .unset, .unset, .unset, .unset, .unset, .unset, .unset] [(.int (if x1 = (10 : Int32) then (1 : Int32) else (0 : Int32)))])) t → Steps p.tables e below (T13.setTop (mkF m 85 #[.val (.int a), .val (.int b), .val (.int c_), .val (.int d), .val (.int p_), .val (.int x1), .val (.int x2), .val (.int x3), .val (.int r1), .val (.int (r1 + r2)), .val (.int ((r1 + r2) + r3)), .unset, .unset, .unset, .unset, .unset, .unset, .unset, .unset, .unset] [(.int (10 : Int32)), (.int x1)])) t := by
    intro t k
    show Steps p.tables e below (T13.setTop (mkF m 85 #[.val (.int a), .val (.int b), .val (.int c_), .val (.int d), .val (.int p_), .val (.int x1), .val (.int x2), .val (.int x3), .val (.int r1), .val (.int (r1 + r2)), .val (.int ((r1 + r2) + r3)), .unset, .unset, .unset, .unset, .unset, .unset, .unset, .unset, .unset] [(.int (10 : Int32)), (.int x1)])) _
    by_cases hd85_15 : x1 = (10 : Int32)
    · skip
      refine XS.icmpNo X13.here hx rfl (hb hby at_85) rfl (teq hd85_15).2 ?_
      show Steps p.tables e below (T13.setTop (mkF m 88 #[.val (.int a), .val (.int b), .val (.int c_), .val (.int d), .val (.int p_), .val (.int x1), .val (.int x2), .val (.int x3), .val (.int r1), .val (.int (r1 + r2)), .val (.int ((r1 + r2) + r3)), .unset, .unset, .unset, .unset, .unset, .unset, .unset, .unset, .unset] [])) _
      refine XS.iconst X13.here hx rfl (hb hby at_88) ?_
      show Steps p.tables e below (T13.setTop (mkF m 89 #[.val (.int a), .val (.int b), .val (.int c_), .val (.int d), .val (.int p_), .val (.int x1), .val (.int x2), .val (.int x3), .val (.int r1), .val (.int (r1 + r2)), .val (.int ((r1 + r2) + r3)), .unset, .unset, .unset, .unset, .unset, .unset, .unset, .unset, .unset] [(.int (1 : Int32))])) _
      refine XS.goto X13.here hx rfl (pc0 := 89) (pc' := 93) rfl (hb hby at_89) (by decide) (by decide) ?_
      show Steps p.tables e below (T13.setTop (mkF m 93 #[.val (.int a), .val (.int b), .val (.int c_), .val (.int d), .val (.int p_), .val (.int x1), .val (.int x2), .val (.int x3), .val (.int r1), .val (.int (r1 + r2)), .val (.int ((r1 + r2) + r3)), .unset, .unset, .unset, .unset, .unset, .unset, .unset, .unset, .unset] [(.int (1 : Int32))])) _
      simp only [if_pos hd85_15] at k
      exact k
    · skip
      refine XS.icmpYes X13.here hx rfl (pc0 := 85) (pc' := 92) rfl (hb hby at_85) rfl (feq hd85_15).2 (by decide) (by decide) ?_
      show Steps p.tables e below (T13.setTop (mkF m 92 #[.val (.int a), .val (.int b), .val (.int c_), .val (.int d), .val (.int p_), .val (.int x1), .val (.int x2), .val (.int x3), .val (.int r1), .val (.int (r1 + r2)), .val (.int ((r1 + r2) + r3)), .unset, .unset, .unset, .unset, .unset, .unset, .unset, .unset, .unset] [])) _
      refine XS.iconst X13.here hx rfl (hb hby at_92) ?_
      show Steps p.tables e below (T13.setTop (mkF m 93 #[.val (.int a), .val (.int b), .val (.int c_), .val (.int d), .val (.int p_), .val (.int x1), .val (.int x2), .val (.int x3), .val (.int r1), .val (.int (r1 + r2)), .val (.int ((r1 + r2) + r3)), .unset, .unset, .unset, .unset, .unset, .unset, .unset, .unset, .unset] [(.int (0 : Int32))])) _
      simp only [if_neg hd85_15] at k
      exact k
  refine Gl.go (fun _ k => D85_14 _ k) ?_
  show Gl p.tables e below (QQof s (Q_law Z a b c_ d h0 n0) 0 0) (T13.setTop (mkF m 93 #[.val (.int a), .val (.int b), .val (.int c_), .val (.int d), .val (.int p_), .val (.int x1), .val (.int x2), .val (.int x3), .val (.int r1), .val (.int (r1 + r2)), .val (.int ((r1 + r2) + r3)), .unset, .unset, .unset, .unset, .unset, .unset, .unset, .unset, .unset] [(.int (if x1 = (10 : Int32) then (1 : Int32) else (0 : Int32)))]))
  show Gl p.tables e below (QQof s (Q_law Z a b c_ d h0 n0) 0 0) (T13.setTop (mkF m 93 #[.val (.int a), .val (.int b), .val (.int c_), .val (.int d), .val (.int p_), .val (.int x1), .val (.int x2), .val (.int x3), .val (.int r1), .val (.int (r1 + r2)), .val (.int ((r1 + r2) + r3)), .unset, .unset, .unset, .unset, .unset, .unset, .unset, .unset, .unset] [(.int (eqV x1 (10 : Int32)))]))
  obtain ⟨_, _, ⟨T16, L16, k16, n16⟩, -, X16, ⟨Lc16, hQ16, l16, y16, z16⟩, st16⟩ := Jvm.LawKit.callS X13 hx (y := (⟨"com/example/kontraktor/kontraktor/cli/InputFileBeginsLineBreakPinLaw", "one", "(Z)I"⟩ : MethodName)) hown (mvT hZ (hw _ (List.mem_of_getElem? (i := 5) rfl))) (mvT hZ (hw _ (List.mem_of_getElem? (i := 6) rfl))) (mvT hZ (hw _ (List.mem_of_getElem? (i := 2) rfl))) (mvT hZ (hw _ (List.mem_of_getElem? (i := 7) rfl))) (by decide) (backOf (W := 0) (rm_one l Z a0 hw [] (eqV x1 (10 : Int32)) h0 n0 Z0 ) hZ (hw _ (List.mem_of_getElem? (i := 7) rfl)) (hw _ (List.mem_of_getElem? (i := 2) rfl)) (by decide) (by decide)) (g := (mkF m 93 #[.val (.int a), .val (.int b), .val (.int c_), .val (.int d), .val (.int p_), .val (.int x1), .val (.int x2), .val (.int x3), .val (.int r1), .val (.int (r1 + r2)), .val (.int ((r1 + r2) + r3)), .unset, .unset, .unset, .unset, .unset, .unset, .unset, .unset, .unset] [(.int (eqV x1 (10 : Int32)))])) rfl (by rw [hml]; rfl) (argsL := [(.int (eqV x1 (10 : Int32)))]) (rest := []) (lenOf pd_1 rfl) rfl (by show 2 * 0 + _ ≤ _; exact Nat.le_of_eq rfl) (hb hby at_93) (fun _ _ => ⟨rfl, e13, (by decide : 0 + 0 ≤ _), (by decide : 0 + 0 ≤ _)⟩)
  dsimp only [Pt.U, Pt.locs, Pt.cells, Pt.slots] at X16 l16 y16 z16 st16 hQ16
  subst l16 y16 z16
  obtain ⟨rfl, Nq16, e16⟩ := hQ16
  have N16 := Fr.app N13 Nq16
  refine Gl.go (fun _ k => st16 _ k) ?_
  show Gl p.tables e below (QQof s (Q_law Z a b c_ d h0 n0) 0 0) (T16.setTop (mkF m 96 #[.val (.int a), .val (.int b), .val (.int c_), .val (.int d), .val (.int p_), .val (.int x1), .val (.int x2), .val (.int x3), .val (.int r1), .val (.int (r1 + r2)), .val (.int ((r1 + r2) + r3)), .unset, .unset, .unset, .unset, .unset, .unset, .unset, .unset, .unset] [(.int (oneV (eqV x1 (10 : Int32))))]))
  generalize h_f1 : (oneV (eqV x1 (10 : Int32))) = f1
  show Gl p.tables e below (QQof s (Q_law Z a b c_ d h0 n0) 0 0) (T16.setTop (mkF m 96 #[.val (.int a), .val (.int b), .val (.int c_), .val (.int d), .val (.int p_), .val (.int x1), .val (.int x2), .val (.int x3), .val (.int r1), .val (.int (r1 + r2)), .val (.int ((r1 + r2) + r3)), .unset, .unset, .unset, .unset, .unset, .unset, .unset, .unset, .unset] [(.int f1)]))
  refine Gl.go (fun _ k => XS.istore X16.here hx rfl (hb hby at_96) rfl (l' := #[.val (.int a), .val (.int b), .val (.int c_), .val (.int d), .val (.int p_), .val (.int x1), .val (.int x2), .val (.int x3), .val (.int r1), .val (.int (r1 + r2)), .val (.int ((r1 + r2) + r3)), .val (.int f1), .unset, .unset, .unset, .unset, .unset, .unset, .unset, .unset]) rfl k) ?_
  show Gl p.tables e below (QQof s (Q_law Z a b c_ d h0 n0) 0 0) (T16.setTop (mkF m 98 #[.val (.int a), .val (.int b), .val (.int c_), .val (.int d), .val (.int p_), .val (.int x1), .val (.int x2), .val (.int x3), .val (.int r1), .val (.int (r1 + r2)), .val (.int ((r1 + r2) + r3)), .val (.int f1), .unset, .unset, .unset, .unset, .unset, .unset, .unset, .unset] []))
  refine Gl.go (fun _ k => XS.iload X16.here hx rfl (hb hby at_98) rfl  k) ?_
  show Gl p.tables e below (QQof s (Q_law Z a b c_ d h0 n0) 0 0) (T16.setTop (mkF m 100 #[.val (.int a), .val (.int b), .val (.int c_), .val (.int d), .val (.int p_), .val (.int x1), .val (.int x2), .val (.int x3), .val (.int r1), .val (.int (r1 + r2)), .val (.int ((r1 + r2) + r3)), .val (.int f1), .unset, .unset, .unset, .unset, .unset, .unset, .unset, .unset] [(.int f1)]))
  refine Gl.go (fun _ k => XS.iload X16.here hx rfl (hb hby at_100) rfl  k) ?_
  show Gl p.tables e below (QQof s (Q_law Z a b c_ d h0 n0) 0 0) (T16.setTop (mkF m 102 #[.val (.int a), .val (.int b), .val (.int c_), .val (.int d), .val (.int p_), .val (.int x1), .val (.int x2), .val (.int x3), .val (.int r1), .val (.int (r1 + r2)), .val (.int ((r1 + r2) + r3)), .val (.int f1), .unset, .unset, .unset, .unset, .unset, .unset, .unset, .unset] [(.int x2), (.int f1)]))
  refine Gl.go (fun _ k => XS.bipush X16.here hx rfl (hb hby at_102) k) ?_
  show Gl p.tables e below (QQof s (Q_law Z a b c_ d h0 n0) 0 0) (T16.setTop (mkF m 104 #[.val (.int a), .val (.int b), .val (.int c_), .val (.int d), .val (.int p_), .val (.int x1), .val (.int x2), .val (.int x3), .val (.int r1), .val (.int (r1 + r2)), .val (.int ((r1 + r2) + r3)), .val (.int f1), .unset, .unset, .unset, .unset, .unset, .unset, .unset, .unset] [(.int (10 : Int32)), (.int x2), (.int f1)]))
  have D104_17 : ∀ t, Steps p.tables e below (T16.setTop (mkF m 112 #[.val (.int a), .val (.int b), .val (.int c_), .val (.int d), .val (.int p_), .val (.int x1), .val (.int x2), .val (.int x3), .val (.int r1), .val (.int (r1 + r2)), .val (.int ((r1 + r2) + r3)), .val (.int f1), .unset, .unset, .unset, .unset, .unset, .unset, .unset, .unset] [(.int (if x2 = (10 : Int32) then (1 : Int32) else (0 : Int32))), (.int f1)])) t → Steps p.tables e below (T16.setTop (mkF m 104 #[.val (.int a), .val (.int b), .val (.int c_), .val (.int d), .val (.int p_), .val (.int x1), .val (.int x2), .val (.int x3), .val (.int r1), .val (.int (r1 + r2)), .val (.int ((r1 + r2) + r3)), .val (.int f1), .unset, .unset, .unset, .unset, .unset, .unset, .unset, .unset] [(.int (10 : Int32)), (.int x2), (.int f1)])) t := by
    intro t k
    show Steps p.tables e below (T16.setTop (mkF m 104 #[.val (.int a), .val (.int b), .val (.int c_), .val (.int d), .val (.int p_), .val (.int x1), .val (.int x2), .val (.int x3), .val (.int r1), .val (.int (r1 + r2)), .val (.int ((r1 + r2) + r3)), .val (.int f1), .unset, .unset, .unset, .unset, .unset, .unset, .unset, .unset] [(.int (10 : Int32)), (.int x2), (.int f1)])) _
    by_cases hd104_18 : x2 = (10 : Int32)
    · skip
      refine XS.icmpNo X16.here hx rfl (hb hby at_104) rfl (teq hd104_18).2 ?_
      show Steps p.tables e below (T16.setTop (mkF m 107 #[.val (.int a), .val (.int b), .val (.int c_), .val (.int d), .val (.int p_), .val (.int x1), .val (.int x2), .val (.int x3), .val (.int r1), .val (.int (r1 + r2)), .val (.int ((r1 + r2) + r3)), .val (.int f1), .unset, .unset, .unset, .unset, .unset, .unset, .unset, .unset] [(.int f1)])) _
      refine XS.iconst X16.here hx rfl (hb hby at_107) ?_
      show Steps p.tables e below (T16.setTop (mkF m 108 #[.val (.int a), .val (.int b), .val (.int c_), .val (.int d), .val (.int p_), .val (.int x1), .val (.int x2), .val (.int x3), .val (.int r1), .val (.int (r1 + r2)), .val (.int ((r1 + r2) + r3)), .val (.int f1), .unset, .unset, .unset, .unset, .unset, .unset, .unset, .unset] [(.int (1 : Int32)), (.int f1)])) _
      refine XS.goto X16.here hx rfl (pc0 := 108) (pc' := 112) rfl (hb hby at_108) (by decide) (by decide) ?_
      show Steps p.tables e below (T16.setTop (mkF m 112 #[.val (.int a), .val (.int b), .val (.int c_), .val (.int d), .val (.int p_), .val (.int x1), .val (.int x2), .val (.int x3), .val (.int r1), .val (.int (r1 + r2)), .val (.int ((r1 + r2) + r3)), .val (.int f1), .unset, .unset, .unset, .unset, .unset, .unset, .unset, .unset] [(.int (1 : Int32)), (.int f1)])) _
      simp only [if_pos hd104_18] at k
      exact k
    · skip
      refine XS.icmpYes X16.here hx rfl (pc0 := 104) (pc' := 111) rfl (hb hby at_104) rfl (feq hd104_18).2 (by decide) (by decide) ?_
      show Steps p.tables e below (T16.setTop (mkF m 111 #[.val (.int a), .val (.int b), .val (.int c_), .val (.int d), .val (.int p_), .val (.int x1), .val (.int x2), .val (.int x3), .val (.int r1), .val (.int (r1 + r2)), .val (.int ((r1 + r2) + r3)), .val (.int f1), .unset, .unset, .unset, .unset, .unset, .unset, .unset, .unset] [(.int f1)])) _
      refine XS.iconst X16.here hx rfl (hb hby at_111) ?_
      show Steps p.tables e below (T16.setTop (mkF m 112 #[.val (.int a), .val (.int b), .val (.int c_), .val (.int d), .val (.int p_), .val (.int x1), .val (.int x2), .val (.int x3), .val (.int r1), .val (.int (r1 + r2)), .val (.int ((r1 + r2) + r3)), .val (.int f1), .unset, .unset, .unset, .unset, .unset, .unset, .unset, .unset] [(.int (0 : Int32)), (.int f1)])) _
      simp only [if_neg hd104_18] at k
      exact k
  refine Gl.go (fun _ k => D104_17 _ k) ?_
  show Gl p.tables e below (QQof s (Q_law Z a b c_ d h0 n0) 0 0) (T16.setTop (mkF m 112 #[.val (.int a), .val (.int b), .val (.int c_), .val (.int d), .val (.int p_), .val (.int x1), .val (.int x2), .val (.int x3), .val (.int r1), .val (.int (r1 + r2)), .val (.int ((r1 + r2) + r3)), .val (.int f1), .unset, .unset, .unset, .unset, .unset, .unset, .unset, .unset] [(.int (if x2 = (10 : Int32) then (1 : Int32) else (0 : Int32))), (.int f1)]))
  show Gl p.tables e below (QQof s (Q_law Z a b c_ d h0 n0) 0 0) (T16.setTop (mkF m 112 #[.val (.int a), .val (.int b), .val (.int c_), .val (.int d), .val (.int p_), .val (.int x1), .val (.int x2), .val (.int x3), .val (.int r1), .val (.int (r1 + r2)), .val (.int ((r1 + r2) + r3)), .val (.int f1), .unset, .unset, .unset, .unset, .unset, .unset, .unset, .unset] [(.int (eqV x2 (10 : Int32))), (.int f1)]))
  obtain ⟨_, _, ⟨T19, L19, k19, n19⟩, -, X19, ⟨Lc19, hQ19, l19, y19, z19⟩, st19⟩ := Jvm.LawKit.callS X16 hx (y := (⟨"com/example/kontraktor/kontraktor/cli/InputFileBeginsLineBreakPinLaw", "one", "(Z)I"⟩ : MethodName)) hown (mvT hZ (hw _ (List.mem_of_getElem? (i := 5) rfl))) (mvT hZ (hw _ (List.mem_of_getElem? (i := 6) rfl))) (mvT hZ (hw _ (List.mem_of_getElem? (i := 2) rfl))) (mvT hZ (hw _ (List.mem_of_getElem? (i := 7) rfl))) (by decide) (backOf (W := 1) (rm_one l Z a0 hw [] (eqV x2 (10 : Int32)) h0 n0 Z0 ) hZ (hw _ (List.mem_of_getElem? (i := 7) rfl)) (hw _ (List.mem_of_getElem? (i := 2) rfl)) (by decide) (by decide)) (g := (mkF m 112 #[.val (.int a), .val (.int b), .val (.int c_), .val (.int d), .val (.int p_), .val (.int x1), .val (.int x2), .val (.int x3), .val (.int r1), .val (.int (r1 + r2)), .val (.int ((r1 + r2) + r3)), .val (.int f1), .unset, .unset, .unset, .unset, .unset, .unset, .unset, .unset] [(.int (eqV x2 (10 : Int32))), (.int f1)])) rfl (by rw [hml]; rfl) (argsL := [(.int (eqV x2 (10 : Int32)))]) (rest := [(.int f1)]) (lenOf pd_1 rfl) rfl (by show 2 * 0 + _ ≤ _; exact Nat.le_of_eq rfl) (hb hby at_112) (fun _ _ => ⟨rfl, e16, (by decide : 0 + 0 ≤ _), (by decide : 0 + 0 ≤ _)⟩)
  dsimp only [Pt.U, Pt.locs, Pt.cells, Pt.slots] at X19 l19 y19 z19 st19 hQ19
  subst l19 y19 z19
  obtain ⟨rfl, Nq19, e19⟩ := hQ19
  have N19 := Fr.app N16 Nq19
  refine Gl.go (fun _ k => st19 _ k) ?_
  show Gl p.tables e below (QQof s (Q_law Z a b c_ d h0 n0) 0 0) (T19.setTop (mkF m 115 #[.val (.int a), .val (.int b), .val (.int c_), .val (.int d), .val (.int p_), .val (.int x1), .val (.int x2), .val (.int x3), .val (.int r1), .val (.int (r1 + r2)), .val (.int ((r1 + r2) + r3)), .val (.int f1), .unset, .unset, .unset, .unset, .unset, .unset, .unset, .unset] [(.int (oneV (eqV x2 (10 : Int32)))), (.int f1)]))
  generalize h_f2 : (oneV (eqV x2 (10 : Int32))) = f2
  show Gl p.tables e below (QQof s (Q_law Z a b c_ d h0 n0) 0 0) (T19.setTop (mkF m 115 #[.val (.int a), .val (.int b), .val (.int c_), .val (.int d), .val (.int p_), .val (.int x1), .val (.int x2), .val (.int x3), .val (.int r1), .val (.int (r1 + r2)), .val (.int ((r1 + r2) + r3)), .val (.int f1), .unset, .unset, .unset, .unset, .unset, .unset, .unset, .unset] [(.int f2), (.int f1)]))
  refine Gl.go (fun _ k => XS.iadd X19.here hx rfl (hb hby at_115) rfl k) ?_
  show Gl p.tables e below (QQof s (Q_law Z a b c_ d h0 n0) 0 0) (T19.setTop (mkF m 116 #[.val (.int a), .val (.int b), .val (.int c_), .val (.int d), .val (.int p_), .val (.int x1), .val (.int x2), .val (.int x3), .val (.int r1), .val (.int (r1 + r2)), .val (.int ((r1 + r2) + r3)), .val (.int f1), .unset, .unset, .unset, .unset, .unset, .unset, .unset, .unset] [(.int (f1 + f2))]))
  refine Gl.go (fun _ k => XS.istore X19.here hx rfl (hb hby at_116) rfl (l' := #[.val (.int a), .val (.int b), .val (.int c_), .val (.int d), .val (.int p_), .val (.int x1), .val (.int x2), .val (.int x3), .val (.int r1), .val (.int (r1 + r2)), .val (.int ((r1 + r2) + r3)), .val (.int f1), .val (.int (f1 + f2)), .unset, .unset, .unset, .unset, .unset, .unset, .unset]) rfl k) ?_
  show Gl p.tables e below (QQof s (Q_law Z a b c_ d h0 n0) 0 0) (T19.setTop (mkF m 118 #[.val (.int a), .val (.int b), .val (.int c_), .val (.int d), .val (.int p_), .val (.int x1), .val (.int x2), .val (.int x3), .val (.int r1), .val (.int (r1 + r2)), .val (.int ((r1 + r2) + r3)), .val (.int f1), .val (.int (f1 + f2)), .unset, .unset, .unset, .unset, .unset, .unset, .unset] []))
  refine Gl.go (fun _ k => XS.iload X19.here hx rfl (hb hby at_118) rfl  k) ?_
  show Gl p.tables e below (QQof s (Q_law Z a b c_ d h0 n0) 0 0) (T19.setTop (mkF m 120 #[.val (.int a), .val (.int b), .val (.int c_), .val (.int d), .val (.int p_), .val (.int x1), .val (.int x2), .val (.int x3), .val (.int r1), .val (.int (r1 + r2)), .val (.int ((r1 + r2) + r3)), .val (.int f1), .val (.int (f1 + f2)), .unset, .unset, .unset, .unset, .unset, .unset, .unset] [(.int (f1 + f2))]))
  refine Gl.go (fun _ k => XS.iload X19.here hx rfl (hb hby at_120) rfl  k) ?_
  show Gl p.tables e below (QQof s (Q_law Z a b c_ d h0 n0) 0 0) (T19.setTop (mkF m 122 #[.val (.int a), .val (.int b), .val (.int c_), .val (.int d), .val (.int p_), .val (.int x1), .val (.int x2), .val (.int x3), .val (.int r1), .val (.int (r1 + r2)), .val (.int ((r1 + r2) + r3)), .val (.int f1), .val (.int (f1 + f2)), .unset, .unset, .unset, .unset, .unset, .unset, .unset] [(.int x3), (.int (f1 + f2))]))
  refine Gl.go (fun _ k => XS.bipush X19.here hx rfl (hb hby at_122) k) ?_
  show Gl p.tables e below (QQof s (Q_law Z a b c_ d h0 n0) 0 0) (T19.setTop (mkF m 124 #[.val (.int a), .val (.int b), .val (.int c_), .val (.int d), .val (.int p_), .val (.int x1), .val (.int x2), .val (.int x3), .val (.int r1), .val (.int (r1 + r2)), .val (.int ((r1 + r2) + r3)), .val (.int f1), .val (.int (f1 + f2)), .unset, .unset, .unset, .unset, .unset, .unset, .unset] [(.int (10 : Int32)), (.int x3), (.int (f1 + f2))]))
  have D124_20 : ∀ t, Steps p.tables e below (T19.setTop (mkF m 132 #[.val (.int a), .val (.int b), .val (.int c_), .val (.int d), .val (.int p_), .val (.int x1), .val (.int x2), .val (.int x3), .val (.int r1), .val (.int (r1 + r2)), .val (.int ((r1 + r2) + r3)), .val (.int f1), .val (.int (f1 + f2)), .unset, .unset, .unset, .unset, .unset, .unset, .unset] [(.int (if x3 = (10 : Int32) then (1 : Int32) else (0 : Int32))), (.int (f1 + f2))])) t → Steps p.tables e below (T19.setTop (mkF m 124 #[.val (.int a), .val (.int b), .val (.int c_), .val (.int d), .val (.int p_), .val (.int x1), .val (.int x2), .val (.int x3), .val (.int r1), .val (.int (r1 + r2)), .val (.int ((r1 + r2) + r3)), .val (.int f1), .val (.int (f1 + f2)), .unset, .unset, .unset, .unset, .unset, .unset, .unset] [(.int (10 : Int32)), (.int x3), (.int (f1 + f2))])) t := by
    intro t k
    show Steps p.tables e below (T19.setTop (mkF m 124 #[.val (.int a), .val (.int b), .val (.int c_), .val (.int d), .val (.int p_), .val (.int x1), .val (.int x2), .val (.int x3), .val (.int r1), .val (.int (r1 + r2)), .val (.int ((r1 + r2) + r3)), .val (.int f1), .val (.int (f1 + f2)), .unset, .unset, .unset, .unset, .unset, .unset, .unset] [(.int (10 : Int32)), (.int x3), (.int (f1 + f2))])) _
    by_cases hd124_21 : x3 = (10 : Int32)
    · skip
      refine XS.icmpNo X19.here hx rfl (hb hby at_124) rfl (teq hd124_21).2 ?_
      show Steps p.tables e below (T19.setTop (mkF m 127 #[.val (.int a), .val (.int b), .val (.int c_), .val (.int d), .val (.int p_), .val (.int x1), .val (.int x2), .val (.int x3), .val (.int r1), .val (.int (r1 + r2)), .val (.int ((r1 + r2) + r3)), .val (.int f1), .val (.int (f1 + f2)), .unset, .unset, .unset, .unset, .unset, .unset, .unset] [(.int (f1 + f2))])) _
      refine XS.iconst X19.here hx rfl (hb hby at_127) ?_
      show Steps p.tables e below (T19.setTop (mkF m 128 #[.val (.int a), .val (.int b), .val (.int c_), .val (.int d), .val (.int p_), .val (.int x1), .val (.int x2), .val (.int x3), .val (.int r1), .val (.int (r1 + r2)), .val (.int ((r1 + r2) + r3)), .val (.int f1), .val (.int (f1 + f2)), .unset, .unset, .unset, .unset, .unset, .unset, .unset] [(.int (1 : Int32)), (.int (f1 + f2))])) _
      refine XS.goto X19.here hx rfl (pc0 := 128) (pc' := 132) rfl (hb hby at_128) (by decide) (by decide) ?_
      show Steps p.tables e below (T19.setTop (mkF m 132 #[.val (.int a), .val (.int b), .val (.int c_), .val (.int d), .val (.int p_), .val (.int x1), .val (.int x2), .val (.int x3), .val (.int r1), .val (.int (r1 + r2)), .val (.int ((r1 + r2) + r3)), .val (.int f1), .val (.int (f1 + f2)), .unset, .unset, .unset, .unset, .unset, .unset, .unset] [(.int (1 : Int32)), (.int (f1 + f2))])) _
      simp only [if_pos hd124_21] at k
      exact k
    · skip
      refine XS.icmpYes X19.here hx rfl (pc0 := 124) (pc' := 131) rfl (hb hby at_124) rfl (feq hd124_21).2 (by decide) (by decide) ?_
      show Steps p.tables e below (T19.setTop (mkF m 131 #[.val (.int a), .val (.int b), .val (.int c_), .val (.int d), .val (.int p_), .val (.int x1), .val (.int x2), .val (.int x3), .val (.int r1), .val (.int (r1 + r2)), .val (.int ((r1 + r2) + r3)), .val (.int f1), .val (.int (f1 + f2)), .unset, .unset, .unset, .unset, .unset, .unset, .unset] [(.int (f1 + f2))])) _
      refine XS.iconst X19.here hx rfl (hb hby at_131) ?_
      show Steps p.tables e below (T19.setTop (mkF m 132 #[.val (.int a), .val (.int b), .val (.int c_), .val (.int d), .val (.int p_), .val (.int x1), .val (.int x2), .val (.int x3), .val (.int r1), .val (.int (r1 + r2)), .val (.int ((r1 + r2) + r3)), .val (.int f1), .val (.int (f1 + f2)), .unset, .unset, .unset, .unset, .unset, .unset, .unset] [(.int (0 : Int32)), (.int (f1 + f2))])) _
      simp only [if_neg hd124_21] at k
      exact k
  refine Gl.go (fun _ k => D124_20 _ k) ?_
  show Gl p.tables e below (QQof s (Q_law Z a b c_ d h0 n0) 0 0) (T19.setTop (mkF m 132 #[.val (.int a), .val (.int b), .val (.int c_), .val (.int d), .val (.int p_), .val (.int x1), .val (.int x2), .val (.int x3), .val (.int r1), .val (.int (r1 + r2)), .val (.int ((r1 + r2) + r3)), .val (.int f1), .val (.int (f1 + f2)), .unset, .unset, .unset, .unset, .unset, .unset, .unset] [(.int (if x3 = (10 : Int32) then (1 : Int32) else (0 : Int32))), (.int (f1 + f2))]))
  show Gl p.tables e below (QQof s (Q_law Z a b c_ d h0 n0) 0 0) (T19.setTop (mkF m 132 #[.val (.int a), .val (.int b), .val (.int c_), .val (.int d), .val (.int p_), .val (.int x1), .val (.int x2), .val (.int x3), .val (.int r1), .val (.int (r1 + r2)), .val (.int ((r1 + r2) + r3)), .val (.int f1), .val (.int (f1 + f2)), .unset, .unset, .unset, .unset, .unset, .unset, .unset] [(.int (eqV x3 (10 : Int32))), (.int (f1 + f2))]))
  obtain ⟨_, _, ⟨T22, L22, k22, n22⟩, -, X22, ⟨Lc22, hQ22, l22, y22, z22⟩, st22⟩ := Jvm.LawKit.callS X19 hx (y := (⟨"com/example/kontraktor/kontraktor/cli/InputFileBeginsLineBreakPinLaw", "one", "(Z)I"⟩ : MethodName)) hown (mvT hZ (hw _ (List.mem_of_getElem? (i := 5) rfl))) (mvT hZ (hw _ (List.mem_of_getElem? (i := 6) rfl))) (mvT hZ (hw _ (List.mem_of_getElem? (i := 2) rfl))) (mvT hZ (hw _ (List.mem_of_getElem? (i := 7) rfl))) (by decide) (backOf (W := 1) (rm_one l Z a0 hw [] (eqV x3 (10 : Int32)) h0 n0 Z0 ) hZ (hw _ (List.mem_of_getElem? (i := 7) rfl)) (hw _ (List.mem_of_getElem? (i := 2) rfl)) (by decide) (by decide)) (g := (mkF m 132 #[.val (.int a), .val (.int b), .val (.int c_), .val (.int d), .val (.int p_), .val (.int x1), .val (.int x2), .val (.int x3), .val (.int r1), .val (.int (r1 + r2)), .val (.int ((r1 + r2) + r3)), .val (.int f1), .val (.int (f1 + f2)), .unset, .unset, .unset, .unset, .unset, .unset, .unset] [(.int (eqV x3 (10 : Int32))), (.int (f1 + f2))])) rfl (by rw [hml]; rfl) (argsL := [(.int (eqV x3 (10 : Int32)))]) (rest := [(.int (f1 + f2))]) (lenOf pd_1 rfl) rfl (by show 2 * 0 + _ ≤ _; exact Nat.le_of_eq rfl) (hb hby at_132) (fun _ _ => ⟨rfl, e19, (by decide : 0 + 0 ≤ _), (by decide : 0 + 0 ≤ _)⟩)
  dsimp only [Pt.U, Pt.locs, Pt.cells, Pt.slots] at X22 l22 y22 z22 st22 hQ22
  subst l22 y22 z22
  obtain ⟨rfl, Nq22, e22⟩ := hQ22
  have N22 := Fr.app N19 Nq22
  refine Gl.go (fun _ k => st22 _ k) ?_
  show Gl p.tables e below (QQof s (Q_law Z a b c_ d h0 n0) 0 0) (T22.setTop (mkF m 135 #[.val (.int a), .val (.int b), .val (.int c_), .val (.int d), .val (.int p_), .val (.int x1), .val (.int x2), .val (.int x3), .val (.int r1), .val (.int (r1 + r2)), .val (.int ((r1 + r2) + r3)), .val (.int f1), .val (.int (f1 + f2)), .unset, .unset, .unset, .unset, .unset, .unset, .unset] [(.int (oneV (eqV x3 (10 : Int32)))), (.int (f1 + f2))]))
  generalize h_f3 : (oneV (eqV x3 (10 : Int32))) = f3
  show Gl p.tables e below (QQof s (Q_law Z a b c_ d h0 n0) 0 0) (T22.setTop (mkF m 135 #[.val (.int a), .val (.int b), .val (.int c_), .val (.int d), .val (.int p_), .val (.int x1), .val (.int x2), .val (.int x3), .val (.int r1), .val (.int (r1 + r2)), .val (.int ((r1 + r2) + r3)), .val (.int f1), .val (.int (f1 + f2)), .unset, .unset, .unset, .unset, .unset, .unset, .unset] [(.int f3), (.int (f1 + f2))]))
  refine Gl.go (fun _ k => XS.iadd X22.here hx rfl (hb hby at_135) rfl k) ?_
  show Gl p.tables e below (QQof s (Q_law Z a b c_ d h0 n0) 0 0) (T22.setTop (mkF m 136 #[.val (.int a), .val (.int b), .val (.int c_), .val (.int d), .val (.int p_), .val (.int x1), .val (.int x2), .val (.int x3), .val (.int r1), .val (.int (r1 + r2)), .val (.int ((r1 + r2) + r3)), .val (.int f1), .val (.int (f1 + f2)), .unset, .unset, .unset, .unset, .unset, .unset, .unset] [(.int ((f1 + f2) + f3))]))
  refine Gl.go (fun _ k => XS.istore X22.here hx rfl (hb hby at_136) rfl (l' := #[.val (.int a), .val (.int b), .val (.int c_), .val (.int d), .val (.int p_), .val (.int x1), .val (.int x2), .val (.int x3), .val (.int r1), .val (.int (r1 + r2)), .val (.int ((r1 + r2) + r3)), .val (.int f1), .val (.int (f1 + f2)), .val (.int ((f1 + f2) + f3)), .unset, .unset, .unset, .unset, .unset, .unset]) rfl k) ?_
  show Gl p.tables e below (QQof s (Q_law Z a b c_ d h0 n0) 0 0) (T22.setTop (mkF m 138 #[.val (.int a), .val (.int b), .val (.int c_), .val (.int d), .val (.int p_), .val (.int x1), .val (.int x2), .val (.int x3), .val (.int r1), .val (.int (r1 + r2)), .val (.int ((r1 + r2) + r3)), .val (.int f1), .val (.int (f1 + f2)), .val (.int ((f1 + f2) + f3)), .unset, .unset, .unset, .unset, .unset, .unset] []))
  refine Gl.go (fun _ k => XS.iload X22.here hx rfl (hb hby at_138) rfl  k) ?_
  show Gl p.tables e below (QQof s (Q_law Z a b c_ d h0 n0) 0 0) (T22.setTop (mkF m 140 #[.val (.int a), .val (.int b), .val (.int c_), .val (.int d), .val (.int p_), .val (.int x1), .val (.int x2), .val (.int x3), .val (.int r1), .val (.int (r1 + r2)), .val (.int ((r1 + r2) + r3)), .val (.int f1), .val (.int (f1 + f2)), .val (.int ((f1 + f2) + f3)), .unset, .unset, .unset, .unset, .unset, .unset] [(.int p_)]))
  refine Gl.go (fun _ k => XS.bipush X22.here hx rfl (hb hby at_140) k) ?_
  show Gl p.tables e below (QQof s (Q_law Z a b c_ d h0 n0) 0 0) (T22.setTop (mkF m 142 #[.val (.int a), .val (.int b), .val (.int c_), .val (.int d), .val (.int p_), .val (.int x1), .val (.int x2), .val (.int x3), .val (.int r1), .val (.int (r1 + r2)), .val (.int ((r1 + r2) + r3)), .val (.int f1), .val (.int (f1 + f2)), .val (.int ((f1 + f2) + f3)), .unset, .unset, .unset, .unset, .unset, .unset] [(.int (13 : Int32)), (.int p_)]))
  have D142_23 : ∀ t, Steps p.tables e below (T22.setTop (mkF m 157 #[.val (.int a), .val (.int b), .val (.int c_), .val (.int d), .val (.int p_), .val (.int x1), .val (.int x2), .val (.int x3), .val (.int r1), .val (.int (r1 + r2)), .val (.int ((r1 + r2) + r3)), .val (.int f1), .val (.int (f1 + f2)), .val (.int ((f1 + f2) + f3)), .unset, .unset, .unset, .unset, .unset, .unset] [(.int (if p_ = (13 : Int32) then (if x1 = (10 : Int32) then (1 : Int32) else (0 : Int32)) else (0 : Int32)))])) t → Steps p.tables e below (T22.setTop (mkF m 142 #[.val (.int a), .val (.int b), .val (.int c_), .val (.int d), .val (.int p_), .val (.int x1), .val (.int x2), .val (.int x3), .val (.int r1), .val (.int (r1 + r2)), .val (.int ((r1 + r2) + r3)), .val (.int f1), .val (.int (f1 + f2)), .val (.int ((f1 + f2) + f3)), .unset, .unset, .unset, .unset, .unset, .unset] [(.int (13 : Int32)), (.int p_)])) t := by
    intro t k
    show Steps p.tables e below (T22.setTop (mkF m 142 #[.val (.int a), .val (.int b), .val (.int c_), .val (.int d), .val (.int p_), .val (.int x1), .val (.int x2), .val (.int x3), .val (.int r1), .val (.int (r1 + r2)), .val (.int ((r1 + r2) + r3)), .val (.int f1), .val (.int (f1 + f2)), .val (.int ((f1 + f2) + f3)), .unset, .unset, .unset, .unset, .unset, .unset] [(.int (13 : Int32)), (.int p_)])) _
    by_cases hd142_24 : p_ = (13 : Int32)
    · skip
      refine XS.icmpNo X22.here hx rfl (hb hby at_142) rfl (teq hd142_24).2 ?_
      show Steps p.tables e below (T22.setTop (mkF m 145 #[.val (.int a), .val (.int b), .val (.int c_), .val (.int d), .val (.int p_), .val (.int x1), .val (.int x2), .val (.int x3), .val (.int r1), .val (.int (r1 + r2)), .val (.int ((r1 + r2) + r3)), .val (.int f1), .val (.int (f1 + f2)), .val (.int ((f1 + f2) + f3)), .unset, .unset, .unset, .unset, .unset, .unset] [])) _
      refine XS.iload X22.here hx rfl (hb hby at_145) rfl  ?_
      show Steps p.tables e below (T22.setTop (mkF m 147 #[.val (.int a), .val (.int b), .val (.int c_), .val (.int d), .val (.int p_), .val (.int x1), .val (.int x2), .val (.int x3), .val (.int r1), .val (.int (r1 + r2)), .val (.int ((r1 + r2) + r3)), .val (.int f1), .val (.int (f1 + f2)), .val (.int ((f1 + f2) + f3)), .unset, .unset, .unset, .unset, .unset, .unset] [(.int x1)])) _
      refine XS.bipush X22.here hx rfl (hb hby at_147) ?_
      show Steps p.tables e below (T22.setTop (mkF m 149 #[.val (.int a), .val (.int b), .val (.int c_), .val (.int d), .val (.int p_), .val (.int x1), .val (.int x2), .val (.int x3), .val (.int r1), .val (.int (r1 + r2)), .val (.int ((r1 + r2) + r3)), .val (.int f1), .val (.int (f1 + f2)), .val (.int ((f1 + f2) + f3)), .unset, .unset, .unset, .unset, .unset, .unset] [(.int (10 : Int32)), (.int x1)])) _
      by_cases hd149_25 : x1 = (10 : Int32)
      · skip
        refine XS.icmpNo X22.here hx rfl (hb hby at_149) rfl (teq hd149_25).2 ?_
        show Steps p.tables e below (T22.setTop (mkF m 152 #[.val (.int a), .val (.int b), .val (.int c_), .val (.int d), .val (.int p_), .val (.int x1), .val (.int x2), .val (.int x3), .val (.int r1), .val (.int (r1 + r2)), .val (.int ((r1 + r2) + r3)), .val (.int f1), .val (.int (f1 + f2)), .val (.int ((f1 + f2) + f3)), .unset, .unset, .unset, .unset, .unset, .unset] [])) _
        refine XS.iconst X22.here hx rfl (hb hby at_152) ?_
        show Steps p.tables e below (T22.setTop (mkF m 153 #[.val (.int a), .val (.int b), .val (.int c_), .val (.int d), .val (.int p_), .val (.int x1), .val (.int x2), .val (.int x3), .val (.int r1), .val (.int (r1 + r2)), .val (.int ((r1 + r2) + r3)), .val (.int f1), .val (.int (f1 + f2)), .val (.int ((f1 + f2) + f3)), .unset, .unset, .unset, .unset, .unset, .unset] [(.int (1 : Int32))])) _
        refine XS.goto X22.here hx rfl (pc0 := 153) (pc' := 157) rfl (hb hby at_153) (by decide) (by decide) ?_
        show Steps p.tables e below (T22.setTop (mkF m 157 #[.val (.int a), .val (.int b), .val (.int c_), .val (.int d), .val (.int p_), .val (.int x1), .val (.int x2), .val (.int x3), .val (.int r1), .val (.int (r1 + r2)), .val (.int ((r1 + r2) + r3)), .val (.int f1), .val (.int (f1 + f2)), .val (.int ((f1 + f2) + f3)), .unset, .unset, .unset, .unset, .unset, .unset] [(.int (1 : Int32))])) _
        simp only [if_pos hd142_24, if_pos hd149_25] at k
        exact k
      · skip
        refine XS.icmpYes X22.here hx rfl (pc0 := 149) (pc' := 156) rfl (hb hby at_149) rfl (feq hd149_25).2 (by decide) (by decide) ?_
        show Steps p.tables e below (T22.setTop (mkF m 156 #[.val (.int a), .val (.int b), .val (.int c_), .val (.int d), .val (.int p_), .val (.int x1), .val (.int x2), .val (.int x3), .val (.int r1), .val (.int (r1 + r2)), .val (.int ((r1 + r2) + r3)), .val (.int f1), .val (.int (f1 + f2)), .val (.int ((f1 + f2) + f3)), .unset, .unset, .unset, .unset, .unset, .unset] [])) _
        refine XS.iconst X22.here hx rfl (hb hby at_156) ?_
        show Steps p.tables e below (T22.setTop (mkF m 157 #[.val (.int a), .val (.int b), .val (.int c_), .val (.int d), .val (.int p_), .val (.int x1), .val (.int x2), .val (.int x3), .val (.int r1), .val (.int (r1 + r2)), .val (.int ((r1 + r2) + r3)), .val (.int f1), .val (.int (f1 + f2)), .val (.int ((f1 + f2) + f3)), .unset, .unset, .unset, .unset, .unset, .unset] [(.int (0 : Int32))])) _
        simp only [if_pos hd142_24, if_neg hd149_25] at k
        exact k
    · skip
      refine XS.icmpYes X22.here hx rfl (pc0 := 142) (pc' := 156) rfl (hb hby at_142) rfl (feq hd142_24).2 (by decide) (by decide) ?_
      show Steps p.tables e below (T22.setTop (mkF m 156 #[.val (.int a), .val (.int b), .val (.int c_), .val (.int d), .val (.int p_), .val (.int x1), .val (.int x2), .val (.int x3), .val (.int r1), .val (.int (r1 + r2)), .val (.int ((r1 + r2) + r3)), .val (.int f1), .val (.int (f1 + f2)), .val (.int ((f1 + f2) + f3)), .unset, .unset, .unset, .unset, .unset, .unset] [])) _
      refine XS.iconst X22.here hx rfl (hb hby at_156) ?_
      show Steps p.tables e below (T22.setTop (mkF m 157 #[.val (.int a), .val (.int b), .val (.int c_), .val (.int d), .val (.int p_), .val (.int x1), .val (.int x2), .val (.int x3), .val (.int r1), .val (.int (r1 + r2)), .val (.int ((r1 + r2) + r3)), .val (.int f1), .val (.int (f1 + f2)), .val (.int ((f1 + f2) + f3)), .unset, .unset, .unset, .unset, .unset, .unset] [(.int (0 : Int32))])) _
      simp only [if_neg hd142_24] at k
      exact k
  refine Gl.go (fun _ k => D142_23 _ k) ?_
  show Gl p.tables e below (QQof s (Q_law Z a b c_ d h0 n0) 0 0) (T22.setTop (mkF m 157 #[.val (.int a), .val (.int b), .val (.int c_), .val (.int d), .val (.int p_), .val (.int x1), .val (.int x2), .val (.int x3), .val (.int r1), .val (.int (r1 + r2)), .val (.int ((r1 + r2) + r3)), .val (.int f1), .val (.int (f1 + f2)), .val (.int ((f1 + f2) + f3)), .unset, .unset, .unset, .unset, .unset, .unset] [(.int (if p_ = (13 : Int32) then (if x1 = (10 : Int32) then (1 : Int32) else (0 : Int32)) else (0 : Int32)))]))
  show Gl p.tables e below (QQof s (Q_law Z a b c_ d h0 n0) 0 0) (T22.setTop (mkF m 157 #[.val (.int a), .val (.int b), .val (.int c_), .val (.int d), .val (.int p_), .val (.int x1), .val (.int x2), .val (.int x3), .val (.int r1), .val (.int (r1 + r2)), .val (.int ((r1 + r2) + r3)), .val (.int f1), .val (.int (f1 + f2)), .val (.int ((f1 + f2) + f3)), .unset, .unset, .unset, .unset, .unset, .unset] [(.int (eq2V p_ (13 : Int32) x1 (10 : Int32)))]))
  obtain ⟨_, _, ⟨T26, L26, k26, n26⟩, -, X26, ⟨Lc26, hQ26, l26, y26, z26⟩, st26⟩ := Jvm.LawKit.callS X22 hx (y := (⟨"com/example/kontraktor/kontraktor/cli/InputFileBeginsLineBreakPinLaw", "one", "(Z)I"⟩ : MethodName)) hown (mvT hZ (hw _ (List.mem_of_getElem? (i := 5) rfl))) (mvT hZ (hw _ (List.mem_of_getElem? (i := 6) rfl))) (mvT hZ (hw _ (List.mem_of_getElem? (i := 2) rfl))) (mvT hZ (hw _ (List.mem_of_getElem? (i := 7) rfl))) (by decide) (backOf (W := 0) (rm_one l Z a0 hw [] (eq2V p_ (13 : Int32) x1 (10 : Int32)) h0 n0 Z0 ) hZ (hw _ (List.mem_of_getElem? (i := 7) rfl)) (hw _ (List.mem_of_getElem? (i := 2) rfl)) (by decide) (by decide)) (g := (mkF m 157 #[.val (.int a), .val (.int b), .val (.int c_), .val (.int d), .val (.int p_), .val (.int x1), .val (.int x2), .val (.int x3), .val (.int r1), .val (.int (r1 + r2)), .val (.int ((r1 + r2) + r3)), .val (.int f1), .val (.int (f1 + f2)), .val (.int ((f1 + f2) + f3)), .unset, .unset, .unset, .unset, .unset, .unset] [(.int (eq2V p_ (13 : Int32) x1 (10 : Int32)))])) rfl (by rw [hml]; rfl) (argsL := [(.int (eq2V p_ (13 : Int32) x1 (10 : Int32)))]) (rest := []) (lenOf pd_1 rfl) rfl (by show 2 * 0 + _ ≤ _; exact Nat.le_of_eq rfl) (hb hby at_157) (fun _ _ => ⟨rfl, e22, (by decide : 0 + 0 ≤ _), (by decide : 0 + 0 ≤ _)⟩)
  dsimp only [Pt.U, Pt.locs, Pt.cells, Pt.slots] at X26 l26 y26 z26 st26 hQ26
  subst l26 y26 z26
  obtain ⟨rfl, Nq26, e26⟩ := hQ26
  have N26 := Fr.app N22 Nq26
  refine Gl.go (fun _ k => st26 _ k) ?_
  show Gl p.tables e below (QQof s (Q_law Z a b c_ d h0 n0) 0 0) (T26.setTop (mkF m 160 #[.val (.int a), .val (.int b), .val (.int c_), .val (.int d), .val (.int p_), .val (.int x1), .val (.int x2), .val (.int x3), .val (.int r1), .val (.int (r1 + r2)), .val (.int ((r1 + r2) + r3)), .val (.int f1), .val (.int (f1 + f2)), .val (.int ((f1 + f2) + f3)), .unset, .unset, .unset, .unset, .unset, .unset] [(.int (oneV (eq2V p_ (13 : Int32) x1 (10 : Int32))))]))
  generalize h_d1 : (oneV (eq2V p_ (13 : Int32) x1 (10 : Int32))) = d1
  show Gl p.tables e below (QQof s (Q_law Z a b c_ d h0 n0) 0 0) (T26.setTop (mkF m 160 #[.val (.int a), .val (.int b), .val (.int c_), .val (.int d), .val (.int p_), .val (.int x1), .val (.int x2), .val (.int x3), .val (.int r1), .val (.int (r1 + r2)), .val (.int ((r1 + r2) + r3)), .val (.int f1), .val (.int (f1 + f2)), .val (.int ((f1 + f2) + f3)), .unset, .unset, .unset, .unset, .unset, .unset] [(.int d1)]))
  refine Gl.go (fun _ k => XS.istore X26.here hx rfl (hb hby at_160) rfl (l' := #[.val (.int a), .val (.int b), .val (.int c_), .val (.int d), .val (.int p_), .val (.int x1), .val (.int x2), .val (.int x3), .val (.int r1), .val (.int (r1 + r2)), .val (.int ((r1 + r2) + r3)), .val (.int f1), .val (.int (f1 + f2)), .val (.int ((f1 + f2) + f3)), .val (.int d1), .unset, .unset, .unset, .unset, .unset]) rfl k) ?_
  show Gl p.tables e below (QQof s (Q_law Z a b c_ d h0 n0) 0 0) (T26.setTop (mkF m 162 #[.val (.int a), .val (.int b), .val (.int c_), .val (.int d), .val (.int p_), .val (.int x1), .val (.int x2), .val (.int x3), .val (.int r1), .val (.int (r1 + r2)), .val (.int ((r1 + r2) + r3)), .val (.int f1), .val (.int (f1 + f2)), .val (.int ((f1 + f2) + f3)), .val (.int d1), .unset, .unset, .unset, .unset, .unset] []))
  refine Gl.go (fun _ k => XS.iload X26.here hx rfl (hb hby at_162) rfl  k) ?_
  show Gl p.tables e below (QQof s (Q_law Z a b c_ d h0 n0) 0 0) (T26.setTop (mkF m 164 #[.val (.int a), .val (.int b), .val (.int c_), .val (.int d), .val (.int p_), .val (.int x1), .val (.int x2), .val (.int x3), .val (.int r1), .val (.int (r1 + r2)), .val (.int ((r1 + r2) + r3)), .val (.int f1), .val (.int (f1 + f2)), .val (.int ((f1 + f2) + f3)), .val (.int d1), .unset, .unset, .unset, .unset, .unset] [(.int d1)]))
  refine Gl.go (fun _ k => XS.iload X26.here hx rfl (hb hby at_164) rfl  k) ?_
  show Gl p.tables e below (QQof s (Q_law Z a b c_ d h0 n0) 0 0) (T26.setTop (mkF m 166 #[.val (.int a), .val (.int b), .val (.int c_), .val (.int d), .val (.int p_), .val (.int x1), .val (.int x2), .val (.int x3), .val (.int r1), .val (.int (r1 + r2)), .val (.int ((r1 + r2) + r3)), .val (.int f1), .val (.int (f1 + f2)), .val (.int ((f1 + f2) + f3)), .val (.int d1), .unset, .unset, .unset, .unset, .unset] [(.int x1), (.int d1)]))
  refine Gl.go (fun _ k => XS.bipush X26.here hx rfl (hb hby at_166) k) ?_
  show Gl p.tables e below (QQof s (Q_law Z a b c_ d h0 n0) 0 0) (T26.setTop (mkF m 168 #[.val (.int a), .val (.int b), .val (.int c_), .val (.int d), .val (.int p_), .val (.int x1), .val (.int x2), .val (.int x3), .val (.int r1), .val (.int (r1 + r2)), .val (.int ((r1 + r2) + r3)), .val (.int f1), .val (.int (f1 + f2)), .val (.int ((f1 + f2) + f3)), .val (.int d1), .unset, .unset, .unset, .unset, .unset] [(.int (13 : Int32)), (.int x1), (.int d1)]))
  have D168_27 : ∀ t, Steps p.tables e below (T26.setTop (mkF m 183 #[.val (.int a), .val (.int b), .val (.int c_), .val (.int d), .val (.int p_), .val (.int x1), .val (.int x2), .val (.int x3), .val (.int r1), .val (.int (r1 + r2)), .val (.int ((r1 + r2) + r3)), .val (.int f1), .val (.int (f1 + f2)), .val (.int ((f1 + f2) + f3)), .val (.int d1), .unset, .unset, .unset, .unset, .unset] [(.int (if x1 = (13 : Int32) then (if x2 = (10 : Int32) then (1 : Int32) else (0 : Int32)) else (0 : Int32))), (.int d1)])) t → Steps p.tables e below (T26.setTop (mkF m 168 #[.val (.int a), .val (.int b), .val (.int c_), .val (.int d), .val (.int p_), .val (.int x1), .val (.int x2), .val (.int x3), .val (.int r1), .val (.int (r1 + r2)), .val (.int ((r1 + r2) + r3)), .val (.int f1), .val (.int (f1 + f2)), .val (.int ((f1 + f2) + f3)), .val (.int d1), .unset, .unset, .unset, .unset, .unset] [(.int (13 : Int32)), (.int x1), (.int d1)])) t := by
    intro t k
    show Steps p.tables e below (T26.setTop (mkF m 168 #[.val (.int a), .val (.int b), .val (.int c_), .val (.int d), .val (.int p_), .val (.int x1), .val (.int x2), .val (.int x3), .val (.int r1), .val (.int (r1 + r2)), .val (.int ((r1 + r2) + r3)), .val (.int f1), .val (.int (f1 + f2)), .val (.int ((f1 + f2) + f3)), .val (.int d1), .unset, .unset, .unset, .unset, .unset] [(.int (13 : Int32)), (.int x1), (.int d1)])) _
    by_cases hd168_28 : x1 = (13 : Int32)
    · skip
      refine XS.icmpNo X26.here hx rfl (hb hby at_168) rfl (teq hd168_28).2 ?_
      show Steps p.tables e below (T26.setTop (mkF m 171 #[.val (.int a), .val (.int b), .val (.int c_), .val (.int d), .val (.int p_), .val (.int x1), .val (.int x2), .val (.int x3), .val (.int r1), .val (.int (r1 + r2)), .val (.int ((r1 + r2) + r3)), .val (.int f1), .val (.int (f1 + f2)), .val (.int ((f1 + f2) + f3)), .val (.int d1), .unset, .unset, .unset, .unset, .unset] [(.int d1)])) _
      refine XS.iload X26.here hx rfl (hb hby at_171) rfl  ?_
      show Steps p.tables e below (T26.setTop (mkF m 173 #[.val (.int a), .val (.int b), .val (.int c_), .val (.int d), .val (.int p_), .val (.int x1), .val (.int x2), .val (.int x3), .val (.int r1), .val (.int (r1 + r2)), .val (.int ((r1 + r2) + r3)), .val (.int f1), .val (.int (f1 + f2)), .val (.int ((f1 + f2) + f3)), .val (.int d1), .unset, .unset, .unset, .unset, .unset] [(.int x2), (.int d1)])) _
      refine XS.bipush X26.here hx rfl (hb hby at_173) ?_
      show Steps p.tables e below (T26.setTop (mkF m 175 #[.val (.int a), .val (.int b), .val (.int c_), .val (.int d), .val (.int p_), .val (.int x1), .val (.int x2), .val (.int x3), .val (.int r1), .val (.int (r1 + r2)), .val (.int ((r1 + r2) + r3)), .val (.int f1), .val (.int (f1 + f2)), .val (.int ((f1 + f2) + f3)), .val (.int d1), .unset, .unset, .unset, .unset, .unset] [(.int (10 : Int32)), (.int x2), (.int d1)])) _
      by_cases hd175_29 : x2 = (10 : Int32)
      · skip
        refine XS.icmpNo X26.here hx rfl (hb hby at_175) rfl (teq hd175_29).2 ?_
        show Steps p.tables e below (T26.setTop (mkF m 178 #[.val (.int a), .val (.int b), .val (.int c_), .val (.int d), .val (.int p_), .val (.int x1), .val (.int x2), .val (.int x3), .val (.int r1), .val (.int (r1 + r2)), .val (.int ((r1 + r2) + r3)), .val (.int f1), .val (.int (f1 + f2)), .val (.int ((f1 + f2) + f3)), .val (.int d1), .unset, .unset, .unset, .unset, .unset] [(.int d1)])) _
        refine XS.iconst X26.here hx rfl (hb hby at_178) ?_
        show Steps p.tables e below (T26.setTop (mkF m 179 #[.val (.int a), .val (.int b), .val (.int c_), .val (.int d), .val (.int p_), .val (.int x1), .val (.int x2), .val (.int x3), .val (.int r1), .val (.int (r1 + r2)), .val (.int ((r1 + r2) + r3)), .val (.int f1), .val (.int (f1 + f2)), .val (.int ((f1 + f2) + f3)), .val (.int d1), .unset, .unset, .unset, .unset, .unset] [(.int (1 : Int32)), (.int d1)])) _
        refine XS.goto X26.here hx rfl (pc0 := 179) (pc' := 183) rfl (hb hby at_179) (by decide) (by decide) ?_
        show Steps p.tables e below (T26.setTop (mkF m 183 #[.val (.int a), .val (.int b), .val (.int c_), .val (.int d), .val (.int p_), .val (.int x1), .val (.int x2), .val (.int x3), .val (.int r1), .val (.int (r1 + r2)), .val (.int ((r1 + r2) + r3)), .val (.int f1), .val (.int (f1 + f2)), .val (.int ((f1 + f2) + f3)), .val (.int d1), .unset, .unset, .unset, .unset, .unset] [(.int (1 : Int32)), (.int d1)])) _
        simp only [if_pos hd168_28, if_pos hd175_29] at k
        exact k
      · skip
        refine XS.icmpYes X26.here hx rfl (pc0 := 175) (pc' := 182) rfl (hb hby at_175) rfl (feq hd175_29).2 (by decide) (by decide) ?_
        show Steps p.tables e below (T26.setTop (mkF m 182 #[.val (.int a), .val (.int b), .val (.int c_), .val (.int d), .val (.int p_), .val (.int x1), .val (.int x2), .val (.int x3), .val (.int r1), .val (.int (r1 + r2)), .val (.int ((r1 + r2) + r3)), .val (.int f1), .val (.int (f1 + f2)), .val (.int ((f1 + f2) + f3)), .val (.int d1), .unset, .unset, .unset, .unset, .unset] [(.int d1)])) _
        refine XS.iconst X26.here hx rfl (hb hby at_182) ?_
        show Steps p.tables e below (T26.setTop (mkF m 183 #[.val (.int a), .val (.int b), .val (.int c_), .val (.int d), .val (.int p_), .val (.int x1), .val (.int x2), .val (.int x3), .val (.int r1), .val (.int (r1 + r2)), .val (.int ((r1 + r2) + r3)), .val (.int f1), .val (.int (f1 + f2)), .val (.int ((f1 + f2) + f3)), .val (.int d1), .unset, .unset, .unset, .unset, .unset] [(.int (0 : Int32)), (.int d1)])) _
        simp only [if_pos hd168_28, if_neg hd175_29] at k
        exact k
    · skip
      refine XS.icmpYes X26.here hx rfl (pc0 := 168) (pc' := 182) rfl (hb hby at_168) rfl (feq hd168_28).2 (by decide) (by decide) ?_
      show Steps p.tables e below (T26.setTop (mkF m 182 #[.val (.int a), .val (.int b), .val (.int c_), .val (.int d), .val (.int p_), .val (.int x1), .val (.int x2), .val (.int x3), .val (.int r1), .val (.int (r1 + r2)), .val (.int ((r1 + r2) + r3)), .val (.int f1), .val (.int (f1 + f2)), .val (.int ((f1 + f2) + f3)), .val (.int d1), .unset, .unset, .unset, .unset, .unset] [(.int d1)])) _
      refine XS.iconst X26.here hx rfl (hb hby at_182) ?_
      show Steps p.tables e below (T26.setTop (mkF m 183 #[.val (.int a), .val (.int b), .val (.int c_), .val (.int d), .val (.int p_), .val (.int x1), .val (.int x2), .val (.int x3), .val (.int r1), .val (.int (r1 + r2)), .val (.int ((r1 + r2) + r3)), .val (.int f1), .val (.int (f1 + f2)), .val (.int ((f1 + f2) + f3)), .val (.int d1), .unset, .unset, .unset, .unset, .unset] [(.int (0 : Int32)), (.int d1)])) _
      simp only [if_neg hd168_28] at k
      exact k
  refine Gl.go (fun _ k => D168_27 _ k) ?_
  show Gl p.tables e below (QQof s (Q_law Z a b c_ d h0 n0) 0 0) (T26.setTop (mkF m 183 #[.val (.int a), .val (.int b), .val (.int c_), .val (.int d), .val (.int p_), .val (.int x1), .val (.int x2), .val (.int x3), .val (.int r1), .val (.int (r1 + r2)), .val (.int ((r1 + r2) + r3)), .val (.int f1), .val (.int (f1 + f2)), .val (.int ((f1 + f2) + f3)), .val (.int d1), .unset, .unset, .unset, .unset, .unset] [(.int (if x1 = (13 : Int32) then (if x2 = (10 : Int32) then (1 : Int32) else (0 : Int32)) else (0 : Int32))), (.int d1)]))
  show Gl p.tables e below (QQof s (Q_law Z a b c_ d h0 n0) 0 0) (T26.setTop (mkF m 183 #[.val (.int a), .val (.int b), .val (.int c_), .val (.int d), .val (.int p_), .val (.int x1), .val (.int x2), .val (.int x3), .val (.int r1), .val (.int (r1 + r2)), .val (.int ((r1 + r2) + r3)), .val (.int f1), .val (.int (f1 + f2)), .val (.int ((f1 + f2) + f3)), .val (.int d1), .unset, .unset, .unset, .unset, .unset] [(.int (eq2V x1 (13 : Int32) x2 (10 : Int32))), (.int d1)]))
  obtain ⟨_, _, ⟨T30, L30, k30, n30⟩, -, X30, ⟨Lc30, hQ30, l30, y30, z30⟩, st30⟩ := Jvm.LawKit.callS X26 hx (y := (⟨"com/example/kontraktor/kontraktor/cli/InputFileBeginsLineBreakPinLaw", "one", "(Z)I"⟩ : MethodName)) hown (mvT hZ (hw _ (List.mem_of_getElem? (i := 5) rfl))) (mvT hZ (hw _ (List.mem_of_getElem? (i := 6) rfl))) (mvT hZ (hw _ (List.mem_of_getElem? (i := 2) rfl))) (mvT hZ (hw _ (List.mem_of_getElem? (i := 7) rfl))) (by decide) (backOf (W := 1) (rm_one l Z a0 hw [] (eq2V x1 (13 : Int32) x2 (10 : Int32)) h0 n0 Z0 ) hZ (hw _ (List.mem_of_getElem? (i := 7) rfl)) (hw _ (List.mem_of_getElem? (i := 2) rfl)) (by decide) (by decide)) (g := (mkF m 183 #[.val (.int a), .val (.int b), .val (.int c_), .val (.int d), .val (.int p_), .val (.int x1), .val (.int x2), .val (.int x3), .val (.int r1), .val (.int (r1 + r2)), .val (.int ((r1 + r2) + r3)), .val (.int f1), .val (.int (f1 + f2)), .val (.int ((f1 + f2) + f3)), .val (.int d1), .unset, .unset, .unset, .unset, .unset] [(.int (eq2V x1 (13 : Int32) x2 (10 : Int32))), (.int d1)])) rfl (by rw [hml]; rfl) (argsL := [(.int (eq2V x1 (13 : Int32) x2 (10 : Int32)))]) (rest := [(.int d1)]) (lenOf pd_1 rfl) rfl (by show 2 * 0 + _ ≤ _; exact Nat.le_of_eq rfl) (hb hby at_183) (fun _ _ => ⟨rfl, e26, (by decide : 0 + 0 ≤ _), (by decide : 0 + 0 ≤ _)⟩)
  dsimp only [Pt.U, Pt.locs, Pt.cells, Pt.slots] at X30 l30 y30 z30 st30 hQ30
  subst l30 y30 z30
  obtain ⟨rfl, Nq30, e30⟩ := hQ30
  have N30 := Fr.app N26 Nq30
  refine Gl.go (fun _ k => st30 _ k) ?_
  show Gl p.tables e below (QQof s (Q_law Z a b c_ d h0 n0) 0 0) (T30.setTop (mkF m 186 #[.val (.int a), .val (.int b), .val (.int c_), .val (.int d), .val (.int p_), .val (.int x1), .val (.int x2), .val (.int x3), .val (.int r1), .val (.int (r1 + r2)), .val (.int ((r1 + r2) + r3)), .val (.int f1), .val (.int (f1 + f2)), .val (.int ((f1 + f2) + f3)), .val (.int d1), .unset, .unset, .unset, .unset, .unset] [(.int (oneV (eq2V x1 (13 : Int32) x2 (10 : Int32)))), (.int d1)]))
  generalize h_d2 : (oneV (eq2V x1 (13 : Int32) x2 (10 : Int32))) = d2
  show Gl p.tables e below (QQof s (Q_law Z a b c_ d h0 n0) 0 0) (T30.setTop (mkF m 186 #[.val (.int a), .val (.int b), .val (.int c_), .val (.int d), .val (.int p_), .val (.int x1), .val (.int x2), .val (.int x3), .val (.int r1), .val (.int (r1 + r2)), .val (.int ((r1 + r2) + r3)), .val (.int f1), .val (.int (f1 + f2)), .val (.int ((f1 + f2) + f3)), .val (.int d1), .unset, .unset, .unset, .unset, .unset] [(.int d2), (.int d1)]))
  refine Gl.go (fun _ k => XS.iadd X30.here hx rfl (hb hby at_186) rfl k) ?_
  show Gl p.tables e below (QQof s (Q_law Z a b c_ d h0 n0) 0 0) (T30.setTop (mkF m 187 #[.val (.int a), .val (.int b), .val (.int c_), .val (.int d), .val (.int p_), .val (.int x1), .val (.int x2), .val (.int x3), .val (.int r1), .val (.int (r1 + r2)), .val (.int ((r1 + r2) + r3)), .val (.int f1), .val (.int (f1 + f2)), .val (.int ((f1 + f2) + f3)), .val (.int d1), .unset, .unset, .unset, .unset, .unset] [(.int (d1 + d2))]))
  refine Gl.go (fun _ k => XS.istore X30.here hx rfl (hb hby at_187) rfl (l' := #[.val (.int a), .val (.int b), .val (.int c_), .val (.int d), .val (.int p_), .val (.int x1), .val (.int x2), .val (.int x3), .val (.int r1), .val (.int (r1 + r2)), .val (.int ((r1 + r2) + r3)), .val (.int f1), .val (.int (f1 + f2)), .val (.int ((f1 + f2) + f3)), .val (.int d1), .val (.int (d1 + d2)), .unset, .unset, .unset, .unset]) rfl k) ?_
  show Gl p.tables e below (QQof s (Q_law Z a b c_ d h0 n0) 0 0) (T30.setTop (mkF m 189 #[.val (.int a), .val (.int b), .val (.int c_), .val (.int d), .val (.int p_), .val (.int x1), .val (.int x2), .val (.int x3), .val (.int r1), .val (.int (r1 + r2)), .val (.int ((r1 + r2) + r3)), .val (.int f1), .val (.int (f1 + f2)), .val (.int ((f1 + f2) + f3)), .val (.int d1), .val (.int (d1 + d2)), .unset, .unset, .unset, .unset] []))
  refine Gl.go (fun _ k => XS.iload X30.here hx rfl (hb hby at_189) rfl  k) ?_
  show Gl p.tables e below (QQof s (Q_law Z a b c_ d h0 n0) 0 0) (T30.setTop (mkF m 191 #[.val (.int a), .val (.int b), .val (.int c_), .val (.int d), .val (.int p_), .val (.int x1), .val (.int x2), .val (.int x3), .val (.int r1), .val (.int (r1 + r2)), .val (.int ((r1 + r2) + r3)), .val (.int f1), .val (.int (f1 + f2)), .val (.int ((f1 + f2) + f3)), .val (.int d1), .val (.int (d1 + d2)), .unset, .unset, .unset, .unset] [(.int (d1 + d2))]))
  refine Gl.go (fun _ k => XS.iload X30.here hx rfl (hb hby at_191) rfl  k) ?_
  show Gl p.tables e below (QQof s (Q_law Z a b c_ d h0 n0) 0 0) (T30.setTop (mkF m 193 #[.val (.int a), .val (.int b), .val (.int c_), .val (.int d), .val (.int p_), .val (.int x1), .val (.int x2), .val (.int x3), .val (.int r1), .val (.int (r1 + r2)), .val (.int ((r1 + r2) + r3)), .val (.int f1), .val (.int (f1 + f2)), .val (.int ((f1 + f2) + f3)), .val (.int d1), .val (.int (d1 + d2)), .unset, .unset, .unset, .unset] [(.int x2), (.int (d1 + d2))]))
  refine Gl.go (fun _ k => XS.bipush X30.here hx rfl (hb hby at_193) k) ?_
  show Gl p.tables e below (QQof s (Q_law Z a b c_ d h0 n0) 0 0) (T30.setTop (mkF m 195 #[.val (.int a), .val (.int b), .val (.int c_), .val (.int d), .val (.int p_), .val (.int x1), .val (.int x2), .val (.int x3), .val (.int r1), .val (.int (r1 + r2)), .val (.int ((r1 + r2) + r3)), .val (.int f1), .val (.int (f1 + f2)), .val (.int ((f1 + f2) + f3)), .val (.int d1), .val (.int (d1 + d2)), .unset, .unset, .unset, .unset] [(.int (13 : Int32)), (.int x2), (.int (d1 + d2))]))
  have D195_31 : ∀ t, Steps p.tables e below (T30.setTop (mkF m 210 #[.val (.int a), .val (.int b), .val (.int c_), .val (.int d), .val (.int p_), .val (.int x1), .val (.int x2), .val (.int x3), .val (.int r1), .val (.int (r1 + r2)), .val (.int ((r1 + r2) + r3)), .val (.int f1), .val (.int (f1 + f2)), .val (.int ((f1 + f2) + f3)), .val (.int d1), .val (.int (d1 + d2)), .unset, .unset, .unset, .unset] [(.int (if x2 = (13 : Int32) then (if x3 = (10 : Int32) then (1 : Int32) else (0 : Int32)) else (0 : Int32))), (.int (d1 + d2))])) t → Steps p.tables e below (T30.setTop (mkF m 195 #[.val (.int a), .val (.int b), .val (.int c_), .val (.int d), .val (.int p_), .val (.int x1), .val (.int x2), .val (.int x3), .val (.int r1), .val (.int (r1 + r2)), .val (.int ((r1 + r2) + r3)), .val (.int f1), .val (.int (f1 + f2)), .val (.int ((f1 + f2) + f3)), .val (.int d1), .val (.int (d1 + d2)), .unset, .unset, .unset, .unset] [(.int (13 : Int32)), (.int x2), (.int (d1 + d2))])) t := by
    intro t k
    show Steps p.tables e below (T30.setTop (mkF m 195 #[.val (.int a), .val (.int b), .val (.int c_), .val (.int d), .val (.int p_), .val (.int x1), .val (.int x2), .val (.int x3), .val (.int r1), .val (.int (r1 + r2)), .val (.int ((r1 + r2) + r3)), .val (.int f1), .val (.int (f1 + f2)), .val (.int ((f1 + f2) + f3)), .val (.int d1), .val (.int (d1 + d2)), .unset, .unset, .unset, .unset] [(.int (13 : Int32)), (.int x2), (.int (d1 + d2))])) _
    by_cases hd195_32 : x2 = (13 : Int32)
    · skip
      refine XS.icmpNo X30.here hx rfl (hb hby at_195) rfl (teq hd195_32).2 ?_
      show Steps p.tables e below (T30.setTop (mkF m 198 #[.val (.int a), .val (.int b), .val (.int c_), .val (.int d), .val (.int p_), .val (.int x1), .val (.int x2), .val (.int x3), .val (.int r1), .val (.int (r1 + r2)), .val (.int ((r1 + r2) + r3)), .val (.int f1), .val (.int (f1 + f2)), .val (.int ((f1 + f2) + f3)), .val (.int d1), .val (.int (d1 + d2)), .unset, .unset, .unset, .unset] [(.int (d1 + d2))])) _
      refine XS.iload X30.here hx rfl (hb hby at_198) rfl  ?_
      show Steps p.tables e below (T30.setTop (mkF m 200 #[.val (.int a), .val (.int b), .val (.int c_), .val (.int d), .val (.int p_), .val (.int x1), .val (.int x2), .val (.int x3), .val (.int r1), .val (.int (r1 + r2)), .val (.int ((r1 + r2) + r3)), .val (.int f1), .val (.int (f1 + f2)), .val (.int ((f1 + f2) + f3)), .val (.int d1), .val (.int (d1 + d2)), .unset, .unset, .unset, .unset] [(.int x3), (.int (d1 + d2))])) _
      refine XS.bipush X30.here hx rfl (hb hby at_200) ?_
      show Steps p.tables e below (T30.setTop (mkF m 202 #[.val (.int a), .val (.int b), .val (.int c_), .val (.int d), .val (.int p_), .val (.int x1), .val (.int x2), .val (.int x3), .val (.int r1), .val (.int (r1 + r2)), .val (.int ((r1 + r2) + r3)), .val (.int f1), .val (.int (f1 + f2)), .val (.int ((f1 + f2) + f3)), .val (.int d1), .val (.int (d1 + d2)), .unset, .unset, .unset, .unset] [(.int (10 : Int32)), (.int x3), (.int (d1 + d2))])) _
      by_cases hd202_33 : x3 = (10 : Int32)
      · skip
        refine XS.icmpNo X30.here hx rfl (hb hby at_202) rfl (teq hd202_33).2 ?_
        show Steps p.tables e below (T30.setTop (mkF m 205 #[.val (.int a), .val (.int b), .val (.int c_), .val (.int d), .val (.int p_), .val (.int x1), .val (.int x2), .val (.int x3), .val (.int r1), .val (.int (r1 + r2)), .val (.int ((r1 + r2) + r3)), .val (.int f1), .val (.int (f1 + f2)), .val (.int ((f1 + f2) + f3)), .val (.int d1), .val (.int (d1 + d2)), .unset, .unset, .unset, .unset] [(.int (d1 + d2))])) _
        refine XS.iconst X30.here hx rfl (hb hby at_205) ?_
        show Steps p.tables e below (T30.setTop (mkF m 206 #[.val (.int a), .val (.int b), .val (.int c_), .val (.int d), .val (.int p_), .val (.int x1), .val (.int x2), .val (.int x3), .val (.int r1), .val (.int (r1 + r2)), .val (.int ((r1 + r2) + r3)), .val (.int f1), .val (.int (f1 + f2)), .val (.int ((f1 + f2) + f3)), .val (.int d1), .val (.int (d1 + d2)), .unset, .unset, .unset, .unset] [(.int (1 : Int32)), (.int (d1 + d2))])) _
        refine XS.goto X30.here hx rfl (pc0 := 206) (pc' := 210) rfl (hb hby at_206) (by decide) (by decide) ?_
        show Steps p.tables e below (T30.setTop (mkF m 210 #[.val (.int a), .val (.int b), .val (.int c_), .val (.int d), .val (.int p_), .val (.int x1), .val (.int x2), .val (.int x3), .val (.int r1), .val (.int (r1 + r2)), .val (.int ((r1 + r2) + r3)), .val (.int f1), .val (.int (f1 + f2)), .val (.int ((f1 + f2) + f3)), .val (.int d1), .val (.int (d1 + d2)), .unset, .unset, .unset, .unset] [(.int (1 : Int32)), (.int (d1 + d2))])) _
        simp only [if_pos hd195_32, if_pos hd202_33] at k
        exact k
      · skip
        refine XS.icmpYes X30.here hx rfl (pc0 := 202) (pc' := 209) rfl (hb hby at_202) rfl (feq hd202_33).2 (by decide) (by decide) ?_
        show Steps p.tables e below (T30.setTop (mkF m 209 #[.val (.int a), .val (.int b), .val (.int c_), .val (.int d), .val (.int p_), .val (.int x1), .val (.int x2), .val (.int x3), .val (.int r1), .val (.int (r1 + r2)), .val (.int ((r1 + r2) + r3)), .val (.int f1), .val (.int (f1 + f2)), .val (.int ((f1 + f2) + f3)), .val (.int d1), .val (.int (d1 + d2)), .unset, .unset, .unset, .unset] [(.int (d1 + d2))])) _
        refine XS.iconst X30.here hx rfl (hb hby at_209) ?_
        show Steps p.tables e below (T30.setTop (mkF m 210 #[.val (.int a), .val (.int b), .val (.int c_), .val (.int d), .val (.int p_), .val (.int x1), .val (.int x2), .val (.int x3), .val (.int r1), .val (.int (r1 + r2)), .val (.int ((r1 + r2) + r3)), .val (.int f1), .val (.int (f1 + f2)), .val (.int ((f1 + f2) + f3)), .val (.int d1), .val (.int (d1 + d2)), .unset, .unset, .unset, .unset] [(.int (0 : Int32)), (.int (d1 + d2))])) _
        simp only [if_pos hd195_32, if_neg hd202_33] at k
        exact k
    · skip
      refine XS.icmpYes X30.here hx rfl (pc0 := 195) (pc' := 209) rfl (hb hby at_195) rfl (feq hd195_32).2 (by decide) (by decide) ?_
      show Steps p.tables e below (T30.setTop (mkF m 209 #[.val (.int a), .val (.int b), .val (.int c_), .val (.int d), .val (.int p_), .val (.int x1), .val (.int x2), .val (.int x3), .val (.int r1), .val (.int (r1 + r2)), .val (.int ((r1 + r2) + r3)), .val (.int f1), .val (.int (f1 + f2)), .val (.int ((f1 + f2) + f3)), .val (.int d1), .val (.int (d1 + d2)), .unset, .unset, .unset, .unset] [(.int (d1 + d2))])) _
      refine XS.iconst X30.here hx rfl (hb hby at_209) ?_
      show Steps p.tables e below (T30.setTop (mkF m 210 #[.val (.int a), .val (.int b), .val (.int c_), .val (.int d), .val (.int p_), .val (.int x1), .val (.int x2), .val (.int x3), .val (.int r1), .val (.int (r1 + r2)), .val (.int ((r1 + r2) + r3)), .val (.int f1), .val (.int (f1 + f2)), .val (.int ((f1 + f2) + f3)), .val (.int d1), .val (.int (d1 + d2)), .unset, .unset, .unset, .unset] [(.int (0 : Int32)), (.int (d1 + d2))])) _
      simp only [if_neg hd195_32] at k
      exact k
  refine Gl.go (fun _ k => D195_31 _ k) ?_
  show Gl p.tables e below (QQof s (Q_law Z a b c_ d h0 n0) 0 0) (T30.setTop (mkF m 210 #[.val (.int a), .val (.int b), .val (.int c_), .val (.int d), .val (.int p_), .val (.int x1), .val (.int x2), .val (.int x3), .val (.int r1), .val (.int (r1 + r2)), .val (.int ((r1 + r2) + r3)), .val (.int f1), .val (.int (f1 + f2)), .val (.int ((f1 + f2) + f3)), .val (.int d1), .val (.int (d1 + d2)), .unset, .unset, .unset, .unset] [(.int (if x2 = (13 : Int32) then (if x3 = (10 : Int32) then (1 : Int32) else (0 : Int32)) else (0 : Int32))), (.int (d1 + d2))]))
  show Gl p.tables e below (QQof s (Q_law Z a b c_ d h0 n0) 0 0) (T30.setTop (mkF m 210 #[.val (.int a), .val (.int b), .val (.int c_), .val (.int d), .val (.int p_), .val (.int x1), .val (.int x2), .val (.int x3), .val (.int r1), .val (.int (r1 + r2)), .val (.int ((r1 + r2) + r3)), .val (.int f1), .val (.int (f1 + f2)), .val (.int ((f1 + f2) + f3)), .val (.int d1), .val (.int (d1 + d2)), .unset, .unset, .unset, .unset] [(.int (eq2V x2 (13 : Int32) x3 (10 : Int32))), (.int (d1 + d2))]))
  obtain ⟨_, _, ⟨T34, L34, k34, n34⟩, -, X34, ⟨Lc34, hQ34, l34, y34, z34⟩, st34⟩ := Jvm.LawKit.callS X30 hx (y := (⟨"com/example/kontraktor/kontraktor/cli/InputFileBeginsLineBreakPinLaw", "one", "(Z)I"⟩ : MethodName)) hown (mvT hZ (hw _ (List.mem_of_getElem? (i := 5) rfl))) (mvT hZ (hw _ (List.mem_of_getElem? (i := 6) rfl))) (mvT hZ (hw _ (List.mem_of_getElem? (i := 2) rfl))) (mvT hZ (hw _ (List.mem_of_getElem? (i := 7) rfl))) (by decide) (backOf (W := 1) (rm_one l Z a0 hw [] (eq2V x2 (13 : Int32) x3 (10 : Int32)) h0 n0 Z0 ) hZ (hw _ (List.mem_of_getElem? (i := 7) rfl)) (hw _ (List.mem_of_getElem? (i := 2) rfl)) (by decide) (by decide)) (g := (mkF m 210 #[.val (.int a), .val (.int b), .val (.int c_), .val (.int d), .val (.int p_), .val (.int x1), .val (.int x2), .val (.int x3), .val (.int r1), .val (.int (r1 + r2)), .val (.int ((r1 + r2) + r3)), .val (.int f1), .val (.int (f1 + f2)), .val (.int ((f1 + f2) + f3)), .val (.int d1), .val (.int (d1 + d2)), .unset, .unset, .unset, .unset] [(.int (eq2V x2 (13 : Int32) x3 (10 : Int32))), (.int (d1 + d2))])) rfl (by rw [hml]; rfl) (argsL := [(.int (eq2V x2 (13 : Int32) x3 (10 : Int32)))]) (rest := [(.int (d1 + d2))]) (lenOf pd_1 rfl) rfl (by show 2 * 0 + _ ≤ _; exact Nat.le_of_eq rfl) (hb hby at_210) (fun _ _ => ⟨rfl, e30, (by decide : 0 + 0 ≤ _), (by decide : 0 + 0 ≤ _)⟩)
  dsimp only [Pt.U, Pt.locs, Pt.cells, Pt.slots] at X34 l34 y34 z34 st34 hQ34
  subst l34 y34 z34
  obtain ⟨rfl, Nq34, e34⟩ := hQ34
  have N34 := Fr.app N30 Nq34
  refine Gl.go (fun _ k => st34 _ k) ?_
  show Gl p.tables e below (QQof s (Q_law Z a b c_ d h0 n0) 0 0) (T34.setTop (mkF m 213 #[.val (.int a), .val (.int b), .val (.int c_), .val (.int d), .val (.int p_), .val (.int x1), .val (.int x2), .val (.int x3), .val (.int r1), .val (.int (r1 + r2)), .val (.int ((r1 + r2) + r3)), .val (.int f1), .val (.int (f1 + f2)), .val (.int ((f1 + f2) + f3)), .val (.int d1), .val (.int (d1 + d2)), .unset, .unset, .unset, .unset] [(.int (oneV (eq2V x2 (13 : Int32) x3 (10 : Int32)))), (.int (d1 + d2))]))
  generalize h_d3 : (oneV (eq2V x2 (13 : Int32) x3 (10 : Int32))) = d3
  show Gl p.tables e below (QQof s (Q_law Z a b c_ d h0 n0) 0 0) (T34.setTop (mkF m 213 #[.val (.int a), .val (.int b), .val (.int c_), .val (.int d), .val (.int p_), .val (.int x1), .val (.int x2), .val (.int x3), .val (.int r1), .val (.int (r1 + r2)), .val (.int ((r1 + r2) + r3)), .val (.int f1), .val (.int (f1 + f2)), .val (.int ((f1 + f2) + f3)), .val (.int d1), .val (.int (d1 + d2)), .unset, .unset, .unset, .unset] [(.int d3), (.int (d1 + d2))]))
  refine Gl.go (fun _ k => XS.iadd X34.here hx rfl (hb hby at_213) rfl k) ?_
  show Gl p.tables e below (QQof s (Q_law Z a b c_ d h0 n0) 0 0) (T34.setTop (mkF m 214 #[.val (.int a), .val (.int b), .val (.int c_), .val (.int d), .val (.int p_), .val (.int x1), .val (.int x2), .val (.int x3), .val (.int r1), .val (.int (r1 + r2)), .val (.int ((r1 + r2) + r3)), .val (.int f1), .val (.int (f1 + f2)), .val (.int ((f1 + f2) + f3)), .val (.int d1), .val (.int (d1 + d2)), .unset, .unset, .unset, .unset] [(.int ((d1 + d2) + d3))]))
  refine Gl.go (fun _ k => XS.istore X34.here hx rfl (hb hby at_214) rfl (l' := #[.val (.int a), .val (.int b), .val (.int c_), .val (.int d), .val (.int p_), .val (.int x1), .val (.int x2), .val (.int x3), .val (.int r1), .val (.int (r1 + r2)), .val (.int ((r1 + r2) + r3)), .val (.int f1), .val (.int (f1 + f2)), .val (.int ((f1 + f2) + f3)), .val (.int d1), .val (.int (d1 + d2)), .val (.int ((d1 + d2) + d3)), .unset, .unset, .unset]) rfl k) ?_
  show Gl p.tables e below (QQof s (Q_law Z a b c_ d h0 n0) 0 0) (T34.setTop (mkF m 216 #[.val (.int a), .val (.int b), .val (.int c_), .val (.int d), .val (.int p_), .val (.int x1), .val (.int x2), .val (.int x3), .val (.int r1), .val (.int (r1 + r2)), .val (.int ((r1 + r2) + r3)), .val (.int f1), .val (.int (f1 + f2)), .val (.int ((f1 + f2) + f3)), .val (.int d1), .val (.int (d1 + d2)), .val (.int ((d1 + d2) + d3)), .unset, .unset, .unset] []))
  refine Gl.go (fun _ k => XS.iload X34.here hx rfl (hb hby at_216) rfl  k) ?_
  show Gl p.tables e below (QQof s (Q_law Z a b c_ d h0 n0) 0 0) (T34.setTop (mkF m 218 #[.val (.int a), .val (.int b), .val (.int c_), .val (.int d), .val (.int p_), .val (.int x1), .val (.int x2), .val (.int x3), .val (.int r1), .val (.int (r1 + r2)), .val (.int ((r1 + r2) + r3)), .val (.int f1), .val (.int (f1 + f2)), .val (.int ((f1 + f2) + f3)), .val (.int d1), .val (.int (d1 + d2)), .val (.int ((d1 + d2) + d3)), .unset, .unset, .unset] [(.int p_)]))
  refine Gl.go (fun _ k => XS.iload X34.here hx rfl (hb hby at_218) rfl  k) ?_
  show Gl p.tables e below (QQof s (Q_law Z a b c_ d h0 n0) 0 0) (T34.setTop (mkF m 220 #[.val (.int a), .val (.int b), .val (.int c_), .val (.int d), .val (.int p_), .val (.int x1), .val (.int x2), .val (.int x3), .val (.int r1), .val (.int (r1 + r2)), .val (.int ((r1 + r2) + r3)), .val (.int f1), .val (.int (f1 + f2)), .val (.int ((f1 + f2) + f3)), .val (.int d1), .val (.int (d1 + d2)), .val (.int ((d1 + d2) + d3)), .unset, .unset, .unset] [(.int x1), (.int p_)]))
  obtain ⟨_, _, ⟨T35, L35, k35, n35⟩, -, X35, ⟨Lc35, hQ35, l35, y35, z35⟩, st35⟩ := Jvm.LawKit.callS X34 hx (y := (⟨"com/example/kontraktor/kontraktor/cli/InputFile", "beginsLineBreak", "(CC)Z"⟩ : MethodName)) hown (mvT hZ (hw _ (List.mem_of_getElem? (i := 8) rfl))) (mvT hZ (hw _ (List.mem_of_getElem? (i := 9) rfl))) (mvT hZ (hw _ (List.mem_of_getElem? (i := 10) rfl))) (mvT hZ (hw _ (List.mem_of_getElem? (i := 11) rfl))) (by decide) (backOf (W := 0) (rm_br l Z a0 hw [] p_ x1 h0 n0 Z0 ) hZ (hw _ (List.mem_of_getElem? (i := 11) rfl)) (hw _ (List.mem_of_getElem? (i := 10) rfl)) (by decide) (by decide)) (g := (mkF m 220 #[.val (.int a), .val (.int b), .val (.int c_), .val (.int d), .val (.int p_), .val (.int x1), .val (.int x2), .val (.int x3), .val (.int r1), .val (.int (r1 + r2)), .val (.int ((r1 + r2) + r3)), .val (.int f1), .val (.int (f1 + f2)), .val (.int ((f1 + f2) + f3)), .val (.int d1), .val (.int (d1 + d2)), .val (.int ((d1 + d2) + d3)), .unset, .unset, .unset] [(.int x1), (.int p_)])) rfl (by rw [hml]; rfl) (argsL := [(.int p_), (.int x1)]) (rest := []) (lenOf pd_2 rfl) rfl (by show 2 * 0 + _ ≤ _; exact Nat.le_of_eq rfl) (hb hby at_220) (fun _ _ => ⟨rfl, e34, (by decide : 0 + 0 ≤ _), (by decide : 0 + 0 ≤ _)⟩)
  dsimp only [Pt.U, Pt.locs, Pt.cells, Pt.slots] at X35 l35 y35 z35 st35 hQ35
  subst l35 y35 z35
  obtain ⟨rfl, Nq35, e35⟩ := hQ35
  have N35 := Fr.app N34 Nq35
  refine Gl.go (fun _ k => st35 _ k) ?_
  show Gl p.tables e below (QQof s (Q_law Z a b c_ d h0 n0) 0 0) (T35.setTop (mkF m 223 #[.val (.int a), .val (.int b), .val (.int c_), .val (.int d), .val (.int p_), .val (.int x1), .val (.int x2), .val (.int x3), .val (.int r1), .val (.int (r1 + r2)), .val (.int ((r1 + r2) + r3)), .val (.int f1), .val (.int (f1 + f2)), .val (.int ((f1 + f2) + f3)), .val (.int d1), .val (.int (d1 + d2)), .val (.int ((d1 + d2) + d3)), .unset, .unset, .unset] [(.int (brV p_ x1))]))
  obtain ⟨_, _, ⟨T36, L36, k36, n36⟩, -, X36, ⟨Lc36, hQ36, l36, y36, z36⟩, st36⟩ := Jvm.LawKit.callS X35 hx (y := (⟨"com/example/kontraktor/kontraktor/cli/InputFileBeginsLineBreakPinLaw", "one", "(Z)I"⟩ : MethodName)) hown (mvT hZ (hw _ (List.mem_of_getElem? (i := 5) rfl))) (mvT hZ (hw _ (List.mem_of_getElem? (i := 6) rfl))) (mvT hZ (hw _ (List.mem_of_getElem? (i := 2) rfl))) (mvT hZ (hw _ (List.mem_of_getElem? (i := 7) rfl))) (by decide) (backOf (W := 0) (rm_one l Z a0 hw [] (brV p_ x1) h0 n0 Z0 ) hZ (hw _ (List.mem_of_getElem? (i := 7) rfl)) (hw _ (List.mem_of_getElem? (i := 2) rfl)) (by decide) (by decide)) (g := (mkF m 223 #[.val (.int a), .val (.int b), .val (.int c_), .val (.int d), .val (.int p_), .val (.int x1), .val (.int x2), .val (.int x3), .val (.int r1), .val (.int (r1 + r2)), .val (.int ((r1 + r2) + r3)), .val (.int f1), .val (.int (f1 + f2)), .val (.int ((f1 + f2) + f3)), .val (.int d1), .val (.int (d1 + d2)), .val (.int ((d1 + d2) + d3)), .unset, .unset, .unset] [(.int (brV p_ x1))])) rfl (by rw [hml]; rfl) (argsL := [(.int (brV p_ x1))]) (rest := []) (lenOf pd_1 rfl) rfl (by show 2 * 0 + _ ≤ _; exact Nat.le_of_eq rfl) (hb hby at_223) (fun _ _ => ⟨rfl, e35, (by decide : 0 + 0 ≤ _), (by decide : 0 + 0 ≤ _)⟩)
  dsimp only [Pt.U, Pt.locs, Pt.cells, Pt.slots] at X36 l36 y36 z36 st36 hQ36
  subst l36 y36 z36
  obtain ⟨rfl, Nq36, e36⟩ := hQ36
  have N36 := Fr.app N35 Nq36
  refine Gl.go (fun _ k => st36 _ k) ?_
  show Gl p.tables e below (QQof s (Q_law Z a b c_ d h0 n0) 0 0) (T36.setTop (mkF m 226 #[.val (.int a), .val (.int b), .val (.int c_), .val (.int d), .val (.int p_), .val (.int x1), .val (.int x2), .val (.int x3), .val (.int r1), .val (.int (r1 + r2)), .val (.int ((r1 + r2) + r3)), .val (.int f1), .val (.int (f1 + f2)), .val (.int ((f1 + f2) + f3)), .val (.int d1), .val (.int (d1 + d2)), .val (.int ((d1 + d2) + d3)), .unset, .unset, .unset] [(.int (oneV (brV p_ x1)))]))
  generalize h_b1 : (oneV (brV p_ x1)) = b1
  show Gl p.tables e below (QQof s (Q_law Z a b c_ d h0 n0) 0 0) (T36.setTop (mkF m 226 #[.val (.int a), .val (.int b), .val (.int c_), .val (.int d), .val (.int p_), .val (.int x1), .val (.int x2), .val (.int x3), .val (.int r1), .val (.int (r1 + r2)), .val (.int ((r1 + r2) + r3)), .val (.int f1), .val (.int (f1 + f2)), .val (.int ((f1 + f2) + f3)), .val (.int d1), .val (.int (d1 + d2)), .val (.int ((d1 + d2) + d3)), .unset, .unset, .unset] [(.int b1)]))
  refine Gl.go (fun _ k => XS.istore X36.here hx rfl (hb hby at_226) rfl (l' := #[.val (.int a), .val (.int b), .val (.int c_), .val (.int d), .val (.int p_), .val (.int x1), .val (.int x2), .val (.int x3), .val (.int r1), .val (.int (r1 + r2)), .val (.int ((r1 + r2) + r3)), .val (.int f1), .val (.int (f1 + f2)), .val (.int ((f1 + f2) + f3)), .val (.int d1), .val (.int (d1 + d2)), .val (.int ((d1 + d2) + d3)), .val (.int b1), .unset, .unset]) rfl k) ?_
  show Gl p.tables e below (QQof s (Q_law Z a b c_ d h0 n0) 0 0) (T36.setTop (mkF m 228 #[.val (.int a), .val (.int b), .val (.int c_), .val (.int d), .val (.int p_), .val (.int x1), .val (.int x2), .val (.int x3), .val (.int r1), .val (.int (r1 + r2)), .val (.int ((r1 + r2) + r3)), .val (.int f1), .val (.int (f1 + f2)), .val (.int ((f1 + f2) + f3)), .val (.int d1), .val (.int (d1 + d2)), .val (.int ((d1 + d2) + d3)), .val (.int b1), .unset, .unset] []))
  refine Gl.go (fun _ k => XS.iload X36.here hx rfl (hb hby at_228) rfl  k) ?_
  show Gl p.tables e below (QQof s (Q_law Z a b c_ d h0 n0) 0 0) (T36.setTop (mkF m 230 #[.val (.int a), .val (.int b), .val (.int c_), .val (.int d), .val (.int p_), .val (.int x1), .val (.int x2), .val (.int x3), .val (.int r1), .val (.int (r1 + r2)), .val (.int ((r1 + r2) + r3)), .val (.int f1), .val (.int (f1 + f2)), .val (.int ((f1 + f2) + f3)), .val (.int d1), .val (.int (d1 + d2)), .val (.int ((d1 + d2) + d3)), .val (.int b1), .unset, .unset] [(.int b1)]))
  refine Gl.go (fun _ k => XS.iload X36.here hx rfl (hb hby at_230) rfl  k) ?_
  show Gl p.tables e below (QQof s (Q_law Z a b c_ d h0 n0) 0 0) (T36.setTop (mkF m 232 #[.val (.int a), .val (.int b), .val (.int c_), .val (.int d), .val (.int p_), .val (.int x1), .val (.int x2), .val (.int x3), .val (.int r1), .val (.int (r1 + r2)), .val (.int ((r1 + r2) + r3)), .val (.int f1), .val (.int (f1 + f2)), .val (.int ((f1 + f2) + f3)), .val (.int d1), .val (.int (d1 + d2)), .val (.int ((d1 + d2) + d3)), .val (.int b1), .unset, .unset] [(.int x1), (.int b1)]))
  refine Gl.go (fun _ k => XS.iload X36.here hx rfl (hb hby at_232) rfl  k) ?_
  show Gl p.tables e below (QQof s (Q_law Z a b c_ d h0 n0) 0 0) (T36.setTop (mkF m 234 #[.val (.int a), .val (.int b), .val (.int c_), .val (.int d), .val (.int p_), .val (.int x1), .val (.int x2), .val (.int x3), .val (.int r1), .val (.int (r1 + r2)), .val (.int ((r1 + r2) + r3)), .val (.int f1), .val (.int (f1 + f2)), .val (.int ((f1 + f2) + f3)), .val (.int d1), .val (.int (d1 + d2)), .val (.int ((d1 + d2) + d3)), .val (.int b1), .unset, .unset] [(.int x2), (.int x1), (.int b1)]))
  obtain ⟨_, _, ⟨T37, L37, k37, n37⟩, -, X37, ⟨Lc37, hQ37, l37, y37, z37⟩, st37⟩ := Jvm.LawKit.callS X36 hx (y := (⟨"com/example/kontraktor/kontraktor/cli/InputFile", "beginsLineBreak", "(CC)Z"⟩ : MethodName)) hown (mvT hZ (hw _ (List.mem_of_getElem? (i := 8) rfl))) (mvT hZ (hw _ (List.mem_of_getElem? (i := 9) rfl))) (mvT hZ (hw _ (List.mem_of_getElem? (i := 10) rfl))) (mvT hZ (hw _ (List.mem_of_getElem? (i := 11) rfl))) (by decide) (backOf (W := 1) (rm_br l Z a0 hw [] x1 x2 h0 n0 Z0 ) hZ (hw _ (List.mem_of_getElem? (i := 11) rfl)) (hw _ (List.mem_of_getElem? (i := 10) rfl)) (by decide) (by decide)) (g := (mkF m 234 #[.val (.int a), .val (.int b), .val (.int c_), .val (.int d), .val (.int p_), .val (.int x1), .val (.int x2), .val (.int x3), .val (.int r1), .val (.int (r1 + r2)), .val (.int ((r1 + r2) + r3)), .val (.int f1), .val (.int (f1 + f2)), .val (.int ((f1 + f2) + f3)), .val (.int d1), .val (.int (d1 + d2)), .val (.int ((d1 + d2) + d3)), .val (.int b1), .unset, .unset] [(.int x2), (.int x1), (.int b1)])) rfl (by rw [hml]; rfl) (argsL := [(.int x1), (.int x2)]) (rest := [(.int b1)]) (lenOf pd_2 rfl) rfl (by show 2 * 0 + _ ≤ _; exact Nat.le_of_eq rfl) (hb hby at_234) (fun _ _ => ⟨rfl, e36, (by decide : 0 + 0 ≤ _), (by decide : 0 + 0 ≤ _)⟩)
  dsimp only [Pt.U, Pt.locs, Pt.cells, Pt.slots] at X37 l37 y37 z37 st37 hQ37
  subst l37 y37 z37
  obtain ⟨rfl, Nq37, e37⟩ := hQ37
  have N37 := Fr.app N36 Nq37
  refine Gl.go (fun _ k => st37 _ k) ?_
  show Gl p.tables e below (QQof s (Q_law Z a b c_ d h0 n0) 0 0) (T37.setTop (mkF m 237 #[.val (.int a), .val (.int b), .val (.int c_), .val (.int d), .val (.int p_), .val (.int x1), .val (.int x2), .val (.int x3), .val (.int r1), .val (.int (r1 + r2)), .val (.int ((r1 + r2) + r3)), .val (.int f1), .val (.int (f1 + f2)), .val (.int ((f1 + f2) + f3)), .val (.int d1), .val (.int (d1 + d2)), .val (.int ((d1 + d2) + d3)), .val (.int b1), .unset, .unset] [(.int (brV x1 x2)), (.int b1)]))
  obtain ⟨_, _, ⟨T38, L38, k38, n38⟩, -, X38, ⟨Lc38, hQ38, l38, y38, z38⟩, st38⟩ := Jvm.LawKit.callS X37 hx (y := (⟨"com/example/kontraktor/kontraktor/cli/InputFileBeginsLineBreakPinLaw", "one", "(Z)I"⟩ : MethodName)) hown (mvT hZ (hw _ (List.mem_of_getElem? (i := 5) rfl))) (mvT hZ (hw _ (List.mem_of_getElem? (i := 6) rfl))) (mvT hZ (hw _ (List.mem_of_getElem? (i := 2) rfl))) (mvT hZ (hw _ (List.mem_of_getElem? (i := 7) rfl))) (by decide) (backOf (W := 1) (rm_one l Z a0 hw [] (brV x1 x2) h0 n0 Z0 ) hZ (hw _ (List.mem_of_getElem? (i := 7) rfl)) (hw _ (List.mem_of_getElem? (i := 2) rfl)) (by decide) (by decide)) (g := (mkF m 237 #[.val (.int a), .val (.int b), .val (.int c_), .val (.int d), .val (.int p_), .val (.int x1), .val (.int x2), .val (.int x3), .val (.int r1), .val (.int (r1 + r2)), .val (.int ((r1 + r2) + r3)), .val (.int f1), .val (.int (f1 + f2)), .val (.int ((f1 + f2) + f3)), .val (.int d1), .val (.int (d1 + d2)), .val (.int ((d1 + d2) + d3)), .val (.int b1), .unset, .unset] [(.int (brV x1 x2)), (.int b1)])) rfl (by rw [hml]; rfl) (argsL := [(.int (brV x1 x2))]) (rest := [(.int b1)]) (lenOf pd_1 rfl) rfl (by show 2 * 0 + _ ≤ _; exact Nat.le_of_eq rfl) (hb hby at_237) (fun _ _ => ⟨rfl, e37, (by decide : 0 + 0 ≤ _), (by decide : 0 + 0 ≤ _)⟩)
  dsimp only [Pt.U, Pt.locs, Pt.cells, Pt.slots] at X38 l38 y38 z38 st38 hQ38
  subst l38 y38 z38
  obtain ⟨rfl, Nq38, e38⟩ := hQ38
  have N38 := Fr.app N37 Nq38
  refine Gl.go (fun _ k => st38 _ k) ?_
  show Gl p.tables e below (QQof s (Q_law Z a b c_ d h0 n0) 0 0) (T38.setTop (mkF m 240 #[.val (.int a), .val (.int b), .val (.int c_), .val (.int d), .val (.int p_), .val (.int x1), .val (.int x2), .val (.int x3), .val (.int r1), .val (.int (r1 + r2)), .val (.int ((r1 + r2) + r3)), .val (.int f1), .val (.int (f1 + f2)), .val (.int ((f1 + f2) + f3)), .val (.int d1), .val (.int (d1 + d2)), .val (.int ((d1 + d2) + d3)), .val (.int b1), .unset, .unset] [(.int (oneV (brV x1 x2))), (.int b1)]))
  generalize h_b2 : (oneV (brV x1 x2)) = b2
  show Gl p.tables e below (QQof s (Q_law Z a b c_ d h0 n0) 0 0) (T38.setTop (mkF m 240 #[.val (.int a), .val (.int b), .val (.int c_), .val (.int d), .val (.int p_), .val (.int x1), .val (.int x2), .val (.int x3), .val (.int r1), .val (.int (r1 + r2)), .val (.int ((r1 + r2) + r3)), .val (.int f1), .val (.int (f1 + f2)), .val (.int ((f1 + f2) + f3)), .val (.int d1), .val (.int (d1 + d2)), .val (.int ((d1 + d2) + d3)), .val (.int b1), .unset, .unset] [(.int b2), (.int b1)]))
  refine Gl.go (fun _ k => XS.iadd X38.here hx rfl (hb hby at_240) rfl k) ?_
  show Gl p.tables e below (QQof s (Q_law Z a b c_ d h0 n0) 0 0) (T38.setTop (mkF m 241 #[.val (.int a), .val (.int b), .val (.int c_), .val (.int d), .val (.int p_), .val (.int x1), .val (.int x2), .val (.int x3), .val (.int r1), .val (.int (r1 + r2)), .val (.int ((r1 + r2) + r3)), .val (.int f1), .val (.int (f1 + f2)), .val (.int ((f1 + f2) + f3)), .val (.int d1), .val (.int (d1 + d2)), .val (.int ((d1 + d2) + d3)), .val (.int b1), .unset, .unset] [(.int (b1 + b2))]))
  refine Gl.go (fun _ k => XS.istore X38.here hx rfl (hb hby at_241) rfl (l' := #[.val (.int a), .val (.int b), .val (.int c_), .val (.int d), .val (.int p_), .val (.int x1), .val (.int x2), .val (.int x3), .val (.int r1), .val (.int (r1 + r2)), .val (.int ((r1 + r2) + r3)), .val (.int f1), .val (.int (f1 + f2)), .val (.int ((f1 + f2) + f3)), .val (.int d1), .val (.int (d1 + d2)), .val (.int ((d1 + d2) + d3)), .val (.int b1), .val (.int (b1 + b2)), .unset]) rfl k) ?_
  show Gl p.tables e below (QQof s (Q_law Z a b c_ d h0 n0) 0 0) (T38.setTop (mkF m 243 #[.val (.int a), .val (.int b), .val (.int c_), .val (.int d), .val (.int p_), .val (.int x1), .val (.int x2), .val (.int x3), .val (.int r1), .val (.int (r1 + r2)), .val (.int ((r1 + r2) + r3)), .val (.int f1), .val (.int (f1 + f2)), .val (.int ((f1 + f2) + f3)), .val (.int d1), .val (.int (d1 + d2)), .val (.int ((d1 + d2) + d3)), .val (.int b1), .val (.int (b1 + b2)), .unset] []))
  refine Gl.go (fun _ k => XS.iload X38.here hx rfl (hb hby at_243) rfl  k) ?_
  show Gl p.tables e below (QQof s (Q_law Z a b c_ d h0 n0) 0 0) (T38.setTop (mkF m 245 #[.val (.int a), .val (.int b), .val (.int c_), .val (.int d), .val (.int p_), .val (.int x1), .val (.int x2), .val (.int x3), .val (.int r1), .val (.int (r1 + r2)), .val (.int ((r1 + r2) + r3)), .val (.int f1), .val (.int (f1 + f2)), .val (.int ((f1 + f2) + f3)), .val (.int d1), .val (.int (d1 + d2)), .val (.int ((d1 + d2) + d3)), .val (.int b1), .val (.int (b1 + b2)), .unset] [(.int (b1 + b2))]))
  refine Gl.go (fun _ k => XS.iload X38.here hx rfl (hb hby at_245) rfl  k) ?_
  show Gl p.tables e below (QQof s (Q_law Z a b c_ d h0 n0) 0 0) (T38.setTop (mkF m 247 #[.val (.int a), .val (.int b), .val (.int c_), .val (.int d), .val (.int p_), .val (.int x1), .val (.int x2), .val (.int x3), .val (.int r1), .val (.int (r1 + r2)), .val (.int ((r1 + r2) + r3)), .val (.int f1), .val (.int (f1 + f2)), .val (.int ((f1 + f2) + f3)), .val (.int d1), .val (.int (d1 + d2)), .val (.int ((d1 + d2) + d3)), .val (.int b1), .val (.int (b1 + b2)), .unset] [(.int x2), (.int (b1 + b2))]))
  refine Gl.go (fun _ k => XS.iload X38.here hx rfl (hb hby at_247) rfl  k) ?_
  show Gl p.tables e below (QQof s (Q_law Z a b c_ d h0 n0) 0 0) (T38.setTop (mkF m 249 #[.val (.int a), .val (.int b), .val (.int c_), .val (.int d), .val (.int p_), .val (.int x1), .val (.int x2), .val (.int x3), .val (.int r1), .val (.int (r1 + r2)), .val (.int ((r1 + r2) + r3)), .val (.int f1), .val (.int (f1 + f2)), .val (.int ((f1 + f2) + f3)), .val (.int d1), .val (.int (d1 + d2)), .val (.int ((d1 + d2) + d3)), .val (.int b1), .val (.int (b1 + b2)), .unset] [(.int x3), (.int x2), (.int (b1 + b2))]))
  obtain ⟨_, _, ⟨T39, L39, k39, n39⟩, -, X39, ⟨Lc39, hQ39, l39, y39, z39⟩, st39⟩ := Jvm.LawKit.callS X38 hx (y := (⟨"com/example/kontraktor/kontraktor/cli/InputFile", "beginsLineBreak", "(CC)Z"⟩ : MethodName)) hown (mvT hZ (hw _ (List.mem_of_getElem? (i := 8) rfl))) (mvT hZ (hw _ (List.mem_of_getElem? (i := 9) rfl))) (mvT hZ (hw _ (List.mem_of_getElem? (i := 10) rfl))) (mvT hZ (hw _ (List.mem_of_getElem? (i := 11) rfl))) (by decide) (backOf (W := 1) (rm_br l Z a0 hw [] x2 x3 h0 n0 Z0 ) hZ (hw _ (List.mem_of_getElem? (i := 11) rfl)) (hw _ (List.mem_of_getElem? (i := 10) rfl)) (by decide) (by decide)) (g := (mkF m 249 #[.val (.int a), .val (.int b), .val (.int c_), .val (.int d), .val (.int p_), .val (.int x1), .val (.int x2), .val (.int x3), .val (.int r1), .val (.int (r1 + r2)), .val (.int ((r1 + r2) + r3)), .val (.int f1), .val (.int (f1 + f2)), .val (.int ((f1 + f2) + f3)), .val (.int d1), .val (.int (d1 + d2)), .val (.int ((d1 + d2) + d3)), .val (.int b1), .val (.int (b1 + b2)), .unset] [(.int x3), (.int x2), (.int (b1 + b2))])) rfl (by rw [hml]; rfl) (argsL := [(.int x2), (.int x3)]) (rest := [(.int (b1 + b2))]) (lenOf pd_2 rfl) rfl (by show 2 * 0 + _ ≤ _; exact Nat.le_of_eq rfl) (hb hby at_249) (fun _ _ => ⟨rfl, e38, (by decide : 0 + 0 ≤ _), (by decide : 0 + 0 ≤ _)⟩)
  dsimp only [Pt.U, Pt.locs, Pt.cells, Pt.slots] at X39 l39 y39 z39 st39 hQ39
  subst l39 y39 z39
  obtain ⟨rfl, Nq39, e39⟩ := hQ39
  have N39 := Fr.app N38 Nq39
  refine Gl.go (fun _ k => st39 _ k) ?_
  show Gl p.tables e below (QQof s (Q_law Z a b c_ d h0 n0) 0 0) (T39.setTop (mkF m 252 #[.val (.int a), .val (.int b), .val (.int c_), .val (.int d), .val (.int p_), .val (.int x1), .val (.int x2), .val (.int x3), .val (.int r1), .val (.int (r1 + r2)), .val (.int ((r1 + r2) + r3)), .val (.int f1), .val (.int (f1 + f2)), .val (.int ((f1 + f2) + f3)), .val (.int d1), .val (.int (d1 + d2)), .val (.int ((d1 + d2) + d3)), .val (.int b1), .val (.int (b1 + b2)), .unset] [(.int (brV x2 x3)), (.int (b1 + b2))]))
  obtain ⟨_, _, ⟨T40, L40, k40, n40⟩, -, X40, ⟨Lc40, hQ40, l40, y40, z40⟩, st40⟩ := Jvm.LawKit.callS X39 hx (y := (⟨"com/example/kontraktor/kontraktor/cli/InputFileBeginsLineBreakPinLaw", "one", "(Z)I"⟩ : MethodName)) hown (mvT hZ (hw _ (List.mem_of_getElem? (i := 5) rfl))) (mvT hZ (hw _ (List.mem_of_getElem? (i := 6) rfl))) (mvT hZ (hw _ (List.mem_of_getElem? (i := 2) rfl))) (mvT hZ (hw _ (List.mem_of_getElem? (i := 7) rfl))) (by decide) (backOf (W := 1) (rm_one l Z a0 hw [] (brV x2 x3) h0 n0 Z0 ) hZ (hw _ (List.mem_of_getElem? (i := 7) rfl)) (hw _ (List.mem_of_getElem? (i := 2) rfl)) (by decide) (by decide)) (g := (mkF m 252 #[.val (.int a), .val (.int b), .val (.int c_), .val (.int d), .val (.int p_), .val (.int x1), .val (.int x2), .val (.int x3), .val (.int r1), .val (.int (r1 + r2)), .val (.int ((r1 + r2) + r3)), .val (.int f1), .val (.int (f1 + f2)), .val (.int ((f1 + f2) + f3)), .val (.int d1), .val (.int (d1 + d2)), .val (.int ((d1 + d2) + d3)), .val (.int b1), .val (.int (b1 + b2)), .unset] [(.int (brV x2 x3)), (.int (b1 + b2))])) rfl (by rw [hml]; rfl) (argsL := [(.int (brV x2 x3))]) (rest := [(.int (b1 + b2))]) (lenOf pd_1 rfl) rfl (by show 2 * 0 + _ ≤ _; exact Nat.le_of_eq rfl) (hb hby at_252) (fun _ _ => ⟨rfl, e39, (by decide : 0 + 0 ≤ _), (by decide : 0 + 0 ≤ _)⟩)
  dsimp only [Pt.U, Pt.locs, Pt.cells, Pt.slots] at X40 l40 y40 z40 st40 hQ40
  subst l40 y40 z40
  obtain ⟨rfl, Nq40, e40⟩ := hQ40
  have N40 := Fr.app N39 Nq40
  refine Gl.go (fun _ k => st40 _ k) ?_
  show Gl p.tables e below (QQof s (Q_law Z a b c_ d h0 n0) 0 0) (T40.setTop (mkF m 255 #[.val (.int a), .val (.int b), .val (.int c_), .val (.int d), .val (.int p_), .val (.int x1), .val (.int x2), .val (.int x3), .val (.int r1), .val (.int (r1 + r2)), .val (.int ((r1 + r2) + r3)), .val (.int f1), .val (.int (f1 + f2)), .val (.int ((f1 + f2) + f3)), .val (.int d1), .val (.int (d1 + d2)), .val (.int ((d1 + d2) + d3)), .val (.int b1), .val (.int (b1 + b2)), .unset] [(.int (oneV (brV x2 x3))), (.int (b1 + b2))]))
  generalize h_b3 : (oneV (brV x2 x3)) = b3
  show Gl p.tables e below (QQof s (Q_law Z a b c_ d h0 n0) 0 0) (T40.setTop (mkF m 255 #[.val (.int a), .val (.int b), .val (.int c_), .val (.int d), .val (.int p_), .val (.int x1), .val (.int x2), .val (.int x3), .val (.int r1), .val (.int (r1 + r2)), .val (.int ((r1 + r2) + r3)), .val (.int f1), .val (.int (f1 + f2)), .val (.int ((f1 + f2) + f3)), .val (.int d1), .val (.int (d1 + d2)), .val (.int ((d1 + d2) + d3)), .val (.int b1), .val (.int (b1 + b2)), .unset] [(.int b3), (.int (b1 + b2))]))
  have A1 : b1 = (r1 + f1) - d1 := by rw [← h_b1, ← h_r1, ← h_f1, ← h_d1]; exact own_A p_ x1
  have A2 : b2 = (r2 + f2) - d2 := by rw [← h_b2, ← h_r2, ← h_f2, ← h_d2]; exact own_A x1 x2
  have A3 : b3 = (r3 + f3) - d3 := by rw [← h_b3, ← h_r3, ← h_f3, ← h_d3]; exact own_A x2 x3
  have B2 := own_B r1 f1 d1 r2 f2 d2 b1 b2 0 A1 A2
  have B3 := own_B (r1 + r2) (f1 + f2) (d1 + d2) r3 f3 d3 (b1 + b2) b3 0 B2 A3
  refine Gl.go (fun _ k => XS.iadd X40.here hx rfl (hb hby at_255) rfl k) ?_
  show Gl p.tables e below (QQof s (Q_law Z a b c_ d h0 n0) 0 0) (T40.setTop (mkF m 256 #[.val (.int a), .val (.int b), .val (.int c_), .val (.int d), .val (.int p_), .val (.int x1), .val (.int x2), .val (.int x3), .val (.int r1), .val (.int (r1 + r2)), .val (.int ((r1 + r2) + r3)), .val (.int f1), .val (.int (f1 + f2)), .val (.int ((f1 + f2) + f3)), .val (.int d1), .val (.int (d1 + d2)), .val (.int ((d1 + d2) + d3)), .val (.int b1), .val (.int (b1 + b2)), .unset] [(.int ((b1 + b2) + b3))]))
  refine Gl.go (fun _ k => XS.istore X40.here hx rfl (hb hby at_256) rfl (l' := #[.val (.int a), .val (.int b), .val (.int c_), .val (.int d), .val (.int p_), .val (.int x1), .val (.int x2), .val (.int x3), .val (.int r1), .val (.int (r1 + r2)), .val (.int ((r1 + r2) + r3)), .val (.int f1), .val (.int (f1 + f2)), .val (.int ((f1 + f2) + f3)), .val (.int d1), .val (.int (d1 + d2)), .val (.int ((d1 + d2) + d3)), .val (.int b1), .val (.int (b1 + b2)), .val (.int ((b1 + b2) + b3))]) rfl k) ?_
  show Gl p.tables e below (QQof s (Q_law Z a b c_ d h0 n0) 0 0) (T40.setTop (mkF m 258 #[.val (.int a), .val (.int b), .val (.int c_), .val (.int d), .val (.int p_), .val (.int x1), .val (.int x2), .val (.int x3), .val (.int r1), .val (.int (r1 + r2)), .val (.int ((r1 + r2) + r3)), .val (.int f1), .val (.int (f1 + f2)), .val (.int ((f1 + f2) + f3)), .val (.int d1), .val (.int (d1 + d2)), .val (.int ((d1 + d2) + d3)), .val (.int b1), .val (.int (b1 + b2)), .val (.int ((b1 + b2) + b3))] []))
  refine Gl.go (fun _ k => XS.iload X40.here hx rfl (hb hby at_258) rfl  k) ?_
  show Gl p.tables e below (QQof s (Q_law Z a b c_ d h0 n0) 0 0) (T40.setTop (mkF m 260 #[.val (.int a), .val (.int b), .val (.int c_), .val (.int d), .val (.int p_), .val (.int x1), .val (.int x2), .val (.int x3), .val (.int r1), .val (.int (r1 + r2)), .val (.int ((r1 + r2) + r3)), .val (.int f1), .val (.int (f1 + f2)), .val (.int ((f1 + f2) + f3)), .val (.int d1), .val (.int (d1 + d2)), .val (.int ((d1 + d2) + d3)), .val (.int b1), .val (.int (b1 + b2)), .val (.int ((b1 + b2) + b3))] [(.int b1)]))
  refine Gl.go (fun _ k => XS.iload X40.here hx rfl (hb hby at_260) rfl  k) ?_
  show Gl p.tables e below (QQof s (Q_law Z a b c_ d h0 n0) 0 0) (T40.setTop (mkF m 262 #[.val (.int a), .val (.int b), .val (.int c_), .val (.int d), .val (.int p_), .val (.int x1), .val (.int x2), .val (.int x3), .val (.int r1), .val (.int (r1 + r2)), .val (.int ((r1 + r2) + r3)), .val (.int f1), .val (.int (f1 + f2)), .val (.int ((f1 + f2) + f3)), .val (.int d1), .val (.int (d1 + d2)), .val (.int ((d1 + d2) + d3)), .val (.int b1), .val (.int (b1 + b2)), .val (.int ((b1 + b2) + b3))] [(.int r1), (.int b1)]))
  refine Gl.go (fun _ k => XS.iload X40.here hx rfl (hb hby at_262) rfl  k) ?_
  show Gl p.tables e below (QQof s (Q_law Z a b c_ d h0 n0) 0 0) (T40.setTop (mkF m 264 #[.val (.int a), .val (.int b), .val (.int c_), .val (.int d), .val (.int p_), .val (.int x1), .val (.int x2), .val (.int x3), .val (.int r1), .val (.int (r1 + r2)), .val (.int ((r1 + r2) + r3)), .val (.int f1), .val (.int (f1 + f2)), .val (.int ((f1 + f2) + f3)), .val (.int d1), .val (.int (d1 + d2)), .val (.int ((d1 + d2) + d3)), .val (.int b1), .val (.int (b1 + b2)), .val (.int ((b1 + b2) + b3))] [(.int f1), (.int r1), (.int b1)]))
  refine Gl.go (fun _ k => XS.iadd X40.here hx rfl (hb hby at_264) rfl k) ?_
  show Gl p.tables e below (QQof s (Q_law Z a b c_ d h0 n0) 0 0) (T40.setTop (mkF m 265 #[.val (.int a), .val (.int b), .val (.int c_), .val (.int d), .val (.int p_), .val (.int x1), .val (.int x2), .val (.int x3), .val (.int r1), .val (.int (r1 + r2)), .val (.int ((r1 + r2) + r3)), .val (.int f1), .val (.int (f1 + f2)), .val (.int ((f1 + f2) + f3)), .val (.int d1), .val (.int (d1 + d2)), .val (.int ((d1 + d2) + d3)), .val (.int b1), .val (.int (b1 + b2)), .val (.int ((b1 + b2) + b3))] [(.int (r1 + f1)), (.int b1)]))
  refine Gl.go (fun _ k => XS.iload X40.here hx rfl (hb hby at_265) rfl  k) ?_
  show Gl p.tables e below (QQof s (Q_law Z a b c_ d h0 n0) 0 0) (T40.setTop (mkF m 267 #[.val (.int a), .val (.int b), .val (.int c_), .val (.int d), .val (.int p_), .val (.int x1), .val (.int x2), .val (.int x3), .val (.int r1), .val (.int (r1 + r2)), .val (.int ((r1 + r2) + r3)), .val (.int f1), .val (.int (f1 + f2)), .val (.int ((f1 + f2) + f3)), .val (.int d1), .val (.int (d1 + d2)), .val (.int ((d1 + d2) + d3)), .val (.int b1), .val (.int (b1 + b2)), .val (.int ((b1 + b2) + b3))] [(.int d1), (.int (r1 + f1)), (.int b1)]))
  refine Gl.go (fun _ k => XS.isub X40.here hx rfl (hb hby at_267) rfl k) ?_
  show Gl p.tables e below (QQof s (Q_law Z a b c_ d h0 n0) 0 0) (T40.setTop (mkF m 268 #[.val (.int a), .val (.int b), .val (.int c_), .val (.int d), .val (.int p_), .val (.int x1), .val (.int x2), .val (.int x3), .val (.int r1), .val (.int (r1 + r2)), .val (.int ((r1 + r2) + r3)), .val (.int f1), .val (.int (f1 + f2)), .val (.int ((f1 + f2) + f3)), .val (.int d1), .val (.int (d1 + d2)), .val (.int ((d1 + d2) + d3)), .val (.int b1), .val (.int (b1 + b2)), .val (.int ((b1 + b2) + b3))] [(.int ((r1 + f1) - d1)), (.int b1)]))
  refine Gl.go (fun _ k => XS.icmpNo X40.here hx rfl (hb hby at_268) rfl (teq A1).2 k) ?_
  show Gl p.tables e below (QQof s (Q_law Z a b c_ d h0 n0) 0 0) (T40.setTop (mkF m 271 #[.val (.int a), .val (.int b), .val (.int c_), .val (.int d), .val (.int p_), .val (.int x1), .val (.int x2), .val (.int x3), .val (.int r1), .val (.int (r1 + r2)), .val (.int ((r1 + r2) + r3)), .val (.int f1), .val (.int (f1 + f2)), .val (.int ((f1 + f2) + f3)), .val (.int d1), .val (.int (d1 + d2)), .val (.int ((d1 + d2) + d3)), .val (.int b1), .val (.int (b1 + b2)), .val (.int ((b1 + b2) + b3))] []))
  refine Gl.go (fun _ k => XS.iload X40.here hx rfl (hb hby at_271) rfl  k) ?_
  show Gl p.tables e below (QQof s (Q_law Z a b c_ d h0 n0) 0 0) (T40.setTop (mkF m 273 #[.val (.int a), .val (.int b), .val (.int c_), .val (.int d), .val (.int p_), .val (.int x1), .val (.int x2), .val (.int x3), .val (.int r1), .val (.int (r1 + r2)), .val (.int ((r1 + r2) + r3)), .val (.int f1), .val (.int (f1 + f2)), .val (.int ((f1 + f2) + f3)), .val (.int d1), .val (.int (d1 + d2)), .val (.int ((d1 + d2) + d3)), .val (.int b1), .val (.int (b1 + b2)), .val (.int ((b1 + b2) + b3))] [(.int (b1 + b2))]))
  refine Gl.go (fun _ k => XS.iload X40.here hx rfl (hb hby at_273) rfl  k) ?_
  show Gl p.tables e below (QQof s (Q_law Z a b c_ d h0 n0) 0 0) (T40.setTop (mkF m 275 #[.val (.int a), .val (.int b), .val (.int c_), .val (.int d), .val (.int p_), .val (.int x1), .val (.int x2), .val (.int x3), .val (.int r1), .val (.int (r1 + r2)), .val (.int ((r1 + r2) + r3)), .val (.int f1), .val (.int (f1 + f2)), .val (.int ((f1 + f2) + f3)), .val (.int d1), .val (.int (d1 + d2)), .val (.int ((d1 + d2) + d3)), .val (.int b1), .val (.int (b1 + b2)), .val (.int ((b1 + b2) + b3))] [(.int (r1 + r2)), (.int (b1 + b2))]))
  refine Gl.go (fun _ k => XS.iload X40.here hx rfl (hb hby at_275) rfl  k) ?_
  show Gl p.tables e below (QQof s (Q_law Z a b c_ d h0 n0) 0 0) (T40.setTop (mkF m 277 #[.val (.int a), .val (.int b), .val (.int c_), .val (.int d), .val (.int p_), .val (.int x1), .val (.int x2), .val (.int x3), .val (.int r1), .val (.int (r1 + r2)), .val (.int ((r1 + r2) + r3)), .val (.int f1), .val (.int (f1 + f2)), .val (.int ((f1 + f2) + f3)), .val (.int d1), .val (.int (d1 + d2)), .val (.int ((d1 + d2) + d3)), .val (.int b1), .val (.int (b1 + b2)), .val (.int ((b1 + b2) + b3))] [(.int (f1 + f2)), (.int (r1 + r2)), (.int (b1 + b2))]))
  refine Gl.go (fun _ k => XS.iadd X40.here hx rfl (hb hby at_277) rfl k) ?_
  show Gl p.tables e below (QQof s (Q_law Z a b c_ d h0 n0) 0 0) (T40.setTop (mkF m 278 #[.val (.int a), .val (.int b), .val (.int c_), .val (.int d), .val (.int p_), .val (.int x1), .val (.int x2), .val (.int x3), .val (.int r1), .val (.int (r1 + r2)), .val (.int ((r1 + r2) + r3)), .val (.int f1), .val (.int (f1 + f2)), .val (.int ((f1 + f2) + f3)), .val (.int d1), .val (.int (d1 + d2)), .val (.int ((d1 + d2) + d3)), .val (.int b1), .val (.int (b1 + b2)), .val (.int ((b1 + b2) + b3))] [(.int ((r1 + r2) + (f1 + f2))), (.int (b1 + b2))]))
  refine Gl.go (fun _ k => XS.iload X40.here hx rfl (hb hby at_278) rfl  k) ?_
  show Gl p.tables e below (QQof s (Q_law Z a b c_ d h0 n0) 0 0) (T40.setTop (mkF m 280 #[.val (.int a), .val (.int b), .val (.int c_), .val (.int d), .val (.int p_), .val (.int x1), .val (.int x2), .val (.int x3), .val (.int r1), .val (.int (r1 + r2)), .val (.int ((r1 + r2) + r3)), .val (.int f1), .val (.int (f1 + f2)), .val (.int ((f1 + f2) + f3)), .val (.int d1), .val (.int (d1 + d2)), .val (.int ((d1 + d2) + d3)), .val (.int b1), .val (.int (b1 + b2)), .val (.int ((b1 + b2) + b3))] [(.int (d1 + d2)), (.int ((r1 + r2) + (f1 + f2))), (.int (b1 + b2))]))
  refine Gl.go (fun _ k => XS.isub X40.here hx rfl (hb hby at_280) rfl k) ?_
  show Gl p.tables e below (QQof s (Q_law Z a b c_ d h0 n0) 0 0) (T40.setTop (mkF m 281 #[.val (.int a), .val (.int b), .val (.int c_), .val (.int d), .val (.int p_), .val (.int x1), .val (.int x2), .val (.int x3), .val (.int r1), .val (.int (r1 + r2)), .val (.int ((r1 + r2) + r3)), .val (.int f1), .val (.int (f1 + f2)), .val (.int ((f1 + f2) + f3)), .val (.int d1), .val (.int (d1 + d2)), .val (.int ((d1 + d2) + d3)), .val (.int b1), .val (.int (b1 + b2)), .val (.int ((b1 + b2) + b3))] [(.int (((r1 + r2) + (f1 + f2)) - (d1 + d2))), (.int (b1 + b2))]))
  refine Gl.go (fun _ k => XS.icmpNo X40.here hx rfl (hb hby at_281) rfl (teq B2).2 k) ?_
  show Gl p.tables e below (QQof s (Q_law Z a b c_ d h0 n0) 0 0) (T40.setTop (mkF m 284 #[.val (.int a), .val (.int b), .val (.int c_), .val (.int d), .val (.int p_), .val (.int x1), .val (.int x2), .val (.int x3), .val (.int r1), .val (.int (r1 + r2)), .val (.int ((r1 + r2) + r3)), .val (.int f1), .val (.int (f1 + f2)), .val (.int ((f1 + f2) + f3)), .val (.int d1), .val (.int (d1 + d2)), .val (.int ((d1 + d2) + d3)), .val (.int b1), .val (.int (b1 + b2)), .val (.int ((b1 + b2) + b3))] []))
  refine Gl.go (fun _ k => XS.iload X40.here hx rfl (hb hby at_284) rfl  k) ?_
  show Gl p.tables e below (QQof s (Q_law Z a b c_ d h0 n0) 0 0) (T40.setTop (mkF m 286 #[.val (.int a), .val (.int b), .val (.int c_), .val (.int d), .val (.int p_), .val (.int x1), .val (.int x2), .val (.int x3), .val (.int r1), .val (.int (r1 + r2)), .val (.int ((r1 + r2) + r3)), .val (.int f1), .val (.int (f1 + f2)), .val (.int ((f1 + f2) + f3)), .val (.int d1), .val (.int (d1 + d2)), .val (.int ((d1 + d2) + d3)), .val (.int b1), .val (.int (b1 + b2)), .val (.int ((b1 + b2) + b3))] [(.int ((b1 + b2) + b3))]))
  refine Gl.go (fun _ k => XS.iload X40.here hx rfl (hb hby at_286) rfl  k) ?_
  show Gl p.tables e below (QQof s (Q_law Z a b c_ d h0 n0) 0 0) (T40.setTop (mkF m 288 #[.val (.int a), .val (.int b), .val (.int c_), .val (.int d), .val (.int p_), .val (.int x1), .val (.int x2), .val (.int x3), .val (.int r1), .val (.int (r1 + r2)), .val (.int ((r1 + r2) + r3)), .val (.int f1), .val (.int (f1 + f2)), .val (.int ((f1 + f2) + f3)), .val (.int d1), .val (.int (d1 + d2)), .val (.int ((d1 + d2) + d3)), .val (.int b1), .val (.int (b1 + b2)), .val (.int ((b1 + b2) + b3))] [(.int ((r1 + r2) + r3)), (.int ((b1 + b2) + b3))]))
  refine Gl.go (fun _ k => XS.iload X40.here hx rfl (hb hby at_288) rfl  k) ?_
  show Gl p.tables e below (QQof s (Q_law Z a b c_ d h0 n0) 0 0) (T40.setTop (mkF m 290 #[.val (.int a), .val (.int b), .val (.int c_), .val (.int d), .val (.int p_), .val (.int x1), .val (.int x2), .val (.int x3), .val (.int r1), .val (.int (r1 + r2)), .val (.int ((r1 + r2) + r3)), .val (.int f1), .val (.int (f1 + f2)), .val (.int ((f1 + f2) + f3)), .val (.int d1), .val (.int (d1 + d2)), .val (.int ((d1 + d2) + d3)), .val (.int b1), .val (.int (b1 + b2)), .val (.int ((b1 + b2) + b3))] [(.int ((f1 + f2) + f3)), (.int ((r1 + r2) + r3)), (.int ((b1 + b2) + b3))]))
  refine Gl.go (fun _ k => XS.iadd X40.here hx rfl (hb hby at_290) rfl k) ?_
  show Gl p.tables e below (QQof s (Q_law Z a b c_ d h0 n0) 0 0) (T40.setTop (mkF m 291 #[.val (.int a), .val (.int b), .val (.int c_), .val (.int d), .val (.int p_), .val (.int x1), .val (.int x2), .val (.int x3), .val (.int r1), .val (.int (r1 + r2)), .val (.int ((r1 + r2) + r3)), .val (.int f1), .val (.int (f1 + f2)), .val (.int ((f1 + f2) + f3)), .val (.int d1), .val (.int (d1 + d2)), .val (.int ((d1 + d2) + d3)), .val (.int b1), .val (.int (b1 + b2)), .val (.int ((b1 + b2) + b3))] [(.int (((r1 + r2) + r3) + ((f1 + f2) + f3))), (.int ((b1 + b2) + b3))]))
  refine Gl.go (fun _ k => XS.iload X40.here hx rfl (hb hby at_291) rfl  k) ?_
  show Gl p.tables e below (QQof s (Q_law Z a b c_ d h0 n0) 0 0) (T40.setTop (mkF m 293 #[.val (.int a), .val (.int b), .val (.int c_), .val (.int d), .val (.int p_), .val (.int x1), .val (.int x2), .val (.int x3), .val (.int r1), .val (.int (r1 + r2)), .val (.int ((r1 + r2) + r3)), .val (.int f1), .val (.int (f1 + f2)), .val (.int ((f1 + f2) + f3)), .val (.int d1), .val (.int (d1 + d2)), .val (.int ((d1 + d2) + d3)), .val (.int b1), .val (.int (b1 + b2)), .val (.int ((b1 + b2) + b3))] [(.int ((d1 + d2) + d3)), (.int (((r1 + r2) + r3) + ((f1 + f2) + f3))), (.int ((b1 + b2) + b3))]))
  refine Gl.go (fun _ k => XS.isub X40.here hx rfl (hb hby at_293) rfl k) ?_
  show Gl p.tables e below (QQof s (Q_law Z a b c_ d h0 n0) 0 0) (T40.setTop (mkF m 294 #[.val (.int a), .val (.int b), .val (.int c_), .val (.int d), .val (.int p_), .val (.int x1), .val (.int x2), .val (.int x3), .val (.int r1), .val (.int (r1 + r2)), .val (.int ((r1 + r2) + r3)), .val (.int f1), .val (.int (f1 + f2)), .val (.int ((f1 + f2) + f3)), .val (.int d1), .val (.int (d1 + d2)), .val (.int ((d1 + d2) + d3)), .val (.int b1), .val (.int (b1 + b2)), .val (.int ((b1 + b2) + b3))] [(.int ((((r1 + r2) + r3) + ((f1 + f2) + f3)) - ((d1 + d2) + d3))), (.int ((b1 + b2) + b3))]))
  refine Gl.go (fun _ k => XS.icmpNo X40.here hx rfl (hb hby at_294) rfl (teq B3).2 k) ?_
  show Gl p.tables e below (QQof s (Q_law Z a b c_ d h0 n0) 0 0) (T40.setTop (mkF m 297 #[.val (.int a), .val (.int b), .val (.int c_), .val (.int d), .val (.int p_), .val (.int x1), .val (.int x2), .val (.int x3), .val (.int r1), .val (.int (r1 + r2)), .val (.int ((r1 + r2) + r3)), .val (.int f1), .val (.int (f1 + f2)), .val (.int ((f1 + f2) + f3)), .val (.int d1), .val (.int (d1 + d2)), .val (.int ((d1 + d2) + d3)), .val (.int b1), .val (.int (b1 + b2)), .val (.int ((b1 + b2) + b3))] []))
  refine Gl.go (fun _ k => XS.iconst X40.here hx rfl (hb hby at_297) k) ?_
  show Gl p.tables e below (QQof s (Q_law Z a b c_ d h0 n0) 0 0) (T40.setTop (mkF m 298 #[.val (.int a), .val (.int b), .val (.int c_), .val (.int d), .val (.int p_), .val (.int x1), .val (.int x2), .val (.int x3), .val (.int r1), .val (.int (r1 + r2)), .val (.int ((r1 + r2) + r3)), .val (.int f1), .val (.int (f1 + f2)), .val (.int ((f1 + f2) + f3)), .val (.int d1), .val (.int (d1 + d2)), .val (.int ((d1 + d2) + d3)), .val (.int b1), .val (.int (b1 + b2)), .val (.int ((b1 + b2) + b3))] [(.int (1 : Int32))]))
  refine Gl.go (fun _ k => XS.goto X40.here hx rfl (pc0 := 298) (pc' := 302) rfl (hb hby at_298) (by decide) (by decide) k) ?_
  show Gl p.tables e below (QQof s (Q_law Z a b c_ d h0 n0) 0 0) (T40.setTop (mkF m 302 #[.val (.int a), .val (.int b), .val (.int c_), .val (.int d), .val (.int p_), .val (.int x1), .val (.int x2), .val (.int x3), .val (.int r1), .val (.int (r1 + r2)), .val (.int ((r1 + r2) + r3)), .val (.int f1), .val (.int (f1 + f2)), .val (.int ((f1 + f2) + f3)), .val (.int d1), .val (.int (d1 + d2)), .val (.int ((d1 + d2) + d3)), .val (.int b1), .val (.int (b1 + b2)), .val (.int ((b1 + b2) + b3))] [(.int (1 : Int32))]))
  refine leafN X40 hx hlk (t := .boolean) Bd.returns (by simp) (hb hby at_302) ?_ (by decide) (by decide)
  exact ⟨rfl, N40⟩
set_option maxRecDepth 65536 in
set_option maxHeartbeats 40000000 in
theorem comes_1 {Post : Tables → Env → Array Value → State → Outcome → State → Prop} (hpost : ∀ tb e args s v u, (limb_1_1.after args s (.returned v) u = true ∧ limb_1_2.after args s (.returned v) u = true ∧ True) → FrameEnd s (.returned v) u (Jvm.fieldLocs frame_1_writes args s ++ Jvm.arrayLocs frame_1_arrays args s ++ Jvm.staticLocs frame_1_statics s) 0 0 → Post tb e args s (.returned v) u) :
    ArmFor flags0 classFile x code maxLocals ret World_1 tables_1 room_1 Calls_1 rest_1 Pre_1 Post := by
  intro l hfl _ _ p e ha hc hk s m args below hf hA hF happ hP
  obtain ⟨hcalls, hrest, hpre⟩ := hP
  obtain ⟨-, -, -, hnamed, -, -, -, hat⟩ := (Spec.applies_iff hf).mp happ
  obtain ⟨hg, hn⟩ := and_e (Cond.before_iff.mp (show (Jvm.Cond.and given_1 narrow_1).before args s = true from hpre))
  obtain ⟨hcount, hg0⟩ := and_e hg
  obtain ⟨hk0, hg1⟩ := and_e hg0
  obtain ⟨hk1, hg2⟩ := and_e hg1
  obtain ⟨hk2, hg3⟩ := and_e hg2
  have hk3 := hg3
  obtain ⟨w0, w1, w2, w3, rfl⟩ : ∃ w0 w1 w2 w3 : Value, args = #[w0, w1, w2, w3] := by
    have hs : args.size = 4 := by simpa [Cond.value, given_1] using hcount
    obtain ⟨L⟩ := args
    match L, hs with
    | [w0, w1, w2, w3], _ => exact ⟨w0, w1, w2, w3, rfl⟩
  have hw := fun d (hd : d ∈ tables_1) => atoms_spec (ws := Jvm.Cond.code x code maxLocals ret :: tables_1) hat d (List.mem_cons_of_mem _ hd)
  have hfit : Fit s := fun {y c} hc i hi => by
    obtain ⟨ha, rfl⟩ := Array.getElem?_eq_some_iff.mp hc
    have q := List.all_eq_true.mp ((Array.all_eq_true_iff_forall_mem.mp hF) _ (Array.getElem_mem ha)) i (List.mem_range.mpr hi)
    simpa [Array.getElem?_eq_getElem hi] using q
  obtain ⟨i0, ei0⟩ := is_v hk0
  obtain rfl : w0 = (.int i0) := Option.some.inj ei0
  obtain ⟨i1, ei1⟩ := is_v hk1
  obtain rfl : w1 = (.int i1) := Option.some.inj ei1
  obtain ⟨i2, ei2⟩ := is_v hk2
  obtain rfl : w2 = (.int i2) := Option.some.inj ei2
  obtain ⟨i3, ei3⟩ := is_v hk3
  obtain rfl : w3 = (.int i3) := Option.some.inj ei3
  obtain ⟨n, o, h1, h2, h3, _, L, rfl, ⟨rfl, N⟩, hq⟩ := rm_law l s _ hw tables_1 i0 i1 i2 i3 s.heap s.heap.size (Nat.le_refl _)  p e ha hc hk s m _ below hf ((Spec.applies_iff_loose hf).mp happ).1 ⟨rfl, State.Warmed39.refl s, rfl⟩ trivial
  refine ⟨n, _, h1, h2, h3, hpost _ _ _ _ _ _ ⟨Cond.after_iff.mpr rfl, Cond.after_iff.mpr (eq_i res_at (Term.int_eval (1)) rfl), trivial⟩ ⟨hq.1, hq.2.1, (hq.2.2.sift fun y hy => Or.inr (N y hy)).mono (by decide) (by decide)⟩⟩
theorem main_1_1 : Claimed_1_1 := comes_1 fun _ _ _ _ _ _ h hF => ⟨h.1, hF⟩
theorem main_1_2 : Claimed_1_2 := comes_1 fun _ _ _ _ _ _ h hF => ⟨h.2.1, hF⟩
end Jvm.Pilot.@@N@@
namespace Jvm.Pilot.@@N@@
open Jvm Jvm.ClassFile Sem Op Lib Jvm.Free Jvm.Stand Jvm.Pilot.@@N@@.Jvm.D
/-! MADE BY PROGRAM (witnessworld.py) out of the Statement's table words and the real class files: 13 classes; the members and pool entries that the words name. The judged class is class 1, her method 3. -/
namespace start1
open Jvm.ClassFile
def u (s : String) : CpInfo := .utf8 (stringToUtf16 s)
/-- a pool by its gaps: so many unusable entries, then the entry; so many at the end -/
def gap : Nat → List CpInfo → List CpInfo
  | 0, r => r
  | n + 1, r => .unusable :: gap n r
def poolList (es : List (Nat × CpInfo)) (last : Nat) : List CpInfo := es.foldr (fun e r => gap e.1 (e.2 :: r)) (gap last [])
def pool (es : List (Nat × CpInfo)) (last : Nat) : Array CpInfo := ⟨poolList es last⟩
def fileOf (pool : Array CpInfo) (this : Nat) (attrs : Array Attribute := #[]) (ms : Array MethodInfo := #[]) (fl : Nat := 33) (sup : Nat := 0) (ifs : Array Nat := #[]) (fds : Array FieldInfo := #[]) : ClassFile where
  minorVersion := 0
  majorVersion := 65
  constantPool := pool
  accessFlags := fl
  thisClass := this
  superClass := sup
  interfaces := ifs
  fields := fds
  methods := ms
  attributes := attrs
def plain (name : String) (sup : Option ClassId) : Class where
  name := name
  kind := .ordinary
  loader := none
  accessFlags := 33
  super := sup
  interfaces := #[]
  cf := none
  fields := #[]
  methods := #[]
  instanceTypes := #[]
  staticTypes := #[]
  resolved := #[]
  callSites := []
  init := .initialized
  statics := none
  mirror := none

def pool0 : Array CpInfo := pool [(5, u "<init>"), (0, u "()V"), (1, .class_ 10), (1, u "java/lang/Object")] 113

def k0m0 : Method := { name := "<init>", desc := "()V", sig := { parameters := [], returnType := none }, accessFlags := 1, code := none }
/-- java/lang/Object -/
def k0 : Class := { plain "java/lang/Object" none with
  accessFlags := 33
  interfaces := #[]
  cf := some (fileOf pool0 8 #[] #[{ accessFlags := 1, nameIndex := 5, descriptorIndex := 6, attributes := #[] }] 33 0 #[] #[])
  fields := #[]
  methods := #[k0m0]
  instanceTypes := #[]
  staticTypes := #[]
  resolved := Array.replicate 124 none
  statics := none }

def pool1 : Array CpInfo := pool [(2, .class_ 4), (1, u "java/lang/Object"), (0, u "<init>"), (0, u "()V"), (0, .integer 65535), (0, .methodref 9 10), (0, .class_ 11), (0, .nameAndType 12 13), (0, u "com/example/kontraktor/kontraktor/cli/InputFileBeginsLineBreakPinLaw"), (0, u "pick"), (0, u "(I)C"), (0, .methodref 9 15), (0, .nameAndType 16 17), (0, u "one"), (0, u "(Z)I"), (0, .methodref 19 20), (0, .class_ 21), (0, .nameAndType 22 23), (0, u "com/example/kontraktor/kontraktor/cli/InputFile"), (0, u "beginsLineBreak"), (0, u "(CC)Z"), (3, u "law"), (0, u "(IIII)Z")] 2

def k1m0 : Method := { name := "<init>", desc := "()V", sig := { parameters := [], returnType := none }, accessFlags := 1, code := none }
def k1c1 : Code := { maxStack := 2, maxLocals := 2, code := method_2_code, exceptionTable := #[], attributes := #[] }
def k1m1 : Method := { name := "pick", desc := "(I)C", sig := { parameters := [.int], returnType := some .char }, accessFlags := 10, code := some k1c1 }
def k1c2 : Code := { maxStack := 1, maxLocals := 1, code := method_3_code, exceptionTable := #[], attributes := #[] }
def k1m2 : Method := { name := "one", desc := "(Z)I", sig := { parameters := [.boolean], returnType := some .int }, accessFlags := 10, code := some k1c2 }
def k1c3 : Code := { maxStack := 3, maxLocals := 20, code := code, exceptionTable := #[], attributes := #[] }
def k1m3 : Method := { name := "law", desc := "(IIII)Z", sig := { parameters := [.int, .int, .int, .int], returnType := some .boolean }, accessFlags := 9, code := some k1c3 }
/-- com/example/kontraktor/kontraktor/cli/InputFileBeginsLineBreakPinLaw -/
def k1 : Class := { plain "com/example/kontraktor/kontraktor/cli/InputFileBeginsLineBreakPinLaw" (some 0) with
  accessFlags := 49
  interfaces := #[]
  cf := some (fileOf pool1 9 #[] #[{ accessFlags := 1, nameIndex := 5, descriptorIndex := 6, attributes := #[] }, { accessFlags := 10, nameIndex := 12, descriptorIndex := 13, attributes := #[] }, { accessFlags := 10, nameIndex := 16, descriptorIndex := 17, attributes := #[] }, { accessFlags := 9, nameIndex := 27, descriptorIndex := 28, attributes := #[] }] 49 2 #[] #[])
  fields := #[]
  methods := #[k1m0, k1m1, k1m2, k1m3]
  instanceTypes := #[]
  staticTypes := #[]
  resolved := Array.replicate 31 none
  statics := none }

def pool2 : Array CpInfo := pool [(1, .class_ 2), (0, u "java/lang/Readable"), (0, .class_ 4), (0, u "java/lang/Object")] 7

/-- java/lang/Readable -/
def k2 : Class := { plain "java/lang/Readable" (some 0) with
  accessFlags := 1537
  interfaces := #[]
  cf := some (fileOf pool2 1 #[] #[] 1537 3 #[] #[])
  fields := #[]
  methods := #[]
  instanceTypes := #[]
  staticTypes := #[]
  resolved := Array.replicate 12 none
  statics := none }

def pool3 : Array CpInfo := pool [(1, .class_ 2), (0, u "java/lang/AutoCloseable"), (0, .class_ 4), (0, u "java/lang/Object")] 7

/-- java/lang/AutoCloseable -/
def k3 : Class := { plain "java/lang/AutoCloseable" (some 0) with
  accessFlags := 1537
  interfaces := #[]
  cf := some (fileOf pool3 1 #[] #[] 1537 3 #[] #[])
  fields := #[]
  methods := #[]
  instanceTypes := #[]
  staticTypes := #[]
  resolved := Array.replicate 12 none
  statics := none }

def pool4 : Array CpInfo := pool [(1, .class_ 2), (0, u "java/io/Closeable"), (0, .class_ 4), (0, u "java/lang/Object"), (0, .class_ 6), (0, u "java/lang/AutoCloseable")] 7

/-- java/io/Closeable -/
def k4 : Class := { plain "java/io/Closeable" (some 0) with
  accessFlags := 1537
  interfaces := #[3]
  cf := some (fileOf pool4 1 #[] #[] 1537 3 #[5] #[])
  fields := #[]
  methods := #[]
  instanceTypes := #[]
  staticTypes := #[]
  resolved := Array.replicate 14 none
  statics := none }

def pool5 : Array CpInfo := pool [(1, .class_ 2), (0, u "java/io/Reader$1"), (2, u "<init>"), (0, u "()V"), (1, .class_ 9), (0, u "java/lang/Object"), (1, .class_ 13), (1, u "java/io/Reader"), (0, u "skipBuffer"), (0, u "[C"), (2, u "lock"), (0, u "Ljava/lang/Object;"), (117, .class_ 138), (0, u "java/lang/Readable"), (0, .class_ 140), (0, u "java/io/Closeable"), (0, u "TRANSFER_BUFFER_SIZE"), (0, u "I"), (2, u "maxSkipBufferSize")] 59

def k5m0 : Method := { name := "<init>", desc := "()V", sig := { parameters := [], returnType := none }, accessFlags := 4, code := none }
/-- java/io/Reader -/
def k5 : Class := { plain "java/io/Reader" (some 0) with
  accessFlags := 1057
  interfaces := #[2, 4]
  cf := some (fileOf pool5 11 #[.nestMembers #[1]] #[{ accessFlags := 4, nameIndex := 5, descriptorIndex := 6, attributes := #[] }] 1057 8 #[137, 139] #[{ accessFlags := 26, nameIndex := 141, descriptorIndex := 142, attributes := #[] }, { accessFlags := 4, nameIndex := 18, descriptorIndex := 19, attributes := #[] }, { accessFlags := 26, nameIndex := 145, descriptorIndex := 142, attributes := #[] }, { accessFlags := 2, nameIndex := 14, descriptorIndex := 15, attributes := #[] }])
  fields := #[{ name := "TRANSFER_BUFFER_SIZE", type := .int, accessFlags := 26, slot := 0, constantValue := 0 }, { name := "lock", type := (.object "java/lang/Object"), accessFlags := 4, slot := 0, constantValue := 0 }, { name := "maxSkipBufferSize", type := .int, accessFlags := 26, slot := 1, constantValue := 0 }, { name := "skipBuffer", type := (.array .char), accessFlags := 2, slot := 1, constantValue := 0 }]
  methods := #[k5m0]
  instanceTypes := #[(.object "java/lang/Object"), (.array .char)]
  staticTypes := #[.int, .int]
  resolved := Array.replicate 205 none
  statics := none }

def pool6 : Array CpInfo := pool [(4, .class_ 6), (1, u "java/io/Reader"), (15, .class_ 24), (1, u "com/example/kontraktor/kontraktor/cli/InputFile"), (0, u "decoder"), (0, u "Ljava/nio/charset/CharsetDecoder;"), (12, u "bytes"), (0, u "Ljava/nio/ByteBuffer;"), (2, u "file"), (0, u "Ljava/lang/String;"), (2, u "channel"), (0, u "Ljava/nio/channels/ReadableByteChannel;"), (74, u "TIME"), (0, u "Ljava/time/format/DateTimeFormatter;"), (52, u "THOUSANDS_SEPARATORS"), (0, u "Ljava/util/Map;"), (34, .class_ 214), (0, u "com/example/kontraktor/kontraktor/cli/InputFile$NotUtf8"), (13, u "allDecoded"), (0, u "Z"), (2, u "allRead"), (8, u "begun"), (12, u "breaks"), (0, u "J"), (23, u "last"), (0, u "C"), (2, u "beginsLineBreak"), (0, u "(CC)Z"), (45, u "MAX_ITEM"), (0, u "I"), (2, u "DECIMAL_POINT"), (1, u "DECIMAL_COMMA"), (1, u "BYTES"), (1, u "BYTE_ORDER_MARK"), (0, u "QUOTED_FIGURE")] 65

def k6c0 : Code := { maxStack := 2, maxLocals := 2, code := prog_18_method_4_code, exceptionTable := #[], attributes := #[] }
def k6m0 : Method := { name := "beginsLineBreak", desc := "(CC)Z", sig := { parameters := [.char, .char], returnType := some .boolean }, accessFlags := 8, code := some k6c0 }
/-- com/example/kontraktor/kontraktor/cli/InputFile -/
def k6 : Class := { plain "com/example/kontraktor/kontraktor/cli/InputFile" (some 5) with
  accessFlags := 48
  interfaces := #[]
  cf := some (fileOf pool6 22 #[.nestMembers #[213]] #[{ accessFlags := 8, nameIndex := 283, descriptorIndex := 284, attributes := #[] }] 48 4 #[] #[{ accessFlags := 24, nameIndex := 330, descriptorIndex := 331, attributes := #[] }, { accessFlags := 24, nameIndex := 334, descriptorIndex := 280, attributes := #[] }, { accessFlags := 24, nameIndex := 336, descriptorIndex := 280, attributes := #[] }, { accessFlags := 26, nameIndex := 338, descriptorIndex := 331, attributes := #[] }, { accessFlags := 26, nameIndex := 340, descriptorIndex := 280, attributes := #[] }, { accessFlags := 26, nameIndex := 123, descriptorIndex := 124, attributes := #[] }, { accessFlags := 26, nameIndex := 341, descriptorIndex := 331, attributes := #[] }, { accessFlags := 26, nameIndex := 177, descriptorIndex := 178, attributes := #[] }, { accessFlags := 18, nameIndex := 43, descriptorIndex := 44, attributes := #[] }, { accessFlags := 18, nameIndex := 47, descriptorIndex := 48, attributes := #[] }, { accessFlags := 18, nameIndex := 25, descriptorIndex := 26, attributes := #[] }, { accessFlags := 18, nameIndex := 39, descriptorIndex := 40, attributes := #[] }, { accessFlags := 2, nameIndex := 232, descriptorIndex := 229, attributes := #[] }, { accessFlags := 2, nameIndex := 228, descriptorIndex := 229, attributes := #[] }, { accessFlags := 2, nameIndex := 241, descriptorIndex := 229, attributes := #[] }, { accessFlags := 2, nameIndex := 254, descriptorIndex := 255, attributes := #[] }, { accessFlags := 2, nameIndex := 279, descriptorIndex := 280, attributes := #[] }])
  fields := #[{ name := "MAX_ITEM", type := .int, accessFlags := 24, slot := 0, constantValue := 0 }, { name := "DECIMAL_POINT", type := .char, accessFlags := 24, slot := 1, constantValue := 0 }, { name := "DECIMAL_COMMA", type := .char, accessFlags := 24, slot := 2, constantValue := 0 }, { name := "BYTES", type := .int, accessFlags := 26, slot := 3, constantValue := 0 }, { name := "BYTE_ORDER_MARK", type := .char, accessFlags := 26, slot := 4, constantValue := 0 }, { name := "TIME", type := (.object "java/time/format/DateTimeFormatter"), accessFlags := 26, slot := 5, constantValue := 0 }, { name := "QUOTED_FIGURE", type := .int, accessFlags := 26, slot := 6, constantValue := 0 }, { name := "THOUSANDS_SEPARATORS", type := (.object "java/util/Map"), accessFlags := 26, slot := 7, constantValue := 0 }, { name := "file", type := (.object "java/lang/String"), accessFlags := 18, slot := 2, constantValue := 0 }, { name := "channel", type := (.object "java/nio/channels/ReadableByteChannel"), accessFlags := 18, slot := 3, constantValue := 0 }, { name := "decoder", type := (.object "java/nio/charset/CharsetDecoder"), accessFlags := 18, slot := 4, constantValue := 0 }, { name := "bytes", type := (.object "java/nio/ByteBuffer"), accessFlags := 18, slot := 5, constantValue := 0 }, { name := "allRead", type := .boolean, accessFlags := 2, slot := 6, constantValue := 0 }, { name := "allDecoded", type := .boolean, accessFlags := 2, slot := 7, constantValue := 0 }, { name := "begun", type := .boolean, accessFlags := 2, slot := 8, constantValue := 0 }, { name := "breaks", type := .long, accessFlags := 2, slot := 9, constantValue := 0 }, { name := "last", type := .char, accessFlags := 2, slot := 10, constantValue := 0 }]
  methods := #[k6m0]
  instanceTypes := #[(.object "java/lang/Object"), (.array .char), (.object "java/lang/String"), (.object "java/nio/channels/ReadableByteChannel"), (.object "java/nio/charset/CharsetDecoder"), (.object "java/nio/ByteBuffer"), .boolean, .boolean, .boolean, .long, .char]
  staticTypes := #[.int, .char, .char, .int, .char, (.object "java/time/format/DateTimeFormatter"), .int, (.object "java/util/Map")]
  resolved := Array.replicate 407 none
  statics := none }

def pool7 : Array CpInfo := pool [(1, u "java/lang/Cloneable"), (0, .class_ 1), (0, u "java/lang/Object"), (0, .class_ 3)] 3

/-- java/lang/Cloneable -/
def k7 : Class := { plain "java/lang/Cloneable" (some 0) with
  accessFlags := 1537
  interfaces := #[]
  cf := some (fileOf pool7 2 #[] #[] 1537 4 #[] #[])
  fields := #[]
  methods := #[]
  instanceTypes := #[]
  staticTypes := #[]
  resolved := Array.replicate 8 none
  statics := none }

def pool8 : Array CpInfo := pool [(1, u "java/io/Serializable"), (0, .class_ 1), (0, u "java/lang/Object"), (0, .class_ 3)] 3

/-- java/io/Serializable -/
def k8 : Class := { plain "java/io/Serializable" (some 0) with
  accessFlags := 1537
  interfaces := #[]
  cf := some (fileOf pool8 2 #[] #[] 1537 4 #[] #[])
  fields := #[]
  methods := #[]
  instanceTypes := #[]
  staticTypes := #[]
  resolved := Array.replicate 8 none
  statics := none }

/-- the primitive byte -/
def k9 : Class := { plain "byte" none with kind := .primitive 'B', accessFlags := 0x411 }
/-- [B -/
def k10 : Class := { plain "[B" (some 0) with kind := .array 9 .byte, interfaces := #[7, 8], accessFlags := 1041 }

/-- the primitive int -/
def k11 : Class := { plain "int" none with kind := .primitive 'I', accessFlags := 0x411 }
/-- [I -/
def k12 : Class := { plain "[I" (some 0) with kind := .array 11 .int, interfaces := #[7, 8], accessFlags := 1041 }

def heap : Heap := #[]
def classes : Array Class := #[k0, k1, k2, k3, k4, k5, k6, k7, k8, k9, k10, k11, k12]
def interned : List (Array UInt16 × Addr) := []
def slotsUsed : Nat := 0
def theMethod : MethodId := ⟨1, 3⟩
def args0 : Array Value := #[.int 13, .int 10, .int 1, .int 0]
def aboutOver (below : List Frame) : State where
  vm := { classes := classes, interned := interned.toArray }
  heap := heap
  slotsUsed := slotsUsed
  threads := #[{ frames := .invoking theMethod args0 :: below }]
def below0 : List Frame := [.native { method := ⟨0, 0⟩, args := #[] }]
def about1 : State := aboutOver below0
def p0 : Program := .bare "" "" ""
def e0 : Env := launch0.env 0 0 0
theorem w_frames : about1.frames = Frame.invoking theMethod args0 :: below0 := rfl
set_option maxRecDepth 65536 in
theorem w_args : argsFit about1.vm theMethod args0 = true := by decide +kernel
set_option maxRecDepth 65536 in
theorem w_heap : heapFits about1 = true := by decide +kernel
set_option maxRecDepth 65536 in
theorem w_runnable : about1.curStatus? = some .runnable := by decide +kernel
set_option maxRecDepth 65536 in
theorem w_alone : about1.alone = true := by decide +kernel
set_option maxRecDepth 65536 in
theorem w_named : about1.methodNamed? x = some theMethod := by decide +kernel
set_option maxRecDepth 65536 in
theorem w_hears : about1.hears theMethod below0 = true := by decide +kernel
set_option maxRecDepth 65536 in
theorem w_ripe : about1.ripe theMethod args0 below0 = true := by decide +kernel
theorem w_running : about1.status = .running := rfl
set_option maxRecDepth 65536 in
theorem w_room : about1.hasRoom e0.platform room_1 = true :=
  launch0.hasRoom_least _ room_1 (by decide +kernel) (by decide +kernel) (by decide +kernel) (by decide +kernel) (by decide +kernel) (by decide +kernel)
theorem allAtoms_all (ts : List Jvm.Cond) (a : Array Jvm.Value) (st : Jvm.State) : (allAtoms ts).before a st = ts.all (fun c => c.before a st) := by
  induction ts with
  | nil => rfl
  | cons c t ih =>
    show (Jvm.Cond.and c (allAtoms t)).before a st = _
    rw [Jvm.Cond.before_and, ih, List.all_cons]
def words1 : List Jvm.Cond := Jvm.Cond.code x code maxLocals ret :: tables_1
/-- a 'code' word, met by the world's own term for the bytes: nothing is compared byte by byte -/
theorem code_word {y : MethodName} {bytes : ByteArray} {mx : Nat} {rt : Option FieldType} {a : Array Value} {s : State} {m : MethodId} {meth : Method} {c : Code} (h1 : s.methodNamed? y = some m) (h2 : s.vm.method? m = some meth) (h3 : meth.code = some c) (h4 : c.code = bytes)
    (h5 : (c.maxLocals == mx && c.exceptionTable.isEmpty && decide (c.maxStack ≤ mostOperands) && decide (meth.sig.returnType = rt) && !meth.locks && decide (parseMethodDescriptor y.desc = some meth.sig)) = true) : (Jvm.Cond.code y bytes mx rt).before a s = true := by
  simp only [Bool.and_eq_true, beq_iff_eq, Bool.not_eq_true', decide_eq_true_eq] at h5
  obtain ⟨⟨⟨⟨⟨g1, g2⟩, g3⟩, g4⟩, g5⟩, g6⟩ := h5
  simp [Cond.before, Cond.holds, Cond.value, h1, h2, h3, h4, g1, g2, g3, g4, g5, g6]
def isCode : Jvm.Cond → Bool
  | .code _ _ _ _ => true
  | _ => false
theorem all_split {L : List Jvm.Cond} {P : Jvm.Cond → Bool} (h1 : L.all (fun c => isCode c || P c) = true) (h2 : ∀ c ∈ L.filter isCode, P c = true) : L.all P = true := by
  refine List.all_eq_true.mpr fun c hc => ?_
  have h := List.all_eq_true.mp h1 c hc
  rcases Bool.eq_false_or_eq_true (isCode c) with hi | hi
  · exact h2 c (List.mem_filter.mpr ⟨hc, hi⟩)
  · simpa [hi] using h
set_option maxRecDepth 65536 in
theorem w_c0 : (Jvm.Cond.code x code maxLocals ret).before args0 about1 = true := code_word (m := ⟨1, 3⟩) (meth := k1m3) (c := k1c3) (by decide +kernel) rfl rfl rfl (by decide +kernel)
set_option maxRecDepth 65536 in
theorem w_c1 : (Jvm.Cond.code ({ cls := "com/example/kontraktor/kontraktor/cli/InputFileBeginsLineBreakPinLaw", name := "pick", desc := "(I)C" } : Jvm.MethodName) method_2_code (2 : Nat) (Option.some Jvm.ClassFile.FieldType.char)).before args0 about1 = true := code_word (m := ⟨1, 1⟩) (meth := k1m1) (c := k1c1) (by decide +kernel) rfl rfl rfl (by decide +kernel)
set_option maxRecDepth 65536 in
theorem w_c2 : (Jvm.Cond.code ({ cls := "com/example/kontraktor/kontraktor/cli/InputFileBeginsLineBreakPinLaw", name := "one", desc := "(Z)I" } : Jvm.MethodName) method_3_code (1 : Nat) (Option.some Jvm.ClassFile.FieldType.int)).before args0 about1 = true := code_word (m := ⟨1, 2⟩) (meth := k1m2) (c := k1c2) (by decide +kernel) rfl rfl rfl (by decide +kernel)
set_option maxRecDepth 65536 in
theorem w_c3 : (Jvm.Cond.code ({ cls := "com/example/kontraktor/kontraktor/cli/InputFile", name := "beginsLineBreak", desc := "(CC)Z" } : Jvm.MethodName) prog_18_method_4_code (2 : Nat) (Option.some Jvm.ClassFile.FieldType.boolean)).before args0 about1 = true := code_word (m := ⟨6, 0⟩) (meth := k6m0) (c := k6c0) (by decide +kernel) rfl rfl rfl (by decide +kernel)
def codes1 : List Jvm.Cond := [Jvm.Cond.code x code maxLocals ret, Jvm.Cond.code ({ cls := "com/example/kontraktor/kontraktor/cli/InputFileBeginsLineBreakPinLaw", name := "pick", desc := "(I)C" } : Jvm.MethodName) method_2_code (2 : Nat) (Option.some Jvm.ClassFile.FieldType.char), Jvm.Cond.code ({ cls := "com/example/kontraktor/kontraktor/cli/InputFileBeginsLineBreakPinLaw", name := "one", desc := "(Z)I" } : Jvm.MethodName) method_3_code (1 : Nat) (Option.some Jvm.ClassFile.FieldType.int), Jvm.Cond.code ({ cls := "com/example/kontraktor/kontraktor/cli/InputFile", name := "beginsLineBreak", desc := "(CC)Z" } : Jvm.MethodName) prog_18_method_4_code (2 : Nat) (Option.some Jvm.ClassFile.FieldType.boolean)]
set_option maxRecDepth 65536 in
theorem codes_eq : words1.filter isCode = codes1 := rfl
theorem w_codes : ∀ c ∈ words1.filter isCode, c.before args0 about1 = true := by
  rw [codes_eq]
  intro c hc
  simp only [codes1, List.mem_cons, List.not_mem_nil, or_false] at hc
  rcases hc with rfl | rfl | rfl | rfl
  · exact w_c0
  · exact w_c1
  · exact w_c2
  · exact w_c3
set_option maxRecDepth 65536 in
theorem w_t1 : words1.all (fun c => isCode c || c.before args0 about1) = true := by decide +kernel
theorem w_tables : (allAtoms (Jvm.Cond.code x code maxLocals ret :: tables_1)).before args0 about1 = true := by
  rw [allAtoms_all]
  show words1.all (fun c => c.before args0 about1) = true
  refine all_split ?_ w_codes
  rw [w_t1]
set_option maxRecDepth 65536 in
theorem w_case : (Jvm.Cond.and given_1 narrow_1).before args0 about1 = true := by decide +kernel
theorem w_applies : (headSpec (Jvm.Cond.code x code maxLocals ret :: tables_1) room_1).applies x e0.platform about1 = true :=
  (Spec.applies_iff w_frames).mpr ⟨w_running, w_runnable, w_alone, w_named, w_hears, w_ripe, w_room, w_tables⟩
theorem atStart : AtStart classFile x code maxLocals ret World_1 tables_1 room_1 Calls_1 rest_1 Pre_1 launch0 p0 e0 about1 theMethod args0 below0 :=
  ⟨lists_1, trivial, launch0.admits_env _ _ _, launch0.least_env, fairChoices_fair.cas, fairChoices_fair.clock, w_frames, w_args, w_heap, w_applies, trivial, trivial, w_case⟩
end start1
theorem witness_1 : WitnessClaimed_1 := ⟨start1.p0, start1.e0, start1.about1, start1.theMethod, start1.args0, start1.below0, start1.atStart⟩
end Jvm.Pilot.@@N@@
