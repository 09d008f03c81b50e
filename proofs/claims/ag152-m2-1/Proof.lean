import JvmDerived
import JvmDerived.Pilot.@@N@@Statement
import JvmDerived.Pilot.@@N@@Code
set_option linter.unusedVariables false
set_option linter.unusedSimpArgs false
namespace Jvm.Pilot.@@N@@
open Jvm Jvm.ClassFile Sem Op Lib Jvm.Free Jvm.Stand Jvm.LawKit Jvm.RoadKit Bundle Jvm.Pilot.@@N@@.Jvm.D
/-! own small kit: the goal of a walk, backward; the leaves -/
def Gl (tb : Tables) (e : Env) (below : List Frame) (QQ : Outcome → State → Prop) (st : State) : Prop := ∃ s₂ o, Steps tb e below st s₂ ∧ s₂.status = .running ∧ Ended s₂ below o ∧ QQ o s₂
theorem Gl.go {tb : Tables} {e : Env} {below : List Frame} {QQ : Outcome → State → Prop} {st st' : State} (h : ∀ t, Steps tb e below st' t → Steps tb e below st t) (g : Gl tb e below QQ st') : Gl tb e below QQ st := by
  obtain ⟨s2, o, h1, h2⟩ := g
  exact ⟨s2, o, h _ h1, h2⟩
def QQof (s : State) (Q : Option Value → Heap → List Loc → Prop) (k n : Nat) : Outcome → State → Prop := fun o U => ∃ v L, o = .returned v ∧ Q v U.heap L ∧ FrameEnd s o U L k n
section Leaf
variable {p : Program} {l : Launch} {e : Env} {R : Room} {s : State} {m : MethodId} {args : Array Value} {below : List Frame} {meth : Method} {c : Code} {T : State} {locs : List Loc} {cells slots : Nat} {pc : Nat} {Ls : Array Slot} {rest : List Value} {Q : Option Value → Heap → List Loc → Prop} {k n : Nat}
theorem leafN (X : Stand p l e R s m args below meth c T locs cells slots) (hx : p.tables.exec = Jvm.exec) (hlk : meth.locks = false) {z : Int32} {t : FieldType} (hret : meth.sig.returnType = some t) (ht : t = .boolean ∨ t = .byte ∨ t = .char ∨ t = .short) (hd : decode c.code pc = .ok (.ireturn, 1))
    (hq : Q (some (.int (nar t z))) T.heap locs) (hk : cells ≤ k) (hn : slots ≤ n) : Gl p.tables e below (QQof s Q k n) (T.setTop (mkF m pc Ls (.int z :: rest))) := by
  obtain ⟨fs, hr, hrun, hended, hW, hsame⟩ := X.leave (v := some (.int (nar t z))) (fun h => by rw [hret] at h; cases h) hlk
  exact ⟨_, _, retN X hx hret ht hd hr, hrun, hended, _, _, rfl, hq, ⟨_, rfl⟩, hW, hsame.mono hk hn⟩
theorem leafI (X : Stand p l e R s m args below meth c T locs cells slots) (hx : p.tables.exec = Jvm.exec) (hlk : meth.locks = false) {z : Int32} (hret : meth.sig.returnType = some .int) (hd : decode c.code pc = .ok (.ireturn, 1))
    (hq : Q (some (.int z)) T.heap locs) (hk : cells ≤ k) (hn : slots ≤ n) : Gl p.tables e below (QQof s Q k n) (T.setTop (mkF m pc Ls (.int z :: rest))) := by
  obtain ⟨fs, hr, hrun, hended, hW, hsame⟩ := X.leave (v := some (.int z)) (fun h => by rw [hret] at h; cases h) hlk
  exact ⟨_, _, retOut X hx hret rfl (Or.inl ⟨rfl, Or.inl rfl, _, rfl⟩) hd hr, hrun, hended, _, _, rfl, hq, ⟨_, rfl⟩, hW, hsame.mono hk hn⟩
theorem leafL (X : Stand p l e R s m args below meth c T locs cells slots) (hx : p.tables.exec = Jvm.exec) (hlk : meth.locks = false) {z : Int64} (hret : meth.sig.returnType = some .long) (hd : decode c.code pc = .ok (.lreturn, 1))
    (hq : Q (some (.long z)) T.heap locs) (hk : cells ≤ k) (hn : slots ≤ n) : Gl p.tables e below (QQof s Q k n) (T.setTop (mkF m pc Ls (.long z :: rest))) := by
  obtain ⟨fs, hr, hrun, hended, hW, hsame⟩ := X.leave (v := some (.long z)) (fun h => by rw [hret] at h; cases h) hlk
  exact ⟨_, _, retOut X hx hret rfl (Or.inr (Or.inl ⟨rfl, rfl, _, rfl⟩)) hd hr, hrun, hended, _, _, rfl, hq, ⟨_, rfl⟩, hW, hsame.mono hk hn⟩
theorem leafD (X : Stand p l e R s m args below meth c T locs cells slots) (hx : p.tables.exec = Jvm.exec) (hlk : meth.locks = false) {z : UInt64} (hret : meth.sig.returnType = some .double) (hd : decode c.code pc = .ok (.dreturn, 1))
    (hq : Q (some (.double z)) T.heap locs) (hk : cells ≤ k) (hn : slots ≤ n) : Gl p.tables e below (QQof s Q k n) (T.setTop (mkF m pc Ls (.double z :: rest))) := by
  obtain ⟨fs, hr, hrun, hended, hW, hsame⟩ := X.leave (v := some (.double z)) (fun h => by rw [hret] at h; cases h) hlk
  exact ⟨_, _, retOut X hx hret rfl (Or.inr (Or.inr (Or.inl ⟨rfl, rfl, _, rfl⟩))) hd hr, hrun, hended, _, _, rfl, hq, ⟨_, rfl⟩, hW, hsame.mono hk hn⟩
theorem narrowR {t : FieldType} {w : Value} (ht : t.isReference = true) (hw : w.isRef = true) : narrow t w = w := by
  cases w <;> simp [Value.isRef] at hw <;> cases t <;> simp [FieldType.isReference] at ht <;> rfl
theorem leafA (X : Stand p l e R s m args below meth c T locs cells slots) (hx : p.tables.exec = Jvm.exec) (hlk : meth.locks = false) {w : Value} {t : FieldType} (hret : meth.sig.returnType = some t) (ht : t.isReference = true) (hw : w.isRef = true) (hd : decode c.code pc = .ok (.areturn, 1))
    (hq : Q (some w) T.heap locs) (hk : cells ≤ k) (hn : slots ≤ n) : Gl p.tables e below (QQof s Q k n) (T.setTop (mkF m pc Ls (w :: rest))) := by
  obtain ⟨fs, hr, hrun, hended, hW, hsame⟩ := X.leave (v := some w) (fun h => by rw [hret] at h; cases h) hlk
  exact ⟨_, _, retOut X hx hret (narrowR ht hw) (Or.inr (Or.inr (Or.inr (Or.inr ⟨rfl, ht, hw⟩)))) hd hr, hrun, hended, _, _, rfl, hq, ⟨_, rfl⟩, hW, hsame.mono hk hn⟩
theorem leafV (X : Stand p l e R s m args below meth c T locs cells slots) (hx : p.tables.exec = Jvm.exec) (hlk : meth.locks = false) (hret : meth.sig.returnType = none) (hd : decode c.code pc = .ok (.return_, 1))
    (hq : Q none T.heap locs) (hk : cells ≤ k) (hn : slots ≤ n) : Gl p.tables e below (QQof s Q k n) (T.setTop (mkF m pc Ls [])) := by
  obtain ⟨fs, hr, hrun, hended, hW, hsame⟩ := X.leave (v := none) (fun _ => rfl) hlk
  exact ⟨_, _, X.returnOut hx hret hd hr, hrun, hended, _, _, rfl, hq, ⟨_, rfl⟩, hW, hsame.mono hk hn⟩
end Leaf
theorem fitsR {t : FieldType} {w : Value} (ht : t.isReference = true) (hw : w.isRef = true) : fits t w = true := by
  cases w <;> simp [Value.isRef] at hw <;> cases t <;> simp [FieldType.isReference] at ht <;> rfl
theorem nar1 : nar .boolean (1 : Int32) = 1 := by decide
theorem nar0 : nar .boolean (0 : Int32) = 0 := by decide
theorem int_at {args : Array Value} {s : State} {t : Term} {k : Int32} (h : (Jvm.Cond.eq t (.int k)).value args s none s [] = some true) : t.eval args s none [] s = some (.int k) := by
  obtain ⟨x, y, hx, hy, kx, ky⟩ := cmp_v (Or.inl h)
  have hk : y = .int k := Option.some.inj (hy.symm.trans (Term.int_eval k))
  subst hk
  obtain ⟨z, rfl⟩ := ky
  have hz := gotT (Cond.eq_ints hx (Term.int_eval k)) h
  rw [hx, hz]
theorem fld_int {args : Array Value} {s : State} {t : Term} {C n d : String} {k : Int32} {x : Addr} (ht : t.eval args s none [] s = some (.ref x)) (h : (Jvm.Cond.eq (.field t C n d) (.int k)).value args s none s [] = some true) : Fld s s.heap x C n d (.int k) := Fld.start ((fld_at ht).symm.trans (int_at h))
theorem ref_at {args : Array Value} {s : State} {a b : Term} {x : Addr} (hb : b.eval args s none [] s = some (.ref x)) (h : (Jvm.Cond.eq a b).value args s none s [] = some true) : a.eval args s none [] s = some (.ref x) := by
  obtain ⟨y, z, hy, hz, ky, kz⟩ := cmp_v (Or.inl h)
  have hk : z = .ref x := Option.some.inj (hz.symm.trans hb)
  subst hk
  have hr : y.isRef = true := kz.2
  have he := gotT (eq_R hy hb hr rfl) h
  rw [hy, he]
theorem ext_of_keep {h h' : Heap} (K : Keep h h' []) : Ext h h' := ⟨K.1, fun a c q => K.2.1 a c q nin0⟩
theorem arr_len {args : Array Value} {s : State} {t : Term} {a : Addr} {cl : Cell} {ty : FieldType} {k : Int32} (ev : t.eval args s none [] s = some (.ref a)) (A : Arr s s.heap a cl ty) (h : (Jvm.Cond.eq (.length t) (.int k)).value args s none s [] = some true) : cl.slots.size < 2 ^ 31 ∧ cl.slots.size.toInt32 = k := by
  obtain ⟨b, cell, e1, e2, e3, e4⟩ := Jvm.Lib.length_spec (int_at h)
  have hb : a = b := Value.ref.inj (Option.some.inj (ev.symm.trans e1))
  subst hb
  have hc : cl = cell := Option.some.inj ((A.fin (Vm.Alike.refl _)).symm.trans e2)
  subst hc
  exact ⟨e3, (Value.int.inj e4).symm⟩
theorem arr_elem {args : Array Value} {s : State} {t : Term} {a : Addr} {cl : Cell} {ty : FieldType} {j : Int32} {v : Value} (ev : t.eval args s none [] s = some (.ref a)) (A : Arr s s.heap a cl ty) (h : (Term.elem t (.int j)).eval args s none [] s = some v) : cl.slots[j.toNatClampNeg]? = some v := (elem_in h ev (Term.int_eval j) A.1).2
def fakeV (v : Value) : Int32 := match v with | .null => (1 : Int32) | _ => (0 : Int32)
theorem pn_0 : plainName "com/example/frosted_rows/frostedrows/snapshot/Row" = true := by first | (simp [plainName, overriddenIn]; done) | decide +kernel
theorem ef_rinit (m : MethodId) (x0 : Addr) (x1 : Int32) (x2 : Value) (x2_r : x2.isRef = true) (x3 : Value) (x3_r : x3.isRef = true) (x4 : Int32) : entryFrame m #[(.ref x0), (.int x1), x2, x3, (.int x4)] 5 = mkF m 0 #[.val (.ref x0), .val (.int x1), .val x2, .val x3, .val (.int x4)] [] := by rcases ref_cases x2_r with rfl | ⟨_, rfl⟩ <;> rcases ref_cases x3_r with rfl | ⟨_, rfl⟩ <;> first | (simp [entryFrame, mkF, argsToLocals, Value.category]; done) | rfl
theorem d2_0 : decode prog_15_method_1_code 0 = .ok (.aload_n 0, 1) := by decide +kernel
theorem d2_1 : decode prog_15_method_1_code 1 = .ok (.invokespecial 1, 3) := by decide +kernel
theorem d2_4 : decode prog_15_method_1_code 4 = .ok (.aload_n 0, 1) := by decide +kernel
theorem d2_5 : decode prog_15_method_1_code 5 = .ok (.iload_n 1, 1) := by decide +kernel
theorem d2_6 : decode prog_15_method_1_code 6 = .ok (.putfield 7, 3) := by decide +kernel
theorem d2_9 : decode prog_15_method_1_code 9 = .ok (.aload_n 0, 1) := by decide +kernel
theorem d2_10 : decode prog_15_method_1_code 10 = .ok (.aload_n 2, 1) := by decide +kernel
theorem d2_11 : decode prog_15_method_1_code 11 = .ok (.putfield 13, 3) := by decide +kernel
theorem d2_14 : decode prog_15_method_1_code 14 = .ok (.aload_n 0, 1) := by decide +kernel
theorem d2_15 : decode prog_15_method_1_code 15 = .ok (.aload_n 3, 1) := by decide +kernel
theorem d2_16 : decode prog_15_method_1_code 16 = .ok (.putfield 17, 3) := by decide +kernel
theorem d2_19 : decode prog_15_method_1_code 19 = .ok (.aload_n 0, 1) := by decide +kernel
theorem d2_20 : decode prog_15_method_1_code 20 = .ok (.iload 4, 2) := by decide +kernel
theorem d2_22 : decode prog_15_method_1_code 22 = .ok (.putfield 21, 3) := by decide +kernel
theorem d2_25 : decode prog_15_method_1_code 25 = .ok (.return_, 1) := by decide +kernel
theorem ef_fac (m : MethodId) (x0 : Int32) : entryFrame m #[(.int x0)] 1 = mkF m 0 #[.val (.int x0)] [] := by first | (simp [entryFrame, mkF, argsToLocals, Value.category]; done) | rfl
theorem d1_0 : decode prog_15_method_2_code 0 = .ok (.new 8, 3) := by decide +kernel
theorem d1_3 : decode prog_15_method_2_code 3 = .ok (.dup, 1) := by decide +kernel
theorem d1_4 : decode prog_15_method_2_code 4 = .ok (.iconst (-1), 1) := by decide +kernel
theorem d1_5 : decode prog_15_method_2_code 5 = .ok (.aconst_null, 1) := by decide +kernel
theorem d1_6 : decode prog_15_method_2_code 6 = .ok (.aconst_null, 1) := by decide +kernel
theorem d1_7 : decode prog_15_method_2_code 7 = .ok (.iload_n 0, 1) := by decide +kernel
theorem pd_0 : parseMethodDescriptor "(ILjava/lang/String;[II)V" = some ⟨[.int, (.object "java/lang/String"), (.array .int), .int], none⟩ := by decide +kernel
theorem d1_8 : decode prog_15_method_2_code 8 = .ok (.invokespecial 24, 3) := by decide +kernel
theorem d1_11 : decode prog_15_method_2_code 11 = .ok (.areturn, 1) := by decide +kernel
theorem ef_fake (m : MethodId) (x0 : Addr) : entryFrame m #[(.ref x0)] 1 = mkF m 0 #[.val (.ref x0)] [] := by first | (simp [entryFrame, mkF, argsToLocals, Value.category]; done) | rfl
theorem d4_0 : decode prog_15_method_3_code 0 = .ok (.aload_n 0, 1) := by decide +kernel
theorem d4_1 : decode prog_15_method_3_code 1 = .ok (.getfield 17, 3) := by decide +kernel
theorem d4_4 : decode prog_15_method_3_code 4 = .ok (.ifnonnull 7, 3) := by decide +kernel
theorem d4_7 : decode prog_15_method_3_code 7 = .ok (.iconst 1, 1) := by decide +kernel
theorem d4_8 : decode prog_15_method_3_code 8 = .ok (.goto 4, 3) := by decide +kernel
theorem d4_12 : decode prog_15_method_3_code 12 = .ok (.ireturn, 1) := by decide +kernel
theorem d4_11 : decode prog_15_method_3_code 11 = .ok (.iconst 0, 1) := by decide +kernel
theorem ef_sens (m : MethodId) (x0 : Addr) : entryFrame m #[(.ref x0)] 1 = mkF m 0 #[.val (.ref x0)] [] := by first | (simp [entryFrame, mkF, argsToLocals, Value.category]; done) | rfl
theorem d5_0 : decode prog_15_method_7_code 0 = .ok (.aload_n 0, 1) := by decide +kernel
theorem d5_1 : decode prog_15_method_7_code 1 = .ok (.getfield 21, 3) := by decide +kernel
theorem d5_4 : decode prog_15_method_7_code 4 = .ok (.ireturn, 1) := by decide +kernel
theorem pn_1 : plainName "com/example/frosted_rows/frostedrows/snapshot/RowCounterfeit409PinLaw" = true := by first | (simp [plainName, overriddenIn]; done) | decide +kernel
theorem ef_law (m : MethodId) (x0 : Int32) (x1 : Int32) : entryFrame m #[(.int x0), (.int x1)] maxLocals = mkF m 0 #[.val (.int x0), .val (.int x1), .unset, .unset, .unset, .unset] [] := by first | (simp [entryFrame, mkF, argsToLocals, Value.category, maxLocals]; done) | rfl
theorem pd_1 : parseMethodDescriptor "(I)Lcom/example/frosted_rows/frostedrows/snapshot/Row;" = some ⟨[.int], some (.object "com/example/frosted_rows/frostedrows/snapshot/Row")⟩ := by decide +kernel
theorem pd_2 : parseMethodDescriptor "()Z" = some ⟨[], some .boolean⟩ := by decide +kernel
theorem pd_3 : parseMethodDescriptor "()I" = some ⟨[], some .int⟩ := by decide +kernel
def Q_rinit (Z : State) (a1 : Addr) (pi : Int32) (vid vqi : Value) (ps : Int32) (u_index u_id u_qi u_sensitive : Value) (h0 : Heap) (n0 : Nat) (v : Option Value) (h : Heap) (L : List Loc) : Prop := v = none ∧ Fr n0 L ∧ Keep h0 h [a1] ∧ Exa Z h a1 "com/example/frosted_rows/frostedrows/snapshot/Row" ∧ Fld Z h a1 "com/example/frosted_rows/frostedrows/snapshot/Row" "qi" "[I" vqi ∧ Fld Z h a1 "com/example/frosted_rows/frostedrows/snapshot/Row" "sensitive" "I" (.int ps)
set_option maxRecDepth 65536 in
set_option maxHeartbeats 40000000 in
theorem rm_rinit (l : Launch) (Z : State) (a0 : Array Value) (hw : ∀ d ∈ tables_1, d.before a0 Z = true) (ws : List Jvm.Cond) (a1 : Addr) (pi : Int32) (vid vqi : Value) (ps : Int32) (u_index u_id u_qi u_sensitive : Value) (h0 : Heap) (n0 : Nat) (Z0 : n0 ≤ h0.size) (vid_r : vid.isRef = true) (vqi_r : vqi.isRef = true) (E_a1 : Exa Z h0 a1 "com/example/frosted_rows/frostedrows/snapshot/Row") (F_index : Fld Z h0 a1 "com/example/frosted_rows/frostedrows/snapshot/Row" "index" "I" u_index) (F_id : Fld Z h0 a1 "com/example/frosted_rows/frostedrows/snapshot/Row" "id" "Ljava/lang/String;" u_id) (F_qi : Fld Z h0 a1 "com/example/frosted_rows/frostedrows/snapshot/Row" "qi" "[I" u_qi) (F_sensitive : Fld Z h0 a1 "com/example/frosted_rows/frostedrows/snapshot/Row" "sensitive" "I" u_sensitive) (g_a1 : n0 ≤ a1) :
    MetFree l (⟨"com/example/frosted_rows/frostedrows/snapshot/Row", "<init>", "(ILjava/lang/String;[II)V"⟩ : MethodName) (head1 (Jvm.Cond.code (⟨"com/example/frosted_rows/frostedrows/snapshot/Row", "<init>", "(ILjava/lang/String;[II)V"⟩ : MethodName) prog_15_method_1_code 5 none :: ws) ({ frames := 1, cells := 0, slots := 0, locals := 12 } : Room)) (fun aa U => aa = #[(.ref a1), (.int pi), vid, vqi, (.int ps)] ∧ Z.Warmed39 U.vm ∧ U.heap = h0) (fun _ _ _ _ _ => True) (fun _ U o U' => ∃ v L, o = .returned v ∧ Q_rinit Z a1 pi vid vqi ps u_index u_id u_qi u_sensitive h0 n0 v U'.heap L ∧ FrameEnd U o U' L ({ frames := 1, cells := 0, slots := 0, locals := 12 } : Room).cells ({ frames := 1, cells := 0, slots := 0, locals := 12 } : Room).slots) := by
  refine MetFree.of_bodySF (plainFor_of_name pn_0) hisR ?_
  intro p e s m args below meth c s₁ Bd hml0 hP hK
  obtain ⟨rfl, hZ, hh⟩ := hP
  have hx := Bd.exec
  have hby := Bd.bytes
  have hml : c.maxLocals = 5 := hml0
  have hown : s.vm.findClass "com/example/frosted_rows/frostedrows/snapshot/Row" = some m.cls := findClass_of_methodNamed Bd.named
  have hnm := (name_of_methodNamed Bd.named Bd.method).1
  have hlk : meth.locks = false := BodyLoose.notSynchronized Bd
  have X0 : Stand p l e ({ frames := 1, cells := 0, slots := 0, locals := 12 } : Room) s m #[(.ref a1), (.int pi), vid, vqi, (.int ps)] below meth c s₁ [] 0 0 := Stand.of_body Bd
  have e0 : s₁.heap = h0 := by rw [← hh, Bd.state]; rfl
  have N0 := Fr.nil n0
  have K0 : Keep h0 h0 [a1] := Keep.refl _ _
  show Gl p.tables e below (QQof s (Q_rinit Z a1 pi vid vqi ps u_index u_id u_qi u_sensitive h0 n0) 0 0) (s₁.setTop (entryFrame m #[(.ref a1), (.int pi), vid, vqi, (.int ps)] 5))
  refine Gl.go (fun t k => castTop (ef_rinit m a1 pi vid vid_r vqi vqi_r ps) k) ?_
  show Gl p.tables e below (QQof s (Q_rinit Z a1 pi vid vqi ps u_index u_id u_qi u_sensitive h0 n0) 0 0) (s₁.setTop (mkF m 0 #[.val (.ref a1), .val (.int pi), .val vid, .val vqi, .val (.int ps)] []))
  refine Gl.go (fun _ k => XS.aloadN X0.here hx rfl (hb hby d2_0) rfl rfl  k) ?_
  show Gl p.tables e below (QQof s (Q_rinit Z a1 pi vid vqi ps u_index u_id u_qi u_sensitive h0 n0) 0 0) (s₁.setTop (mkF m 1 #[.val (.ref a1), .val (.int pi), .val vid, .val vqi, .val (.int ps)] [(.ref a1)]))
  obtain ⟨T1, X1, e1, st1⟩ := initO X0 hx hZ hown (hw _ (List.mem_of_getElem? (i := 9) rfl)) (hw _ (List.mem_of_getElem? (i := 10) rfl)) (hw _ (List.mem_of_getElem? (i := 11) rfl)) e0 (g := (mkF m 1 #[.val (.ref a1), .val (.int pi), .val vid, .val vqi, .val (.int ps)] [(.ref a1)])) rfl (by rw [hml]; rfl) rfl (hb hby d2_1) (by decide) (W := 0) (by show 2 * 0 + _ ≤ _; exact Nat.le_of_eq rfl) (by decide)
  refine Gl.go (fun _ k => st1 _ k) ?_
  show Gl p.tables e below (QQof s (Q_rinit Z a1 pi vid vqi ps u_index u_id u_qi u_sensitive h0 n0) 0 0) (T1.setTop (mkF m 4 #[.val (.ref a1), .val (.int pi), .val vid, .val vqi, .val (.int ps)] []))
  refine Gl.go (fun _ k => XS.aloadN X1.here hx rfl (hb hby d2_4) rfl rfl  k) ?_
  show Gl p.tables e below (QQof s (Q_rinit Z a1 pi vid vqi ps u_index u_id u_qi u_sensitive h0 n0) 0 0) (T1.setTop (mkF m 5 #[.val (.ref a1), .val (.int pi), .val vid, .val vqi, .val (.int ps)] [(.ref a1)]))
  refine Gl.go (fun _ k => XS.iloadN X1.here hx rfl (hb hby d2_5) rfl  k) ?_
  show Gl p.tables e below (QQof s (Q_rinit Z a1 pi vid vqi ps u_index u_id u_qi u_sensitive h0 n0) 0 0) (T1.setTop (mkF m 6 #[.val (.ref a1), .val (.int pi), .val vid, .val vqi, .val (.int ps)] [(.int pi), (.ref a1)]))
  obtain ⟨T2, h2, X2, e2, W2, st2⟩ := putF X1 hx hZ hown (host := "") (Or.inl (hw _ (List.mem_of_getElem? (i := 12) rfl))) Via.refl e1 F_index E_a1 (Or.inr ⟨(hw _ (List.mem_of_getElem? (i := 13) rfl)), rfl, hnm⟩) (hw _ (List.mem_of_getElem? (i := 5) rfl)) (ty := .int) (by decide) rfl rfl (g := (mkF m 6 #[.val (.ref a1), .val (.int pi), .val vid, .val vqi, .val (.int ps)] [(.int pi), (.ref a1)])) rfl rfl (hb hby d2_6)
  have E_a1_2 : Exa Z h2 a1 "com/example/frosted_rows/frostedrows/snapshot/Row" := E_a1.wr W2
  have F_a1_index_2 : Fld Z h2 a1 "com/example/frosted_rows/frostedrows/snapshot/Row" "index" "I" (.int pi) := F_index.same W2
  have F_a1_id_2 : Fld Z h2 a1 "com/example/frosted_rows/frostedrows/snapshot/Row" "id" "Ljava/lang/String;" u_id := F_id.other W2 (Or.inr (slot_ne (t := (.object "java/lang/String")) (t' := .int) (Or.inr (hw _ (List.mem_of_getElem? (i := 15) rfl))) (Or.inr (hw _ (List.mem_of_getElem? (i := 13) rfl))) (by decide) (by decide) (by decide)))
  have F_a1_qi_2 : Fld Z h2 a1 "com/example/frosted_rows/frostedrows/snapshot/Row" "qi" "[I" u_qi := F_qi.other W2 (Or.inr (slot_ne (t := (.array .int)) (t' := .int) (Or.inr (hw _ (List.mem_of_getElem? (i := 17) rfl))) (Or.inr (hw _ (List.mem_of_getElem? (i := 13) rfl))) (by decide) (by decide) (by decide)))
  have F_a1_sensitive_2 : Fld Z h2 a1 "com/example/frosted_rows/frostedrows/snapshot/Row" "sensitive" "I" u_sensitive := F_sensitive.other W2 (Or.inr (slot_ne (t := .int) (t' := .int) (Or.inr (hw _ (List.mem_of_getElem? (i := 19) rfl))) (Or.inr (hw _ (List.mem_of_getElem? (i := 13) rfl))) (by decide) (by decide) (by decide)))
  have SZ2 : n0 ≤ h2.size := by rw [Wr.size W2]; exact Z0
  have K2 : Keep h0 h2 [a1] := K0.wr W2 (Or.inl (List.mem_of_getElem? (i := 0) rfl))
  have N2 := Fr.snoc X2 N0 g_a1
  refine Gl.go (fun _ k => st2 _ k) ?_
  show Gl p.tables e below (QQof s (Q_rinit Z a1 pi vid vqi ps u_index u_id u_qi u_sensitive h0 n0) 0 0) (T2.setTop (mkF m 9 #[.val (.ref a1), .val (.int pi), .val vid, .val vqi, .val (.int ps)] []))
  refine Gl.go (fun _ k => XS.aloadN X2.here hx rfl (hb hby d2_9) rfl rfl  k) ?_
  show Gl p.tables e below (QQof s (Q_rinit Z a1 pi vid vqi ps u_index u_id u_qi u_sensitive h0 n0) 0 0) (T2.setTop (mkF m 10 #[.val (.ref a1), .val (.int pi), .val vid, .val vqi, .val (.int ps)] [(.ref a1)]))
  refine Gl.go (fun _ k => XS.aloadN X2.here hx rfl (hb hby d2_10) rfl vid_r  k) ?_
  show Gl p.tables e below (QQof s (Q_rinit Z a1 pi vid vqi ps u_index u_id u_qi u_sensitive h0 n0) 0 0) (T2.setTop (mkF m 11 #[.val (.ref a1), .val (.int pi), .val vid, .val vqi, .val (.int ps)] [vid, (.ref a1)]))
  obtain ⟨T3, h3, X3, e3, W3, st3⟩ := putF X2 hx hZ hown (host := "") (Or.inl (hw _ (List.mem_of_getElem? (i := 14) rfl))) Via.refl e2 F_a1_id_2 E_a1_2 (Or.inr ⟨(hw _ (List.mem_of_getElem? (i := 15) rfl)), rfl, hnm⟩) (hw _ (List.mem_of_getElem? (i := 5) rfl)) (ty := (.object "java/lang/String")) (by decide) (narrowR rfl vid_r) (fitsR rfl vid_r) (g := (mkF m 11 #[.val (.ref a1), .val (.int pi), .val vid, .val vqi, .val (.int ps)] [vid, (.ref a1)])) rfl rfl (hb hby d2_11)
  have E_a1_3 : Exa Z h3 a1 "com/example/frosted_rows/frostedrows/snapshot/Row" := E_a1_2.wr W3
  have F_a1_index_3 : Fld Z h3 a1 "com/example/frosted_rows/frostedrows/snapshot/Row" "index" "I" (.int pi) := F_a1_index_2.other W3 (Or.inr (slot_ne (t := .int) (t' := (.object "java/lang/String")) (Or.inr (hw _ (List.mem_of_getElem? (i := 13) rfl))) (Or.inr (hw _ (List.mem_of_getElem? (i := 15) rfl))) (by decide) (by decide) (by decide)))
  have F_a1_id_3 : Fld Z h3 a1 "com/example/frosted_rows/frostedrows/snapshot/Row" "id" "Ljava/lang/String;" vid := F_a1_id_2.same W3
  have F_a1_qi_3 : Fld Z h3 a1 "com/example/frosted_rows/frostedrows/snapshot/Row" "qi" "[I" u_qi := F_a1_qi_2.other W3 (Or.inr (slot_ne (t := (.array .int)) (t' := (.object "java/lang/String")) (Or.inr (hw _ (List.mem_of_getElem? (i := 17) rfl))) (Or.inr (hw _ (List.mem_of_getElem? (i := 15) rfl))) (by decide) (by decide) (by decide)))
  have F_a1_sensitive_3 : Fld Z h3 a1 "com/example/frosted_rows/frostedrows/snapshot/Row" "sensitive" "I" u_sensitive := F_a1_sensitive_2.other W3 (Or.inr (slot_ne (t := .int) (t' := (.object "java/lang/String")) (Or.inr (hw _ (List.mem_of_getElem? (i := 19) rfl))) (Or.inr (hw _ (List.mem_of_getElem? (i := 15) rfl))) (by decide) (by decide) (by decide)))
  have SZ3 : n0 ≤ h3.size := by rw [Wr.size W3]; exact SZ2
  have K3 : Keep h0 h3 [a1] := K2.wr W3 (Or.inl (List.mem_of_getElem? (i := 0) rfl))
  have N3 := Fr.snoc X3 N2 g_a1
  refine Gl.go (fun _ k => st3 _ k) ?_
  show Gl p.tables e below (QQof s (Q_rinit Z a1 pi vid vqi ps u_index u_id u_qi u_sensitive h0 n0) 0 0) (T3.setTop (mkF m 14 #[.val (.ref a1), .val (.int pi), .val vid, .val vqi, .val (.int ps)] []))
  refine Gl.go (fun _ k => XS.aloadN X3.here hx rfl (hb hby d2_14) rfl rfl  k) ?_
  show Gl p.tables e below (QQof s (Q_rinit Z a1 pi vid vqi ps u_index u_id u_qi u_sensitive h0 n0) 0 0) (T3.setTop (mkF m 15 #[.val (.ref a1), .val (.int pi), .val vid, .val vqi, .val (.int ps)] [(.ref a1)]))
  refine Gl.go (fun _ k => XS.aloadN X3.here hx rfl (hb hby d2_15) rfl vqi_r  k) ?_
  show Gl p.tables e below (QQof s (Q_rinit Z a1 pi vid vqi ps u_index u_id u_qi u_sensitive h0 n0) 0 0) (T3.setTop (mkF m 16 #[.val (.ref a1), .val (.int pi), .val vid, .val vqi, .val (.int ps)] [vqi, (.ref a1)]))
  obtain ⟨T4, h4, X4, e4, W4, st4⟩ := putF X3 hx hZ hown (host := "") (Or.inl (hw _ (List.mem_of_getElem? (i := 16) rfl))) Via.refl e3 F_a1_qi_3 E_a1_3 (Or.inr ⟨(hw _ (List.mem_of_getElem? (i := 17) rfl)), rfl, hnm⟩) (hw _ (List.mem_of_getElem? (i := 5) rfl)) (ty := (.array .int)) (by decide) (narrowR rfl vqi_r) (fitsR rfl vqi_r) (g := (mkF m 16 #[.val (.ref a1), .val (.int pi), .val vid, .val vqi, .val (.int ps)] [vqi, (.ref a1)])) rfl rfl (hb hby d2_16)
  have E_a1_4 : Exa Z h4 a1 "com/example/frosted_rows/frostedrows/snapshot/Row" := E_a1_3.wr W4
  have F_a1_index_4 : Fld Z h4 a1 "com/example/frosted_rows/frostedrows/snapshot/Row" "index" "I" (.int pi) := F_a1_index_3.other W4 (Or.inr (slot_ne (t := .int) (t' := (.array .int)) (Or.inr (hw _ (List.mem_of_getElem? (i := 13) rfl))) (Or.inr (hw _ (List.mem_of_getElem? (i := 17) rfl))) (by decide) (by decide) (by decide)))
  have F_a1_id_4 : Fld Z h4 a1 "com/example/frosted_rows/frostedrows/snapshot/Row" "id" "Ljava/lang/String;" vid := F_a1_id_3.other W4 (Or.inr (slot_ne (t := (.object "java/lang/String")) (t' := (.array .int)) (Or.inr (hw _ (List.mem_of_getElem? (i := 15) rfl))) (Or.inr (hw _ (List.mem_of_getElem? (i := 17) rfl))) (by decide) (by decide) (by decide)))
  have F_a1_qi_4 : Fld Z h4 a1 "com/example/frosted_rows/frostedrows/snapshot/Row" "qi" "[I" vqi := F_a1_qi_3.same W4
  have F_a1_sensitive_4 : Fld Z h4 a1 "com/example/frosted_rows/frostedrows/snapshot/Row" "sensitive" "I" u_sensitive := F_a1_sensitive_3.other W4 (Or.inr (slot_ne (t := .int) (t' := (.array .int)) (Or.inr (hw _ (List.mem_of_getElem? (i := 19) rfl))) (Or.inr (hw _ (List.mem_of_getElem? (i := 17) rfl))) (by decide) (by decide) (by decide)))
  have SZ4 : n0 ≤ h4.size := by rw [Wr.size W4]; exact SZ3
  have K4 : Keep h0 h4 [a1] := K3.wr W4 (Or.inl (List.mem_of_getElem? (i := 0) rfl))
  have N4 := Fr.snoc X4 N3 g_a1
  refine Gl.go (fun _ k => st4 _ k) ?_
  show Gl p.tables e below (QQof s (Q_rinit Z a1 pi vid vqi ps u_index u_id u_qi u_sensitive h0 n0) 0 0) (T4.setTop (mkF m 19 #[.val (.ref a1), .val (.int pi), .val vid, .val vqi, .val (.int ps)] []))
  refine Gl.go (fun _ k => XS.aloadN X4.here hx rfl (hb hby d2_19) rfl rfl  k) ?_
  show Gl p.tables e below (QQof s (Q_rinit Z a1 pi vid vqi ps u_index u_id u_qi u_sensitive h0 n0) 0 0) (T4.setTop (mkF m 20 #[.val (.ref a1), .val (.int pi), .val vid, .val vqi, .val (.int ps)] [(.ref a1)]))
  refine Gl.go (fun _ k => XS.iload X4.here hx rfl (hb hby d2_20) rfl  k) ?_
  show Gl p.tables e below (QQof s (Q_rinit Z a1 pi vid vqi ps u_index u_id u_qi u_sensitive h0 n0) 0 0) (T4.setTop (mkF m 22 #[.val (.ref a1), .val (.int pi), .val vid, .val vqi, .val (.int ps)] [(.int ps), (.ref a1)]))
  obtain ⟨T5, h5, X5, e5, W5, st5⟩ := putF X4 hx hZ hown (host := "") (Or.inl (hw _ (List.mem_of_getElem? (i := 18) rfl))) Via.refl e4 F_a1_sensitive_4 E_a1_4 (Or.inr ⟨(hw _ (List.mem_of_getElem? (i := 19) rfl)), rfl, hnm⟩) (hw _ (List.mem_of_getElem? (i := 5) rfl)) (ty := .int) (by decide) rfl rfl (g := (mkF m 22 #[.val (.ref a1), .val (.int pi), .val vid, .val vqi, .val (.int ps)] [(.int ps), (.ref a1)])) rfl rfl (hb hby d2_22)
  have E_a1_5 : Exa Z h5 a1 "com/example/frosted_rows/frostedrows/snapshot/Row" := E_a1_4.wr W5
  have F_a1_index_5 : Fld Z h5 a1 "com/example/frosted_rows/frostedrows/snapshot/Row" "index" "I" (.int pi) := F_a1_index_4.other W5 (Or.inr (slot_ne (t := .int) (t' := .int) (Or.inr (hw _ (List.mem_of_getElem? (i := 13) rfl))) (Or.inr (hw _ (List.mem_of_getElem? (i := 19) rfl))) (by decide) (by decide) (by decide)))
  have F_a1_id_5 : Fld Z h5 a1 "com/example/frosted_rows/frostedrows/snapshot/Row" "id" "Ljava/lang/String;" vid := F_a1_id_4.other W5 (Or.inr (slot_ne (t := (.object "java/lang/String")) (t' := .int) (Or.inr (hw _ (List.mem_of_getElem? (i := 15) rfl))) (Or.inr (hw _ (List.mem_of_getElem? (i := 19) rfl))) (by decide) (by decide) (by decide)))
  have F_a1_qi_5 : Fld Z h5 a1 "com/example/frosted_rows/frostedrows/snapshot/Row" "qi" "[I" vqi := F_a1_qi_4.other W5 (Or.inr (slot_ne (t := (.array .int)) (t' := .int) (Or.inr (hw _ (List.mem_of_getElem? (i := 17) rfl))) (Or.inr (hw _ (List.mem_of_getElem? (i := 19) rfl))) (by decide) (by decide) (by decide)))
  have F_a1_sensitive_5 : Fld Z h5 a1 "com/example/frosted_rows/frostedrows/snapshot/Row" "sensitive" "I" (.int ps) := F_a1_sensitive_4.same W5
  have SZ5 : n0 ≤ h5.size := by rw [Wr.size W5]; exact SZ4
  have K5 : Keep h0 h5 [a1] := K4.wr W5 (Or.inl (List.mem_of_getElem? (i := 0) rfl))
  have N5 := Fr.snoc X5 N4 g_a1
  refine Gl.go (fun _ k => st5 _ k) ?_
  show Gl p.tables e below (QQof s (Q_rinit Z a1 pi vid vqi ps u_index u_id u_qi u_sensitive h0 n0) 0 0) (T5.setTop (mkF m 25 #[.val (.ref a1), .val (.int pi), .val vid, .val vqi, .val (.int ps)] []))
  refine leafV X5 hx hlk Bd.returns (hb hby d2_25) ?_ (by decide) (by decide)
  rw [e5]
  exact ⟨rfl, N5, K5, E_a1_5, F_a1_qi_5, F_a1_sensitive_5⟩
def Q_fac (Z : State) (ps : Int32) (h0 : Heap) (n0 : Nat) (v : Option Value) (h : Heap) (L : List Loc) : Prop := ∃ b, v = some (.ref b) ∧ Fr n0 L ∧ Keep h0 h [] ∧ h0.size ≤ b ∧ Exa Z h b "com/example/frosted_rows/frostedrows/snapshot/Row" ∧ Fld Z h b "com/example/frosted_rows/frostedrows/snapshot/Row" "qi" "[I" .null ∧ Fld Z h b "com/example/frosted_rows/frostedrows/snapshot/Row" "sensitive" "I" (.int ps)
set_option maxRecDepth 65536 in
set_option maxHeartbeats 40000000 in
theorem rm_fac (l : Launch) (Z : State) (a0 : Array Value) (hw : ∀ d ∈ tables_1, d.before a0 Z = true) (ws : List Jvm.Cond) (ps : Int32) (h0 : Heap) (n0 : Nat) (Z0 : n0 ≤ h0.size)  :
    MetFree l (⟨"com/example/frosted_rows/frostedrows/snapshot/Row", "counterfeit", "(I)Lcom/example/frosted_rows/frostedrows/snapshot/Row;"⟩ : MethodName) (head1 (Jvm.Cond.code (⟨"com/example/frosted_rows/frostedrows/snapshot/Row", "counterfeit", "(I)Lcom/example/frosted_rows/frostedrows/snapshot/Row;"⟩ : MethodName) prog_15_method_2_code 1 (some (.object "com/example/frosted_rows/frostedrows/snapshot/Row")) :: ws) ({ frames := 2, cells := 1, slots := 4, locals := 29 } : Room)) (fun aa U => aa = #[(.int ps)] ∧ Z.Warmed39 U.vm ∧ U.heap = h0) (fun _ _ _ _ _ => True) (fun _ U o U' => ∃ v L, o = .returned v ∧ Q_fac Z ps h0 n0 v U'.heap L ∧ FrameEnd U o U' L ({ frames := 2, cells := 1, slots := 4, locals := 29 } : Room).cells ({ frames := 2, cells := 1, slots := 4, locals := 29 } : Room).slots) := by
  refine MetFree.of_bodySF (plainFor_of_name pn_0) hisR ?_
  intro p e s m args below meth c s₁ Bd hml0 hP hK
  obtain ⟨rfl, hZ, hh⟩ := hP
  have hx := Bd.exec
  have hby := Bd.bytes
  have hml : c.maxLocals = 1 := hml0
  have hown : s.vm.findClass "com/example/frosted_rows/frostedrows/snapshot/Row" = some m.cls := findClass_of_methodNamed Bd.named
  have hnm := (name_of_methodNamed Bd.named Bd.method).1
  have hlk : meth.locks = false := BodyLoose.notSynchronized Bd
  have X0 : Stand p l e ({ frames := 2, cells := 1, slots := 4, locals := 29 } : Room) s m #[(.int ps)] below meth c s₁ [] 0 0 := Stand.of_body Bd
  have e0 : s₁.heap = h0 := by rw [← hh, Bd.state]; rfl
  have N0 := Fr.nil n0
  have K0 : Keep h0 h0 [] := Keep.refl _ _
  show Gl p.tables e below (QQof s (Q_fac Z ps h0 n0) 1 4) (s₁.setTop (entryFrame m #[(.int ps)] 1))
  refine Gl.go (fun t k => castTop (ef_fac m ps) k) ?_
  show Gl p.tables e below (QQof s (Q_fac Z ps h0 n0) 1 4) (s₁.setTop (mkF m 0 #[.val (.int ps)] []))
  obtain ⟨T1, h1, X1, e1, E1, A1, D1, -, st1⟩ := newO X0 hx hZ hown (hw _ (List.mem_of_getElem? (i := 4) rfl)) (hw _ (List.mem_of_getElem? (i := 5) rfl)) (hw _ (List.mem_of_getElem? (i := 2) rfl)) e0 (g := (mkF m 0 #[.val (.int ps)] [])) rfl (hb hby d1_0) (by decide) (by decide)
  obtain ⟨b1, g1⟩ : ∃ z, z = h0.size := ⟨_, rfl⟩
  rw [← g1] at A1 D1 st1
  have g_b1 : n0 ≤ b1 := Nat.le_trans Z0 (Nat.le_of_eq g1.symm)
  have sz_b1 : h0.size ≤ b1 := Nat.le_trans K0.1 (Nat.le_of_eq g1.symm)
  have SZ1 : n0 ≤ h1.size := Nat.le_trans Z0 E1.1
  have K1 : Keep h0 h1 [] := K0.ext E1
  have F_b1_index_1 : Fld Z h1 b1 "com/example/frosted_rows/frostedrows/snapshot/Row" "index" "I" (.int (0 : Int32)) := D1 (Or.inr (hw _ (List.mem_of_getElem? (i := 13) rfl))) (ty := .int) (by decide)
  have F_b1_id_1 : Fld Z h1 b1 "com/example/frosted_rows/frostedrows/snapshot/Row" "id" "Ljava/lang/String;" .null := D1 (Or.inr (hw _ (List.mem_of_getElem? (i := 15) rfl))) (ty := (.object "java/lang/String")) (by decide)
  have F_b1_qi_1 : Fld Z h1 b1 "com/example/frosted_rows/frostedrows/snapshot/Row" "qi" "[I" .null := D1 (Or.inr (hw _ (List.mem_of_getElem? (i := 17) rfl))) (ty := (.array .int)) (by decide)
  have F_b1_sensitive_1 : Fld Z h1 b1 "com/example/frosted_rows/frostedrows/snapshot/Row" "sensitive" "I" (.int (0 : Int32)) := D1 (Or.inr (hw _ (List.mem_of_getElem? (i := 19) rfl))) (ty := .int) (by decide)
  refine Gl.go (fun _ k => st1 _ k) ?_
  show Gl p.tables e below (QQof s (Q_fac Z ps h0 n0) 1 4) (T1.setTop (mkF m 3 #[.val (.int ps)] [(.ref b1)]))
  refine Gl.go (fun _ k => XS.dup X1.here hx rfl (hb hby d1_3) rfl rfl k) ?_
  show Gl p.tables e below (QQof s (Q_fac Z ps h0 n0) 1 4) (T1.setTop (mkF m 4 #[.val (.int ps)] [(.ref b1), (.ref b1)]))
  refine Gl.go (fun _ k => XS.iconst X1.here hx rfl (hb hby d1_4) k) ?_
  show Gl p.tables e below (QQof s (Q_fac Z ps h0 n0) 1 4) (T1.setTop (mkF m 5 #[.val (.int ps)] [(.int (-1 : Int32)), (.ref b1), (.ref b1)]))
  refine Gl.go (fun _ k => XS.aconstNull X1.here hx rfl (hb hby d1_5) k) ?_
  show Gl p.tables e below (QQof s (Q_fac Z ps h0 n0) 1 4) (T1.setTop (mkF m 6 #[.val (.int ps)] [.null, (.int (-1 : Int32)), (.ref b1), (.ref b1)]))
  refine Gl.go (fun _ k => XS.aconstNull X1.here hx rfl (hb hby d1_6) k) ?_
  show Gl p.tables e below (QQof s (Q_fac Z ps h0 n0) 1 4) (T1.setTop (mkF m 7 #[.val (.int ps)] [.null, .null, (.int (-1 : Int32)), (.ref b1), (.ref b1)]))
  refine Gl.go (fun _ k => XS.iloadN X1.here hx rfl (hb hby d1_7) rfl  k) ?_
  show Gl p.tables e below (QQof s (Q_fac Z ps h0 n0) 1 4) (T1.setTop (mkF m 8 #[.val (.int ps)] [(.int ps), .null, .null, (.int (-1 : Int32)), (.ref b1), (.ref b1)]))
  obtain ⟨_, _, ⟨T2, L2, k2, n2⟩, -, X2, ⟨Lc2, hQ2, l2, y2, z2⟩, st2⟩ := X1.specialBack hx (y := (⟨"com/example/frosted_rows/frostedrows/snapshot/Row", "<init>", "(ILjava/lang/String;[II)V"⟩ : MethodName)) rfl hown (mvT hZ (hw _ (List.mem_of_getElem? (i := 6) rfl))) (mvT hZ (hw _ (List.mem_of_getElem? (i := 7) rfl))) (mvT hZ (hw _ (List.mem_of_getElem? (i := 8) rfl))) (by decide) (backOf (W := 1) (rm_rinit l Z a0 hw [] b1 (-1 : Int32) .null .null ps (.int 0) .null .null (.int 0) h1 n0 SZ1 rfl rfl A1 F_b1_index_1 F_b1_id_1 F_b1_qi_1 F_b1_sensitive_1 g_b1) hZ (hw _ (List.mem_of_getElem? (i := 8) rfl)) (hw _ (List.mem_of_getElem? (i := 2) rfl)) (by decide) (by decide)) (g := (mkF m 8 #[.val (.int ps)] [(.int ps), .null, .null, (.int (-1 : Int32)), (.ref b1), (.ref b1)])) rfl (by rw [hml]; rfl) (Steps.refl _) (a := b1) (argsL := [(.int (-1 : Int32)), .null, .null, (.int ps)]) (rest := [(.ref b1)]) (lenOf pd_0 rfl) rfl (by show 2 * 0 + _ ≤ _; exact Nat.le_of_eq rfl) (hb hby d1_8) (fun _ _ => ⟨rfl, e1, (by decide : 1 + 0 ≤ _), (by decide : 4 + 0 ≤ _)⟩)
  dsimp only [Pt.U, Pt.locs, Pt.cells, Pt.slots] at X2 l2 y2 z2 st2 hQ2
  subst l2 y2 z2
  obtain ⟨rfl, Nq2, Kc2, Ec2, Fq2, Fs2⟩ := hQ2
  have N2 := Fr.app N0 Nq2
  refine Gl.go (fun _ k => st2.trans k) ?_
  have E_b1_2 : Exa Z T2.heap b1 "com/example/frosted_rows/frostedrows/snapshot/Row" := A1.keep Kc2
  have SZ2 : n0 ≤ T2.heap.size := Nat.le_trans SZ1 Kc2.1
  have K2 : Keep h0 T2.heap [] := K1.trans Kc2 (allS (Or.inr sz_b1) all0)
  show Gl p.tables e below (QQof s (Q_fac Z ps h0 n0) 1 4) (T2.setTop (mkF m 11 #[.val (.int ps)] [(.ref b1)]))
  refine leafA X2 hx hlk Bd.returns rfl rfl (hb hby d1_11) ?_ (by decide) (by decide)
  exact ⟨b1, rfl, N2, K2, sz_b1, Ec2, Fq2, Fs2⟩
def Q_fake (Z : State) (a1 : Addr) (vq : Value) (h0 : Heap) (n0 : Nat) (v : Option Value) (h : Heap) (L : List Loc) : Prop := v = some (.int (fakeV vq)) ∧ Fr n0 L ∧ h = h0
set_option maxRecDepth 65536 in
set_option maxHeartbeats 40000000 in
theorem rm_fake (l : Launch) (Z : State) (a0 : Array Value) (hw : ∀ d ∈ tables_1, d.before a0 Z = true) (ws : List Jvm.Cond) (a1 : Addr) (vq : Value) (h0 : Heap) (n0 : Nat) (Z0 : n0 ≤ h0.size) (vq_r : vq.isRef = true) (Fq : Fld Z h0 a1 "com/example/frosted_rows/frostedrows/snapshot/Row" "qi" "[I" vq) :
    MetFree l (⟨"com/example/frosted_rows/frostedrows/snapshot/Row", "counterfeit", "()Z"⟩ : MethodName) (head1 (Jvm.Cond.code (⟨"com/example/frosted_rows/frostedrows/snapshot/Row", "counterfeit", "()Z"⟩ : MethodName) prog_15_method_3_code 1 (some .boolean) :: ws) ({ frames := 0, cells := 0, slots := 0, locals := 0 } : Room)) (fun aa U => aa = #[(.ref a1)] ∧ Z.Warmed39 U.vm ∧ U.heap = h0) (fun _ _ _ _ _ => True) (fun _ U o U' => ∃ v L, o = .returned v ∧ Q_fake Z a1 vq h0 n0 v U'.heap L ∧ FrameEnd U o U' L ({ frames := 0, cells := 0, slots := 0, locals := 0 } : Room).cells ({ frames := 0, cells := 0, slots := 0, locals := 0 } : Room).slots) := by
  refine MetFree.of_bodySF (plainFor_of_name pn_0) hisR ?_
  intro p e s m args below meth c s₁ Bd hml0 hP hK
  obtain ⟨rfl, hZ, hh⟩ := hP
  have hx := Bd.exec
  have hby := Bd.bytes
  have hml : c.maxLocals = 1 := hml0
  have hown : s.vm.findClass "com/example/frosted_rows/frostedrows/snapshot/Row" = some m.cls := findClass_of_methodNamed Bd.named
  have hnm := (name_of_methodNamed Bd.named Bd.method).1
  have hlk : meth.locks = false := BodyLoose.notSynchronized Bd
  have X0 : Stand p l e ({ frames := 0, cells := 0, slots := 0, locals := 0 } : Room) s m #[(.ref a1)] below meth c s₁ [] 0 0 := Stand.of_body Bd
  have e0 : s₁.heap = h0 := by rw [← hh, Bd.state]; rfl
  have N0 := Fr.nil n0
  have K0 : Keep h0 h0 [] := Keep.refl _ _
  show Gl p.tables e below (QQof s (Q_fake Z a1 vq h0 n0) 0 0) (s₁.setTop (entryFrame m #[(.ref a1)] 1))
  refine Gl.go (fun t k => castTop (ef_fake m a1) k) ?_
  show Gl p.tables e below (QQof s (Q_fake Z a1 vq h0 n0) 0 0) (s₁.setTop (mkF m 0 #[.val (.ref a1)] []))
  refine Gl.go (fun _ k => XS.aloadN X0.here hx rfl (hb hby d4_0) rfl rfl  k) ?_
  show Gl p.tables e below (QQof s (Q_fake Z a1 vq h0 n0) 0 0) (s₁.setTop (mkF m 1 #[.val (.ref a1)] [(.ref a1)]))
  rcases ref_cases vq_r with rfl | ⟨aq, rfl⟩
  · skip
    obtain ⟨T1, X1, e1, st1⟩ := getF X0 hx hZ hown (host := "") (Or.inl (hw _ (List.mem_of_getElem? (i := 16) rfl))) Via.refl e0 Fq (g := (mkF m 1 #[.val (.ref a1)] [(.ref a1)])) rfl rfl (hb hby d4_1)
    refine Gl.go (fun _ k => st1 _ k) ?_
    show Gl p.tables e below (QQof s (Q_fake Z a1 .null h0 n0) 0 0) (T1.setTop (mkF m 4 #[.val (.ref a1)] [.null]))
    refine Gl.go (fun _ k => XS.ifnonnullNo X1.here hx rfl (hb hby d4_4) rfl k) ?_
    show Gl p.tables e below (QQof s (Q_fake Z a1 .null h0 n0) 0 0) (T1.setTop (mkF m 7 #[.val (.ref a1)] []))
    refine Gl.go (fun _ k => XS.iconst X1.here hx rfl (hb hby d4_7) k) ?_
    show Gl p.tables e below (QQof s (Q_fake Z a1 .null h0 n0) 0 0) (T1.setTop (mkF m 8 #[.val (.ref a1)] [(.int (1 : Int32))]))
    refine Gl.go (fun _ k => XS.goto X1.here hx rfl (pc0 := 8) (pc' := 12) rfl (hb hby d4_8) (by decide) (by decide) k) ?_
    show Gl p.tables e below (QQof s (Q_fake Z a1 .null h0 n0) 0 0) (T1.setTop (mkF m 12 #[.val (.ref a1)] [(.int (1 : Int32))]))
    refine leafN X1 hx hlk (t := .boolean) Bd.returns (by simp) (hb hby d4_12) ?_ (by decide) (by decide)
    exact ⟨by rw [nar1]; rfl, N0, e1⟩
  · skip
    obtain ⟨T2, X2, e2, st2⟩ := getF X0 hx hZ hown (host := "") (Or.inl (hw _ (List.mem_of_getElem? (i := 16) rfl))) Via.refl e0 Fq (g := (mkF m 1 #[.val (.ref a1)] [(.ref a1)])) rfl rfl (hb hby d4_1)
    refine Gl.go (fun _ k => st2 _ k) ?_
    show Gl p.tables e below (QQof s (Q_fake Z a1 (.ref aq) h0 n0) 0 0) (T2.setTop (mkF m 4 #[.val (.ref a1)] [(.ref aq)]))
    refine Gl.go (fun _ k => XS.ifnonnullYes X2.here hx rfl (pc0 := 4) (pc' := 11) rfl (hb hby d4_4) rfl (by decide) (by decide) k) ?_
    show Gl p.tables e below (QQof s (Q_fake Z a1 (.ref aq) h0 n0) 0 0) (T2.setTop (mkF m 11 #[.val (.ref a1)] []))
    refine Gl.go (fun _ k => XS.iconst X2.here hx rfl (hb hby d4_11) k) ?_
    show Gl p.tables e below (QQof s (Q_fake Z a1 (.ref aq) h0 n0) 0 0) (T2.setTop (mkF m 12 #[.val (.ref a1)] [(.int (0 : Int32))]))
    refine leafN X2 hx hlk (t := .boolean) Bd.returns (by simp) (hb hby d4_12) ?_ (by decide) (by decide)
    exact ⟨by rw [nar0]; rfl, N0, e2⟩
def Q_sens (Z : State) (a1 : Addr) (ps : Int32) (h0 : Heap) (n0 : Nat) (v : Option Value) (h : Heap) (L : List Loc) : Prop := v = some (.int ps) ∧ Fr n0 L ∧ h = h0
set_option maxRecDepth 65536 in
set_option maxHeartbeats 40000000 in
theorem rm_sens (l : Launch) (Z : State) (a0 : Array Value) (hw : ∀ d ∈ tables_1, d.before a0 Z = true) (ws : List Jvm.Cond) (a1 : Addr) (ps : Int32) (h0 : Heap) (n0 : Nat) (Z0 : n0 ≤ h0.size) (Fs : Fld Z h0 a1 "com/example/frosted_rows/frostedrows/snapshot/Row" "sensitive" "I" (.int ps)) :
    MetFree l (⟨"com/example/frosted_rows/frostedrows/snapshot/Row", "sensitive", "()I"⟩ : MethodName) (head1 (Jvm.Cond.code (⟨"com/example/frosted_rows/frostedrows/snapshot/Row", "sensitive", "()I"⟩ : MethodName) prog_15_method_7_code 1 (some .int) :: ws) ({ frames := 0, cells := 0, slots := 0, locals := 0 } : Room)) (fun aa U => aa = #[(.ref a1)] ∧ Z.Warmed39 U.vm ∧ U.heap = h0) (fun _ _ _ _ _ => True) (fun _ U o U' => ∃ v L, o = .returned v ∧ Q_sens Z a1 ps h0 n0 v U'.heap L ∧ FrameEnd U o U' L ({ frames := 0, cells := 0, slots := 0, locals := 0 } : Room).cells ({ frames := 0, cells := 0, slots := 0, locals := 0 } : Room).slots) := by
  refine MetFree.of_bodySF (plainFor_of_name pn_0) hisR ?_
  intro p e s m args below meth c s₁ Bd hml0 hP hK
  obtain ⟨rfl, hZ, hh⟩ := hP
  have hx := Bd.exec
  have hby := Bd.bytes
  have hml : c.maxLocals = 1 := hml0
  have hown : s.vm.findClass "com/example/frosted_rows/frostedrows/snapshot/Row" = some m.cls := findClass_of_methodNamed Bd.named
  have hnm := (name_of_methodNamed Bd.named Bd.method).1
  have hlk : meth.locks = false := BodyLoose.notSynchronized Bd
  have X0 : Stand p l e ({ frames := 0, cells := 0, slots := 0, locals := 0 } : Room) s m #[(.ref a1)] below meth c s₁ [] 0 0 := Stand.of_body Bd
  have e0 : s₁.heap = h0 := by rw [← hh, Bd.state]; rfl
  have N0 := Fr.nil n0
  have K0 : Keep h0 h0 [] := Keep.refl _ _
  show Gl p.tables e below (QQof s (Q_sens Z a1 ps h0 n0) 0 0) (s₁.setTop (entryFrame m #[(.ref a1)] 1))
  refine Gl.go (fun t k => castTop (ef_sens m a1) k) ?_
  show Gl p.tables e below (QQof s (Q_sens Z a1 ps h0 n0) 0 0) (s₁.setTop (mkF m 0 #[.val (.ref a1)] []))
  refine Gl.go (fun _ k => XS.aloadN X0.here hx rfl (hb hby d5_0) rfl rfl  k) ?_
  show Gl p.tables e below (QQof s (Q_sens Z a1 ps h0 n0) 0 0) (s₁.setTop (mkF m 1 #[.val (.ref a1)] [(.ref a1)]))
  obtain ⟨T1, X1, e1, st1⟩ := getF X0 hx hZ hown (host := "") (Or.inl (hw _ (List.mem_of_getElem? (i := 18) rfl))) Via.refl e0 Fs (g := (mkF m 1 #[.val (.ref a1)] [(.ref a1)])) rfl rfl (hb hby d5_1)
  refine Gl.go (fun _ k => st1 _ k) ?_
  show Gl p.tables e below (QQof s (Q_sens Z a1 ps h0 n0) 0 0) (T1.setTop (mkF m 4 #[.val (.ref a1)] [(.int ps)]))
  refine leafI X1 hx hlk Bd.returns (hb hby d5_4) ?_ (by decide) (by decide)
  exact ⟨rfl, N0, e1⟩
def Q_law (Z : State) (a b : Int32) (h0 : Heap) (n0 : Nat) (v : Option Value) (h : Heap) (L : List Loc) : Prop := v = some (.int 1) ∧ Fr n0 L
set_option maxRecDepth 65536 in
set_option maxHeartbeats 40000000 in
theorem rm_law (l : Launch) (Z : State) (a0 : Array Value) (hw : ∀ d ∈ tables_1, d.before a0 Z = true) (ws : List Jvm.Cond) (a b : Int32) (h0 : Heap) (n0 : Nat) (Z0 : n0 ≤ h0.size)  :
    MetFree l x (head1 (Jvm.Cond.code x code maxLocals ret :: ws) room_1) (fun aa U => aa = #[(.int a), (.int b)] ∧ Z.Warmed39 U.vm ∧ U.heap = h0) (fun _ _ _ _ _ => True) (fun _ U o U' => ∃ v L, o = .returned v ∧ Q_law Z a b h0 n0 v U'.heap L ∧ FrameEnd U o U' L 2 8) := by
  refine MetFree.of_bodySF (plainFor_of_name pn_1) hisR ?_
  intro p e s m args below meth c s₁ Bd hml0 hP hK
  obtain ⟨rfl, hZ, hh⟩ := hP
  have hx := Bd.exec
  have hby := Bd.bytes
  have hml : c.maxLocals = 6 := hml0
  have hown : s.vm.findClass "com/example/frosted_rows/frostedrows/snapshot/RowCounterfeit409PinLaw" = some m.cls := findClass_of_methodNamed Bd.named
  have hnm := (name_of_methodNamed Bd.named Bd.method).1
  have hlk : meth.locks = false := BodyLoose.notSynchronized Bd
  have X0 : Stand p l e room_1 s m #[(.int a), (.int b)] below meth c s₁ [] 0 0 := Stand.of_body Bd
  have e0 : s₁.heap = h0 := by rw [← hh, Bd.state]; rfl
  have N0 := Fr.nil n0
  have K0 : Keep h0 h0 [] := Keep.refl _ _
  show Gl p.tables e below (QQof s (Q_law Z a b h0 n0) 2 8) (s₁.setTop (entryFrame m #[(.int a), (.int b)] maxLocals))
  refine Gl.go (fun t k => castTop (ef_law m a b) k) ?_
  show Gl p.tables e below (QQof s (Q_law Z a b h0 n0) 2 8) (s₁.setTop (mkF m 0 #[.val (.int a), .val (.int b), .unset, .unset, .unset, .unset] []))
  refine Gl.go (fun _ k => XS.iloadN X0.here hx rfl (hb hby at_0) rfl  k) ?_
  show Gl p.tables e below (QQof s (Q_law Z a b h0 n0) 2 8) (s₁.setTop (mkF m 1 #[.val (.int a), .val (.int b), .unset, .unset, .unset, .unset] [(.int a)]))
  obtain ⟨_, _, ⟨T1, L1, k1, n1⟩, -, X1, ⟨Lc1, hQ1, l1, y1, z1⟩, st1⟩ := Jvm.LawKit.callS X0 hx (y := (⟨"com/example/frosted_rows/frostedrows/snapshot/Row", "counterfeit", "(I)Lcom/example/frosted_rows/frostedrows/snapshot/Row;"⟩ : MethodName)) hown (mvT hZ (hw _ (List.mem_of_getElem? (i := 0) rfl))) (mvT hZ (hw _ (List.mem_of_getElem? (i := 1) rfl))) (mvT hZ (hw _ (List.mem_of_getElem? (i := 2) rfl))) (mvT hZ (hw _ (List.mem_of_getElem? (i := 3) rfl))) (by decide) (backOf (W := 0) (rm_fac l Z a0 hw [] a h0 n0 Z0 ) hZ (hw _ (List.mem_of_getElem? (i := 3) rfl)) (hw _ (List.mem_of_getElem? (i := 2) rfl)) (by decide) (by decide)) (g := (mkF m 1 #[.val (.int a), .val (.int b), .unset, .unset, .unset, .unset] [(.int a)])) rfl (by rw [hml]; rfl) (argsL := [(.int a)]) (rest := []) (lenOf pd_1 rfl) rfl (by show 2 * 0 + _ ≤ _; exact Nat.le_of_eq rfl) (hb hby at_1) (fun _ _ => ⟨rfl, e0, (by decide : 0 + 1 ≤ _), (by decide : 0 + 4 ≤ _)⟩)
  dsimp only [Pt.U, Pt.locs, Pt.cells, Pt.slots] at X1 l1 y1 z1 st1 hQ1
  subst l1 y1 z1
  obtain ⟨r1, rfl, Nq1, Kc1, gz1, Ec1, Fq1, Fs1⟩ := hQ1
  have N1 := Fr.app N0 Nq1
  refine Gl.go (fun _ k => st1 _ k) ?_
  have Ex1 := ext_of_keep Kc1
  have SZ1 : n0 ≤ T1.heap.size := Nat.le_trans Z0 Ex1.1
  have K1 : Keep h0 T1.heap [] := K0.ext Ex1
  show Gl p.tables e below (QQof s (Q_law Z a b h0 n0) 2 8) (T1.setTop (mkF m 4 #[.val (.int a), .val (.int b), .unset, .unset, .unset, .unset] [(.ref r1)]))
  have g_r1 : n0 ≤ r1 := Nat.le_trans Z0 gz1
  refine Gl.go (fun _ k => XS.astoreN X1.here hx rfl (hb hby at_4) rfl rfl (l' := #[.val (.int a), .val (.int b), .val (.ref r1), .unset, .unset, .unset]) rfl k) ?_
  show Gl p.tables e below (QQof s (Q_law Z a b h0 n0) 2 8) (T1.setTop (mkF m 5 #[.val (.int a), .val (.int b), .val (.ref r1), .unset, .unset, .unset] []))
  refine Gl.go (fun _ k => XS.iloadN X1.here hx rfl (hb hby at_5) rfl  k) ?_
  show Gl p.tables e below (QQof s (Q_law Z a b h0 n0) 2 8) (T1.setTop (mkF m 6 #[.val (.int a), .val (.int b), .val (.ref r1), .unset, .unset, .unset] [(.int b)]))
  obtain ⟨_, _, ⟨T2, L2, k2, n2⟩, -, X2, ⟨Lc2, hQ2, l2, y2, z2⟩, st2⟩ := Jvm.LawKit.callS X1 hx (y := (⟨"com/example/frosted_rows/frostedrows/snapshot/Row", "counterfeit", "(I)Lcom/example/frosted_rows/frostedrows/snapshot/Row;"⟩ : MethodName)) hown (mvT hZ (hw _ (List.mem_of_getElem? (i := 0) rfl))) (mvT hZ (hw _ (List.mem_of_getElem? (i := 1) rfl))) (mvT hZ (hw _ (List.mem_of_getElem? (i := 2) rfl))) (mvT hZ (hw _ (List.mem_of_getElem? (i := 3) rfl))) (by decide) (backOf (W := 0) (rm_fac l Z a0 hw [] b T1.heap n0 SZ1 ) hZ (hw _ (List.mem_of_getElem? (i := 3) rfl)) (hw _ (List.mem_of_getElem? (i := 2) rfl)) (by decide) (by decide)) (g := (mkF m 6 #[.val (.int a), .val (.int b), .val (.ref r1), .unset, .unset, .unset] [(.int b)])) rfl (by rw [hml]; rfl) (argsL := [(.int b)]) (rest := []) (lenOf pd_1 rfl) rfl (by show 2 * 0 + _ ≤ _; exact Nat.le_of_eq rfl) (hb hby at_6) (fun _ _ => ⟨rfl, rfl, (by decide : 1 + 1 ≤ _), (by decide : 4 + 4 ≤ _)⟩)
  dsimp only [Pt.U, Pt.locs, Pt.cells, Pt.slots] at X2 l2 y2 z2 st2 hQ2
  subst l2 y2 z2
  obtain ⟨r2, rfl, Nq2, Kc2, gz2, Ec2, Fq2, Fs2⟩ := hQ2
  have N2 := Fr.app N1 Nq2
  refine Gl.go (fun _ k => st2 _ k) ?_
  have Ex2 := ext_of_keep Kc2
  have E_r1_2 : Exa Z T2.heap r1 "com/example/frosted_rows/frostedrows/snapshot/Row" := Ec1.ext Ex2
  have F_r1_qi_2 : Fld Z T2.heap r1 "com/example/frosted_rows/frostedrows/snapshot/Row" "qi" "[I" .null := Fq1.ext Ex2
  have F_r1_sensitive_2 : Fld Z T2.heap r1 "com/example/frosted_rows/frostedrows/snapshot/Row" "sensitive" "I" (.int a) := Fs1.ext Ex2
  have SZ2 : n0 ≤ T2.heap.size := Nat.le_trans SZ1 Ex2.1
  have K2 : Keep h0 T2.heap [] := K1.ext Ex2
  show Gl p.tables e below (QQof s (Q_law Z a b h0 n0) 2 8) (T2.setTop (mkF m 9 #[.val (.int a), .val (.int b), .val (.ref r1), .unset, .unset, .unset] [(.ref r2)]))
  have g_r2 : n0 ≤ r2 := Nat.le_trans SZ1 gz2
  refine Gl.go (fun _ k => XS.astoreN X2.here hx rfl (hb hby at_9) rfl rfl (l' := #[.val (.int a), .val (.int b), .val (.ref r1), .val (.ref r2), .unset, .unset]) rfl k) ?_
  show Gl p.tables e below (QQof s (Q_law Z a b h0 n0) 2 8) (T2.setTop (mkF m 10 #[.val (.int a), .val (.int b), .val (.ref r1), .val (.ref r2), .unset, .unset] []))
  refine Gl.go (fun _ k => XS.aloadN X2.here hx rfl (hb hby at_10) rfl rfl  k) ?_
  show Gl p.tables e below (QQof s (Q_law Z a b h0 n0) 2 8) (T2.setTop (mkF m 11 #[.val (.int a), .val (.int b), .val (.ref r1), .val (.ref r2), .unset, .unset] [(.ref r1)]))
  obtain ⟨cq3, kq3, q3a, q3b, q3c⟩ := isOf hZ rfl E_r1_2
  obtain ⟨_, _, ⟨T3, L3, k3, n3⟩, -, X3, ⟨Lc3, hQ3, l3, y3, z3⟩, st3⟩ := X2.virtualBack hx (y := (⟨"com/example/frosted_rows/frostedrows/snapshot/Row", "counterfeit", "()Z"⟩ : MethodName)) (z := (⟨"com/example/frosted_rows/frostedrows/snapshot/Row", "counterfeit", "()Z"⟩ : MethodName)) hown (mvT hZ (hw _ (List.mem_of_getElem? (i := 20) rfl))) (mvT hZ (hw _ (List.mem_of_getElem? (i := 21) rfl))) (notFace_of_selects (args := #[]) (mvT hZ (hw _ (List.mem_of_getElem? (i := 23) rfl)))) (mvT hZ (hw _ (List.mem_of_getElem? (i := 23) rfl))) (mvT hZ (hw _ (List.mem_of_getElem? (i := 22) rfl))) (by decide) (backOf (W := 0) (rm_fake l Z a0 hw [] r1 .null T2.heap n0 SZ2 rfl F_r1_qi_2) hZ (hw _ (List.mem_of_getElem? (i := 24) rfl)) (hw _ (List.mem_of_getElem? (i := 2) rfl)) (by decide) (by decide)) q3a q3c (g := (mkF m 11 #[.val (.int a), .val (.int b), .val (.ref r1), .val (.ref r2), .unset, .unset] [(.ref r1)])) rfl (by rw [hml]; rfl) (Steps.refl _) (argsL := []) (rest := []) (lenOf pd_2 rfl) rfl (by show 2 * 0 + _ ≤ _; exact Nat.le_of_eq rfl) (hb hby at_11) (fun _ _ => ⟨rfl, rfl, (by decide : 2 + 0 ≤ _), (by decide : 8 + 0 ≤ _)⟩)
  dsimp only [Pt.U, Pt.locs, Pt.cells, Pt.slots] at X3 l3 y3 z3 st3 hQ3
  subst l3 y3 z3
  obtain ⟨rfl, Nq3, e3⟩ := hQ3
  have N3 := Fr.app N2 Nq3
  refine Gl.go (fun _ k => st3.trans k) ?_
  show Gl p.tables e below (QQof s (Q_law Z a b h0 n0) 2 8) (T3.setTop (mkF m 14 #[.val (.int a), .val (.int b), .val (.ref r1), .val (.ref r2), .unset, .unset] [(.int (1 : Int32))]))
  refine Gl.go (fun _ k => XS.ifNo X3.here hx rfl (hb hby at_14) rfl ((if0 _ _).trans (feq (by decide)).1) k) ?_
  show Gl p.tables e below (QQof s (Q_law Z a b h0 n0) 2 8) (T3.setTop (mkF m 17 #[.val (.int a), .val (.int b), .val (.ref r1), .val (.ref r2), .unset, .unset] []))
  refine Gl.go (fun _ k => XS.aloadN X3.here hx rfl (hb hby at_17) rfl rfl  k) ?_
  show Gl p.tables e below (QQof s (Q_law Z a b h0 n0) 2 8) (T3.setTop (mkF m 18 #[.val (.int a), .val (.int b), .val (.ref r1), .val (.ref r2), .unset, .unset] [(.ref r1)]))
  obtain ⟨cq4, kq4, q4a, q4b, q4c⟩ := isOf hZ e3 E_r1_2
  obtain ⟨_, _, ⟨T4, L4, k4, n4⟩, -, X4, ⟨Lc4, hQ4, l4, y4, z4⟩, st4⟩ := X3.virtualBack hx (y := (⟨"com/example/frosted_rows/frostedrows/snapshot/Row", "sensitive", "()I"⟩ : MethodName)) (z := (⟨"com/example/frosted_rows/frostedrows/snapshot/Row", "sensitive", "()I"⟩ : MethodName)) hown (mvT hZ (hw _ (List.mem_of_getElem? (i := 25) rfl))) (mvT hZ (hw _ (List.mem_of_getElem? (i := 26) rfl))) (notFace_of_selects (args := #[]) (mvT hZ (hw _ (List.mem_of_getElem? (i := 28) rfl)))) (mvT hZ (hw _ (List.mem_of_getElem? (i := 28) rfl))) (mvT hZ (hw _ (List.mem_of_getElem? (i := 27) rfl))) (by decide) (backOf (W := 0) (rm_sens l Z a0 hw [] r1 a T2.heap n0 SZ2 F_r1_sensitive_2) hZ (hw _ (List.mem_of_getElem? (i := 29) rfl)) (hw _ (List.mem_of_getElem? (i := 2) rfl)) (by decide) (by decide)) q4a q4c (g := (mkF m 18 #[.val (.int a), .val (.int b), .val (.ref r1), .val (.ref r2), .unset, .unset] [(.ref r1)])) rfl (by rw [hml]; rfl) (Steps.refl _) (argsL := []) (rest := []) (lenOf pd_3 rfl) rfl (by show 2 * 0 + _ ≤ _; exact Nat.le_of_eq rfl) (hb hby at_18) (fun _ _ => ⟨rfl, e3, (by decide : 2 + 0 ≤ _), (by decide : 8 + 0 ≤ _)⟩)
  dsimp only [Pt.U, Pt.locs, Pt.cells, Pt.slots] at X4 l4 y4 z4 st4 hQ4
  subst l4 y4 z4
  obtain ⟨rfl, Nq4, e4⟩ := hQ4
  have N4 := Fr.app N3 Nq4
  refine Gl.go (fun _ k => st4.trans k) ?_
  show Gl p.tables e below (QQof s (Q_law Z a b h0 n0) 2 8) (T4.setTop (mkF m 21 #[.val (.int a), .val (.int b), .val (.ref r1), .val (.ref r2), .unset, .unset] [(.int a)]))
  refine Gl.go (fun _ k => XS.iloadN X4.here hx rfl (hb hby at_21) rfl  k) ?_
  show Gl p.tables e below (QQof s (Q_law Z a b h0 n0) 2 8) (T4.setTop (mkF m 22 #[.val (.int a), .val (.int b), .val (.ref r1), .val (.ref r2), .unset, .unset] [(.int a), (.int a)]))
  refine Gl.go (fun _ k => XS.icmpNo X4.here hx rfl (hb hby at_22) rfl (teq rfl).2 k) ?_
  show Gl p.tables e below (QQof s (Q_law Z a b h0 n0) 2 8) (T4.setTop (mkF m 25 #[.val (.int a), .val (.int b), .val (.ref r1), .val (.ref r2), .unset, .unset] []))
  refine Gl.go (fun _ k => XS.iconst X4.here hx rfl (hb hby at_25) k) ?_
  show Gl p.tables e below (QQof s (Q_law Z a b h0 n0) 2 8) (T4.setTop (mkF m 26 #[.val (.int a), .val (.int b), .val (.ref r1), .val (.ref r2), .unset, .unset] [(.int (1 : Int32))]))
  refine Gl.go (fun _ k => XS.goto X4.here hx rfl (pc0 := 26) (pc' := 30) rfl (hb hby at_26) (by decide) (by decide) k) ?_
  show Gl p.tables e below (QQof s (Q_law Z a b h0 n0) 2 8) (T4.setTop (mkF m 30 #[.val (.int a), .val (.int b), .val (.ref r1), .val (.ref r2), .unset, .unset] [(.int (1 : Int32))]))
  refine Gl.go (fun _ k => XS.istore X4.here hx rfl (hb hby at_30) rfl (l' := #[.val (.int a), .val (.int b), .val (.ref r1), .val (.ref r2), .val (.int (1 : Int32)), .unset]) rfl k) ?_
  show Gl p.tables e below (QQof s (Q_law Z a b h0 n0) 2 8) (T4.setTop (mkF m 32 #[.val (.int a), .val (.int b), .val (.ref r1), .val (.ref r2), .val (.int (1 : Int32)), .unset] []))
  refine Gl.go (fun _ k => XS.aloadN X4.here hx rfl (hb hby at_32) rfl rfl  k) ?_
  show Gl p.tables e below (QQof s (Q_law Z a b h0 n0) 2 8) (T4.setTop (mkF m 33 #[.val (.int a), .val (.int b), .val (.ref r1), .val (.ref r2), .val (.int (1 : Int32)), .unset] [(.ref r2)]))
  obtain ⟨cq5, kq5, q5a, q5b, q5c⟩ := isOf hZ e4 Ec2
  obtain ⟨_, _, ⟨T5, L5, k5, n5⟩, -, X5, ⟨Lc5, hQ5, l5, y5, z5⟩, st5⟩ := X4.virtualBack hx (y := (⟨"com/example/frosted_rows/frostedrows/snapshot/Row", "counterfeit", "()Z"⟩ : MethodName)) (z := (⟨"com/example/frosted_rows/frostedrows/snapshot/Row", "counterfeit", "()Z"⟩ : MethodName)) hown (mvT hZ (hw _ (List.mem_of_getElem? (i := 20) rfl))) (mvT hZ (hw _ (List.mem_of_getElem? (i := 21) rfl))) (notFace_of_selects (args := #[]) (mvT hZ (hw _ (List.mem_of_getElem? (i := 23) rfl)))) (mvT hZ (hw _ (List.mem_of_getElem? (i := 23) rfl))) (mvT hZ (hw _ (List.mem_of_getElem? (i := 22) rfl))) (by decide) (backOf (W := 0) (rm_fake l Z a0 hw [] r2 .null T2.heap n0 SZ2 rfl Fq2) hZ (hw _ (List.mem_of_getElem? (i := 24) rfl)) (hw _ (List.mem_of_getElem? (i := 2) rfl)) (by decide) (by decide)) q5a q5c (g := (mkF m 33 #[.val (.int a), .val (.int b), .val (.ref r1), .val (.ref r2), .val (.int (1 : Int32)), .unset] [(.ref r2)])) rfl (by rw [hml]; rfl) (Steps.refl _) (argsL := []) (rest := []) (lenOf pd_2 rfl) rfl (by show 2 * 0 + _ ≤ _; exact Nat.le_of_eq rfl) (hb hby at_33) (fun _ _ => ⟨rfl, e4, (by decide : 2 + 0 ≤ _), (by decide : 8 + 0 ≤ _)⟩)
  dsimp only [Pt.U, Pt.locs, Pt.cells, Pt.slots] at X5 l5 y5 z5 st5 hQ5
  subst l5 y5 z5
  obtain ⟨rfl, Nq5, e5⟩ := hQ5
  have N5 := Fr.app N4 Nq5
  refine Gl.go (fun _ k => st5.trans k) ?_
  show Gl p.tables e below (QQof s (Q_law Z a b h0 n0) 2 8) (T5.setTop (mkF m 36 #[.val (.int a), .val (.int b), .val (.ref r1), .val (.ref r2), .val (.int (1 : Int32)), .unset] [(.int (1 : Int32))]))
  refine Gl.go (fun _ k => XS.ifNo X5.here hx rfl (hb hby at_36) rfl ((if0 _ _).trans (feq (by decide)).1) k) ?_
  show Gl p.tables e below (QQof s (Q_law Z a b h0 n0) 2 8) (T5.setTop (mkF m 39 #[.val (.int a), .val (.int b), .val (.ref r1), .val (.ref r2), .val (.int (1 : Int32)), .unset] []))
  refine Gl.go (fun _ k => XS.aloadN X5.here hx rfl (hb hby at_39) rfl rfl  k) ?_
  show Gl p.tables e below (QQof s (Q_law Z a b h0 n0) 2 8) (T5.setTop (mkF m 40 #[.val (.int a), .val (.int b), .val (.ref r1), .val (.ref r2), .val (.int (1 : Int32)), .unset] [(.ref r2)]))
  obtain ⟨cq6, kq6, q6a, q6b, q6c⟩ := isOf hZ e5 Ec2
  obtain ⟨_, _, ⟨T6, L6, k6, n6⟩, -, X6, ⟨Lc6, hQ6, l6, y6, z6⟩, st6⟩ := X5.virtualBack hx (y := (⟨"com/example/frosted_rows/frostedrows/snapshot/Row", "sensitive", "()I"⟩ : MethodName)) (z := (⟨"com/example/frosted_rows/frostedrows/snapshot/Row", "sensitive", "()I"⟩ : MethodName)) hown (mvT hZ (hw _ (List.mem_of_getElem? (i := 25) rfl))) (mvT hZ (hw _ (List.mem_of_getElem? (i := 26) rfl))) (notFace_of_selects (args := #[]) (mvT hZ (hw _ (List.mem_of_getElem? (i := 28) rfl)))) (mvT hZ (hw _ (List.mem_of_getElem? (i := 28) rfl))) (mvT hZ (hw _ (List.mem_of_getElem? (i := 27) rfl))) (by decide) (backOf (W := 0) (rm_sens l Z a0 hw [] r2 b T2.heap n0 SZ2 Fs2) hZ (hw _ (List.mem_of_getElem? (i := 29) rfl)) (hw _ (List.mem_of_getElem? (i := 2) rfl)) (by decide) (by decide)) q6a q6c (g := (mkF m 40 #[.val (.int a), .val (.int b), .val (.ref r1), .val (.ref r2), .val (.int (1 : Int32)), .unset] [(.ref r2)])) rfl (by rw [hml]; rfl) (Steps.refl _) (argsL := []) (rest := []) (lenOf pd_3 rfl) rfl (by show 2 * 0 + _ ≤ _; exact Nat.le_of_eq rfl) (hb hby at_40) (fun _ _ => ⟨rfl, e5, (by decide : 2 + 0 ≤ _), (by decide : 8 + 0 ≤ _)⟩)
  dsimp only [Pt.U, Pt.locs, Pt.cells, Pt.slots] at X6 l6 y6 z6 st6 hQ6
  subst l6 y6 z6
  obtain ⟨rfl, Nq6, e6⟩ := hQ6
  have N6 := Fr.app N5 Nq6
  refine Gl.go (fun _ k => st6.trans k) ?_
  show Gl p.tables e below (QQof s (Q_law Z a b h0 n0) 2 8) (T6.setTop (mkF m 43 #[.val (.int a), .val (.int b), .val (.ref r1), .val (.ref r2), .val (.int (1 : Int32)), .unset] [(.int b)]))
  refine Gl.go (fun _ k => XS.iloadN X6.here hx rfl (hb hby at_43) rfl  k) ?_
  show Gl p.tables e below (QQof s (Q_law Z a b h0 n0) 2 8) (T6.setTop (mkF m 44 #[.val (.int a), .val (.int b), .val (.ref r1), .val (.ref r2), .val (.int (1 : Int32)), .unset] [(.int b), (.int b)]))
  refine Gl.go (fun _ k => XS.icmpNo X6.here hx rfl (hb hby at_44) rfl (teq rfl).2 k) ?_
  show Gl p.tables e below (QQof s (Q_law Z a b h0 n0) 2 8) (T6.setTop (mkF m 47 #[.val (.int a), .val (.int b), .val (.ref r1), .val (.ref r2), .val (.int (1 : Int32)), .unset] []))
  refine Gl.go (fun _ k => XS.iconst X6.here hx rfl (hb hby at_47) k) ?_
  show Gl p.tables e below (QQof s (Q_law Z a b h0 n0) 2 8) (T6.setTop (mkF m 48 #[.val (.int a), .val (.int b), .val (.ref r1), .val (.ref r2), .val (.int (1 : Int32)), .unset] [(.int (1 : Int32))]))
  refine Gl.go (fun _ k => XS.goto X6.here hx rfl (pc0 := 48) (pc' := 52) rfl (hb hby at_48) (by decide) (by decide) k) ?_
  show Gl p.tables e below (QQof s (Q_law Z a b h0 n0) 2 8) (T6.setTop (mkF m 52 #[.val (.int a), .val (.int b), .val (.ref r1), .val (.ref r2), .val (.int (1 : Int32)), .unset] [(.int (1 : Int32))]))
  refine Gl.go (fun _ k => XS.istore X6.here hx rfl (hb hby at_52) rfl (l' := #[.val (.int a), .val (.int b), .val (.ref r1), .val (.ref r2), .val (.int (1 : Int32)), .val (.int (1 : Int32))]) rfl k) ?_
  show Gl p.tables e below (QQof s (Q_law Z a b h0 n0) 2 8) (T6.setTop (mkF m 54 #[.val (.int a), .val (.int b), .val (.ref r1), .val (.ref r2), .val (.int (1 : Int32)), .val (.int (1 : Int32))] []))
  refine Gl.go (fun _ k => XS.iload X6.here hx rfl (hb hby at_54) rfl  k) ?_
  show Gl p.tables e below (QQof s (Q_law Z a b h0 n0) 2 8) (T6.setTop (mkF m 56 #[.val (.int a), .val (.int b), .val (.ref r1), .val (.ref r2), .val (.int (1 : Int32)), .val (.int (1 : Int32))] [(.int (1 : Int32))]))
  refine Gl.go (fun _ k => XS.ifNo X6.here hx rfl (hb hby at_56) rfl ((if0 _ _).trans (feq (by decide)).1) k) ?_
  show Gl p.tables e below (QQof s (Q_law Z a b h0 n0) 2 8) (T6.setTop (mkF m 59 #[.val (.int a), .val (.int b), .val (.ref r1), .val (.ref r2), .val (.int (1 : Int32)), .val (.int (1 : Int32))] []))
  refine Gl.go (fun _ k => XS.iload X6.here hx rfl (hb hby at_59) rfl  k) ?_
  show Gl p.tables e below (QQof s (Q_law Z a b h0 n0) 2 8) (T6.setTop (mkF m 61 #[.val (.int a), .val (.int b), .val (.ref r1), .val (.ref r2), .val (.int (1 : Int32)), .val (.int (1 : Int32))] [(.int (1 : Int32))]))
  refine Gl.go (fun _ k => XS.ifNo X6.here hx rfl (hb hby at_61) rfl ((if0 _ _).trans (feq (by decide)).1) k) ?_
  show Gl p.tables e below (QQof s (Q_law Z a b h0 n0) 2 8) (T6.setTop (mkF m 64 #[.val (.int a), .val (.int b), .val (.ref r1), .val (.ref r2), .val (.int (1 : Int32)), .val (.int (1 : Int32))] []))
  refine Gl.go (fun _ k => XS.aloadN X6.here hx rfl (hb hby at_64) rfl rfl  k) ?_
  show Gl p.tables e below (QQof s (Q_law Z a b h0 n0) 2 8) (T6.setTop (mkF m 65 #[.val (.int a), .val (.int b), .val (.ref r1), .val (.ref r2), .val (.int (1 : Int32)), .val (.int (1 : Int32))] [(.ref r1)]))
  obtain ⟨cq7, kq7, q7a, q7b, q7c⟩ := isOf hZ e6 E_r1_2
  obtain ⟨_, _, ⟨T7, L7, k7, n7⟩, -, X7, ⟨Lc7, hQ7, l7, y7, z7⟩, st7⟩ := X6.virtualBack hx (y := (⟨"com/example/frosted_rows/frostedrows/snapshot/Row", "sensitive", "()I"⟩ : MethodName)) (z := (⟨"com/example/frosted_rows/frostedrows/snapshot/Row", "sensitive", "()I"⟩ : MethodName)) hown (mvT hZ (hw _ (List.mem_of_getElem? (i := 25) rfl))) (mvT hZ (hw _ (List.mem_of_getElem? (i := 26) rfl))) (notFace_of_selects (args := #[]) (mvT hZ (hw _ (List.mem_of_getElem? (i := 28) rfl)))) (mvT hZ (hw _ (List.mem_of_getElem? (i := 28) rfl))) (mvT hZ (hw _ (List.mem_of_getElem? (i := 27) rfl))) (by decide) (backOf (W := 0) (rm_sens l Z a0 hw [] r1 a T2.heap n0 SZ2 F_r1_sensitive_2) hZ (hw _ (List.mem_of_getElem? (i := 29) rfl)) (hw _ (List.mem_of_getElem? (i := 2) rfl)) (by decide) (by decide)) q7a q7c (g := (mkF m 65 #[.val (.int a), .val (.int b), .val (.ref r1), .val (.ref r2), .val (.int (1 : Int32)), .val (.int (1 : Int32))] [(.ref r1)])) rfl (by rw [hml]; rfl) (Steps.refl _) (argsL := []) (rest := []) (lenOf pd_3 rfl) rfl (by show 2 * 0 + _ ≤ _; exact Nat.le_of_eq rfl) (hb hby at_65) (fun _ _ => ⟨rfl, e6, (by decide : 2 + 0 ≤ _), (by decide : 8 + 0 ≤ _)⟩)
  dsimp only [Pt.U, Pt.locs, Pt.cells, Pt.slots] at X7 l7 y7 z7 st7 hQ7
  subst l7 y7 z7
  obtain ⟨rfl, Nq7, e7⟩ := hQ7
  have N7 := Fr.app N6 Nq7
  refine Gl.go (fun _ k => st7.trans k) ?_
  show Gl p.tables e below (QQof s (Q_law Z a b h0 n0) 2 8) (T7.setTop (mkF m 68 #[.val (.int a), .val (.int b), .val (.ref r1), .val (.ref r2), .val (.int (1 : Int32)), .val (.int (1 : Int32))] [(.int a)]))
  refine Gl.go (fun _ k => XS.iloadN X7.here hx rfl (hb hby at_68) rfl  k) ?_
  show Gl p.tables e below (QQof s (Q_law Z a b h0 n0) 2 8) (T7.setTop (mkF m 69 #[.val (.int a), .val (.int b), .val (.ref r1), .val (.ref r2), .val (.int (1 : Int32)), .val (.int (1 : Int32))] [(.int a), (.int a)]))
  refine Gl.go (fun _ k => XS.icmpNo X7.here hx rfl (hb hby at_69) rfl (teq rfl).2 k) ?_
  show Gl p.tables e below (QQof s (Q_law Z a b h0 n0) 2 8) (T7.setTop (mkF m 72 #[.val (.int a), .val (.int b), .val (.ref r1), .val (.ref r2), .val (.int (1 : Int32)), .val (.int (1 : Int32))] []))
  refine Gl.go (fun _ k => XS.iconst X7.here hx rfl (hb hby at_72) k) ?_
  show Gl p.tables e below (QQof s (Q_law Z a b h0 n0) 2 8) (T7.setTop (mkF m 73 #[.val (.int a), .val (.int b), .val (.ref r1), .val (.ref r2), .val (.int (1 : Int32)), .val (.int (1 : Int32))] [(.int (1 : Int32))]))
  refine Gl.go (fun _ k => XS.goto X7.here hx rfl (pc0 := 73) (pc' := 77) rfl (hb hby at_73) (by decide) (by decide) k) ?_
  show Gl p.tables e below (QQof s (Q_law Z a b h0 n0) 2 8) (T7.setTop (mkF m 77 #[.val (.int a), .val (.int b), .val (.ref r1), .val (.ref r2), .val (.int (1 : Int32)), .val (.int (1 : Int32))] [(.int (1 : Int32))]))
  refine leafN X7 hx hlk (t := .boolean) Bd.returns (by simp) (hb hby at_77) ?_ (by decide) (by decide)
  exact ⟨rfl, N7⟩
set_option maxRecDepth 65536 in
set_option maxHeartbeats 40000000 in
theorem comes_1 {Post : Tables → Env → Array Value → State → Outcome → State → Prop} (hpost : ∀ tb e args s v u, (limb_1_1.after args s (.returned v) u = true ∧ limb_1_2.after args s (.returned v) u = true ∧ True) → FrameEnd s (.returned v) u (Jvm.fieldLocs frame_1_writes args s ++ Jvm.arrayLocs frame_1_arrays args s ++ Jvm.staticLocs frame_1_statics s) 16 128 → Post tb e args s (.returned v) u) :
    ArmFor flags0 classFile x code maxLocals ret World_1 tables_1 room_1 Calls_1 rest_1 Pre_1 Post := by
  intro l hfl _ _ p e ha hc hk s m args below hf hA hF happ hP
  obtain ⟨hcalls, hrest, hpre⟩ := hP
  obtain ⟨-, -, -, hnamed, -, -, -, hat⟩ := (Spec.applies_iff hf).mp happ
  obtain ⟨hg, hn⟩ := and_e (Cond.before_iff.mp (show (Jvm.Cond.and given_1 narrow_1).before args s = true from hpre))
  obtain ⟨hcount, hg0⟩ := and_e hg
  obtain ⟨hk0, hg1⟩ := and_e hg0
  have hk1 := hg1
  obtain ⟨w0, w1, rfl⟩ : ∃ w0 w1 : Value, args = #[w0, w1] := by
    have hs : args.size = 2 := by simpa [Cond.value, given_1] using hcount
    obtain ⟨L⟩ := args
    match L, hs with
    | [w0, w1], _ => exact ⟨w0, w1, rfl⟩
  have hw := fun d (hd : d ∈ tables_1) => atoms_spec (ws := Jvm.Cond.code x code maxLocals ret :: tables_1) hat d (List.mem_cons_of_mem _ hd)
  have hfit : Fit s := fun {y c} hc i hi => by
    obtain ⟨ha, rfl⟩ := Array.getElem?_eq_some_iff.mp hc
    have q := List.all_eq_true.mp ((Array.all_eq_true_iff_forall_mem.mp hF) _ (Array.getElem_mem ha)) i (List.mem_range.mpr hi)
    simpa [Array.getElem?_eq_getElem hi] using q
  obtain ⟨i0, ei0⟩ := is_v hk0
  obtain rfl : w0 = (.int i0) := Option.some.inj ei0
  obtain ⟨i1, ei1⟩ := is_v hk1
  obtain rfl : w1 = (.int i1) := Option.some.inj ei1
  obtain ⟨n, o, h1, h2, h3, _, L, rfl, ⟨rfl, N⟩, hq⟩ := rm_law l s _ hw tables_1 i0 i1 s.heap s.heap.size (Nat.le_refl _)  p e ha hc hk s m _ below hf ((Spec.applies_iff_loose hf).mp happ).1 ⟨rfl, State.Warmed39.refl s, rfl⟩ trivial
  refine ⟨n, _, h1, h2, h3, hpost _ _ _ _ _ _ ⟨Cond.after_iff.mpr rfl, Cond.after_iff.mpr (eq_i res_at (Term.int_eval (1)) rfl), trivial⟩ ⟨hq.1, hq.2.1, (hq.2.2.sift fun y hy => Or.inr (N y hy)).mono (by decide) (by decide)⟩⟩
theorem main_1_1 : Claimed_1_1 := comes_1 fun _ _ _ _ _ _ h hF => ⟨h.1, hF⟩
theorem main_1_2 : Claimed_1_2 := comes_1 fun _ _ _ _ _ _ h hF => ⟨h.2.1, hF⟩
end Jvm.Pilot.@@N@@
namespace Jvm.Pilot.@@N@@
open Jvm Jvm.ClassFile Sem Op Lib Jvm.Free Jvm.Stand Jvm.Pilot.@@N@@.Jvm.D
/-! MADE BY PROGRAM (witnessworld.py) out of the Statement's table words and the real class files: 9 classes; the members and pool entries that the words name. The judged class is class 1, her method 1. -/
namespace start1
open Jvm.ClassFile
def u (s : String) : CpInfo := .utf8 (stringToUtf16 s)
/-- a pool by its gaps: so many unusable entries, then the entry; so many at the end -/
def gap : Nat → List CpInfo → List CpInfo
  | 0, r => r
  | n + 1, r => .unusable :: gap n r
def poolList (es : List (Nat × CpInfo)) (last : Nat) : List CpInfo := es.foldr (fun e r => gap e.1 (e.2 :: r)) (gap last [])
def pool (es : List (Nat × CpInfo)) (last : Nat) : Array CpInfo := ⟨poolList es last⟩
def fileOf (pool : Array CpInfo) (this : Nat) (attrs : Array Attribute := #[]) (ms : Array MethodInfo := #[]) (fl : Nat := 33) (sup : Nat := 0) (ifs : Array Nat := #[]) (fds : Array FieldInfo := #[]) : ClassFile where
  minorVersion := 0
  majorVersion := 65
  constantPool := pool
  accessFlags := fl
  thisClass := this
  superClass := sup
  interfaces := ifs
  fields := fds
  methods := ms
  attributes := attrs
def plain (name : String) (sup : Option ClassId) : Class where
  name := name
  kind := .ordinary
  loader := none
  accessFlags := 33
  super := sup
  interfaces := #[]
  cf := none
  fields := #[]
  methods := #[]
  instanceTypes := #[]
  staticTypes := #[]
  resolved := #[]
  callSites := []
  init := .initialized
  statics := none
  mirror := none

def pool0 : Array CpInfo := pool [(5, u "<init>"), (0, u "()V"), (1, .class_ 10), (1, u "java/lang/Object")] 113

def k0c0 : Code := { maxStack := 0, maxLocals := 1, code := object_method_1_code, exceptionTable := #[], attributes := #[] }
def k0m0 : Method := { name := "<init>", desc := "()V", sig := { parameters := [], returnType := none }, accessFlags := 1, code := some k0c0 }
/-- java/lang/Object -/
def k0 : Class := { plain "java/lang/Object" none with
  accessFlags := 33
  interfaces := #[]
  cf := some (fileOf pool0 8 #[] #[{ accessFlags := 1, nameIndex := 5, descriptorIndex := 6, attributes := #[] }] 33 0 #[] #[])
  fields := #[]
  methods := #[k0m0]
  instanceTypes := #[]
  staticTypes := #[]
  resolved := Array.replicate 124 none
  statics := none }

def pool1 : Array CpInfo := pool [(2, .class_ 4), (1, u "java/lang/Object"), (0, u "<init>"), (0, u "()V"), (0, .methodref 8 9), (0, .class_ 10), (0, .nameAndType 11 12), (0, u "com/example/frosted_rows/frostedrows/snapshot/Row"), (0, u "counterfeit"), (0, u "(I)Lcom/example/frosted_rows/frostedrows/snapshot/Row;"), (0, .methodref 8 14), (0, .nameAndType 11 15), (0, u "()Z"), (0, .methodref 8 17), (0, .nameAndType 18 19), (0, u "sensitive"), (0, u "()I"), (0, .class_ 21), (0, u "com/example/frosted_rows/frostedrows/snapshot/RowCounterfeit409PinLaw"), (2, u "law"), (0, u "(II)Z")] 3

def k1m0 : Method := { name := "<init>", desc := "()V", sig := { parameters := [], returnType := none }, accessFlags := 1, code := none }
def k1c1 : Code := { maxStack := 2, maxLocals := 6, code := code, exceptionTable := #[], attributes := #[] }
def k1m1 : Method := { name := "law", desc := "(II)Z", sig := { parameters := [.int, .int], returnType := some .boolean }, accessFlags := 9, code := some k1c1 }
/-- com/example/frosted_rows/frostedrows/snapshot/RowCounterfeit409PinLaw -/
def k1 : Class := { plain "com/example/frosted_rows/frostedrows/snapshot/RowCounterfeit409PinLaw" (some 0) with
  accessFlags := 49
  interfaces := #[]
  cf := some (fileOf pool1 20 #[] #[{ accessFlags := 1, nameIndex := 5, descriptorIndex := 6, attributes := #[] }, { accessFlags := 9, nameIndex := 24, descriptorIndex := 25, attributes := #[] }] 49 2 #[] #[])
  fields := #[]
  methods := #[k1m0, k1m1]
  instanceTypes := #[]
  staticTypes := #[]
  resolved := Array.replicate 29 none
  statics := none }

def pool2 : Array CpInfo := pool [(1, .methodref 2 3), (0, .class_ 4), (0, .nameAndType 5 6), (0, u "java/lang/Object"), (0, u "<init>"), (0, u "()V"), (0, .fieldref 8 9), (0, .class_ 10), (0, .nameAndType 11 12), (0, u "com/example/frosted_rows/frostedrows/snapshot/Row"), (0, u "index"), (0, u "I"), (0, .fieldref 8 14), (0, .nameAndType 15 16), (0, u "id"), (0, u "Ljava/lang/String;"), (0, .fieldref 8 18), (0, .nameAndType 19 20), (0, u "qi"), (0, u "[I"), (0, .fieldref 8 22), (0, .nameAndType 23 12), (0, u "sensitive"), (0, .methodref 8 25), (0, .nameAndType 5 26), (0, u "(ILjava/lang/String;[II)V"), (12, u "counterfeit"), (0, u "(I)Lcom/example/frosted_rows/frostedrows/snapshot/Row;"), (0, u "()Z"), (1, u "()I")] 4

def k2c0 : Code := { maxStack := 2, maxLocals := 5, code := prog_15_method_1_code, exceptionTable := #[], attributes := #[] }
def k2m0 : Method := { name := "<init>", desc := "(ILjava/lang/String;[II)V", sig := { parameters := [.int, (.object "java/lang/String"), (.array .int), .int], returnType := none }, accessFlags := 0, code := some k2c0 }
def k2c1 : Code := { maxStack := 6, maxLocals := 1, code := prog_15_method_2_code, exceptionTable := #[], attributes := #[] }
def k2m1 : Method := { name := "counterfeit", desc := "(I)Lcom/example/frosted_rows/frostedrows/snapshot/Row;", sig := { parameters := [.int], returnType := some (.object "com/example/frosted_rows/frostedrows/snapshot/Row") }, accessFlags := 9, code := some k2c1 }
def k2c2 : Code := { maxStack := 1, maxLocals := 1, code := prog_15_method_3_code, exceptionTable := #[], attributes := #[] }
def k2m2 : Method := { name := "counterfeit", desc := "()Z", sig := { parameters := [], returnType := some .boolean }, accessFlags := 1, code := some k2c2 }
def k2c3 : Code := { maxStack := 1, maxLocals := 1, code := prog_15_method_7_code, exceptionTable := #[], attributes := #[] }
def k2m3 : Method := { name := "sensitive", desc := "()I", sig := { parameters := [], returnType := some .int }, accessFlags := 1, code := some k2c3 }
/-- com/example/frosted_rows/frostedrows/snapshot/Row -/
def k2 : Class := { plain "com/example/frosted_rows/frostedrows/snapshot/Row" (some 0) with
  accessFlags := 49
  interfaces := #[]
  cf := some (fileOf pool2 8 #[] #[{ accessFlags := 0, nameIndex := 5, descriptorIndex := 26, attributes := #[] }, { accessFlags := 9, nameIndex := 39, descriptorIndex := 40, attributes := #[] }, { accessFlags := 1, nameIndex := 39, descriptorIndex := 41, attributes := #[] }, { accessFlags := 1, nameIndex := 23, descriptorIndex := 43, attributes := #[] }] 49 2 #[] #[{ accessFlags := 18, nameIndex := 11, descriptorIndex := 12, attributes := #[] }, { accessFlags := 18, nameIndex := 15, descriptorIndex := 16, attributes := #[] }, { accessFlags := 18, nameIndex := 19, descriptorIndex := 20, attributes := #[] }, { accessFlags := 18, nameIndex := 23, descriptorIndex := 12, attributes := #[] }])
  fields := #[{ name := "index", type := .int, accessFlags := 18, slot := 0, constantValue := 0 }, { name := "id", type := (.object "java/lang/String"), accessFlags := 18, slot := 1, constantValue := 0 }, { name := "qi", type := (.array .int), accessFlags := 18, slot := 2, constantValue := 0 }, { name := "sensitive", type := .int, accessFlags := 18, slot := 3, constantValue := 0 }]
  methods := #[k2m0, k2m1, k2m2, k2m3]
  instanceTypes := #[.int, (.object "java/lang/String"), (.array .int), .int]
  staticTypes := #[]
  resolved := Array.replicate 48 none
  statics := none }

def pool3 : Array CpInfo := pool [(1, u "java/lang/Cloneable"), (0, .class_ 1), (0, u "java/lang/Object"), (0, .class_ 3)] 3

/-- java/lang/Cloneable -/
def k3 : Class := { plain "java/lang/Cloneable" (some 0) with
  accessFlags := 1537
  interfaces := #[]
  cf := some (fileOf pool3 2 #[] #[] 1537 4 #[] #[])
  fields := #[]
  methods := #[]
  instanceTypes := #[]
  staticTypes := #[]
  resolved := Array.replicate 8 none
  statics := none }

def pool4 : Array CpInfo := pool [(1, u "java/io/Serializable"), (0, .class_ 1), (0, u "java/lang/Object"), (0, .class_ 3)] 3

/-- java/io/Serializable -/
def k4 : Class := { plain "java/io/Serializable" (some 0) with
  accessFlags := 1537
  interfaces := #[]
  cf := some (fileOf pool4 2 #[] #[] 1537 4 #[] #[])
  fields := #[]
  methods := #[]
  instanceTypes := #[]
  staticTypes := #[]
  resolved := Array.replicate 8 none
  statics := none }

/-- the primitive byte -/
def k5 : Class := { plain "byte" none with kind := .primitive 'B', accessFlags := 0x411 }
/-- [B -/
def k6 : Class := { plain "[B" (some 0) with kind := .array 5 .byte, interfaces := #[3, 4], accessFlags := 1041 }

/-- the primitive int -/
def k7 : Class := { plain "int" none with kind := .primitive 'I', accessFlags := 0x411 }
/-- [I -/
def k8 : Class := { plain "[I" (some 0) with kind := .array 7 .int, interfaces := #[3, 4], accessFlags := 1041 }

def heap : Heap := #[]
def classes : Array Class := #[k0, k1, k2, k3, k4, k5, k6, k7, k8]
def interned : List (Array UInt16 × Addr) := []
def slotsUsed : Nat := 0
def theMethod : MethodId := ⟨1, 1⟩
def args0 : Array Value := #[.int 5, .int 7]
def aboutOver (below : List Frame) : State where
  vm := { classes := classes, interned := interned.toArray }
  heap := heap
  slotsUsed := slotsUsed
  threads := #[{ frames := .invoking theMethod args0 :: below }]
def below0 : List Frame := [.native { method := ⟨0, 0⟩, args := #[] }]
def about1 : State := aboutOver below0
def p0 : Program := .bare "" "" ""
def e0 : Env := launch0.env 0 0 0
theorem w_frames : about1.frames = Frame.invoking theMethod args0 :: below0 := rfl
set_option maxRecDepth 65536 in
theorem w_args : argsFit about1.vm theMethod args0 = true := by decide +kernel
set_option maxRecDepth 65536 in
theorem w_heap : heapFits about1 = true := by decide +kernel
set_option maxRecDepth 65536 in
theorem w_runnable : about1.curStatus? = some .runnable := by decide +kernel
set_option maxRecDepth 65536 in
theorem w_alone : about1.alone = true := by decide +kernel
set_option maxRecDepth 65536 in
theorem w_named : about1.methodNamed? x = some theMethod := by decide +kernel
set_option maxRecDepth 65536 in
theorem w_hears : about1.hears theMethod below0 = true := by decide +kernel
set_option maxRecDepth 65536 in
theorem w_ripe : about1.ripe theMethod args0 below0 = true := by decide +kernel
theorem w_running : about1.status = .running := rfl
set_option maxRecDepth 65536 in
theorem w_room : about1.hasRoom e0.platform room_1 = true :=
  launch0.hasRoom_least _ room_1 (by decide +kernel) (by decide +kernel) (by decide +kernel) (by decide +kernel) (by decide +kernel) (by decide +kernel)
theorem allAtoms_all (ts : List Jvm.Cond) (a : Array Jvm.Value) (st : Jvm.State) : (allAtoms ts).before a st = ts.all (fun c => c.before a st) := by
  induction ts with
  | nil => rfl
  | cons c t ih =>
    show (Jvm.Cond.and c (allAtoms t)).before a st = _
    rw [Jvm.Cond.before_and, ih, List.all_cons]
def words1 : List Jvm.Cond := Jvm.Cond.code x code maxLocals ret :: tables_1
/-- a 'code' word, met by the world's own term for the bytes: nothing is compared byte by byte -/
theorem code_word {y : MethodName} {bytes : ByteArray} {mx : Nat} {rt : Option FieldType} {a : Array Value} {s : State} {m : MethodId} {meth : Method} {c : Code} (h1 : s.methodNamed? y = some m) (h2 : s.vm.method? m = some meth) (h3 : meth.code = some c) (h4 : c.code = bytes)
    (h5 : (c.maxLocals == mx && c.exceptionTable.isEmpty && decide (c.maxStack ≤ mostOperands) && decide (meth.sig.returnType = rt) && !meth.locks && decide (parseMethodDescriptor y.desc = some meth.sig)) = true) : (Jvm.Cond.code y bytes mx rt).before a s = true := by
  simp only [Bool.and_eq_true, beq_iff_eq, Bool.not_eq_true', decide_eq_true_eq] at h5
  obtain ⟨⟨⟨⟨⟨g1, g2⟩, g3⟩, g4⟩, g5⟩, g6⟩ := h5
  simp [Cond.before, Cond.holds, Cond.value, h1, h2, h3, h4, g1, g2, g3, g4, g5, g6]
def isCode : Jvm.Cond → Bool
  | .code _ _ _ _ => true
  | _ => false
theorem all_split {L : List Jvm.Cond} {P : Jvm.Cond → Bool} (h1 : L.all (fun c => isCode c || P c) = true) (h2 : ∀ c ∈ L.filter isCode, P c = true) : L.all P = true := by
  refine List.all_eq_true.mpr fun c hc => ?_
  have h := List.all_eq_true.mp h1 c hc
  rcases Bool.eq_false_or_eq_true (isCode c) with hi | hi
  · exact h2 c (List.mem_filter.mpr ⟨hc, hi⟩)
  · simpa [hi] using h
set_option maxRecDepth 65536 in
theorem w_c0 : (Jvm.Cond.code x code maxLocals ret).before args0 about1 = true := code_word (m := ⟨1, 1⟩) (meth := k1m1) (c := k1c1) (by decide +kernel) rfl rfl rfl (by decide +kernel)
set_option maxRecDepth 65536 in
theorem w_c1 : (Jvm.Cond.code ({ cls := "com/example/frosted_rows/frostedrows/snapshot/Row", name := "counterfeit", desc := "(I)Lcom/example/frosted_rows/frostedrows/snapshot/Row;" } : Jvm.MethodName) prog_15_method_2_code (1 : Nat) (Option.some (Jvm.ClassFile.FieldType.object "com/example/frosted_rows/frostedrows/snapshot/Row"))).before args0 about1 = true := code_word (m := ⟨2, 1⟩) (meth := k2m1) (c := k2c1) (by decide +kernel) rfl rfl rfl (by decide +kernel)
set_option maxRecDepth 65536 in
theorem w_c2 : (Jvm.Cond.code ({ cls := "com/example/frosted_rows/frostedrows/snapshot/Row", name := "<init>", desc := "(ILjava/lang/String;[II)V" } : Jvm.MethodName) prog_15_method_1_code (5 : Nat) (Option.none : Option Jvm.ClassFile.FieldType)).before args0 about1 = true := code_word (m := ⟨2, 0⟩) (meth := k2m0) (c := k2c0) (by decide +kernel) rfl rfl rfl (by decide +kernel)
set_option maxRecDepth 65536 in
theorem w_c3 : (Jvm.Cond.code ({ cls := "java/lang/Object", name := "<init>", desc := "()V" } : Jvm.MethodName) object_method_1_code (1 : Nat) (Option.none : Option Jvm.ClassFile.FieldType)).before args0 about1 = true := code_word (m := ⟨0, 0⟩) (meth := k0m0) (c := k0c0) (by decide +kernel) rfl rfl rfl (by decide +kernel)
set_option maxRecDepth 65536 in
theorem w_c4 : (Jvm.Cond.code ({ cls := "com/example/frosted_rows/frostedrows/snapshot/Row", name := "counterfeit", desc := "()Z" } : Jvm.MethodName) prog_15_method_3_code (1 : Nat) (Option.some Jvm.ClassFile.FieldType.boolean)).before args0 about1 = true := code_word (m := ⟨2, 2⟩) (meth := k2m2) (c := k2c2) (by decide +kernel) rfl rfl rfl (by decide +kernel)
set_option maxRecDepth 65536 in
theorem w_c5 : (Jvm.Cond.code ({ cls := "com/example/frosted_rows/frostedrows/snapshot/Row", name := "sensitive", desc := "()I" } : Jvm.MethodName) prog_15_method_7_code (1 : Nat) (Option.some Jvm.ClassFile.FieldType.int)).before args0 about1 = true := code_word (m := ⟨2, 3⟩) (meth := k2m3) (c := k2c3) (by decide +kernel) rfl rfl rfl (by decide +kernel)
def codes1 : List Jvm.Cond := [Jvm.Cond.code x code maxLocals ret, Jvm.Cond.code ({ cls := "com/example/frosted_rows/frostedrows/snapshot/Row", name := "counterfeit", desc := "(I)Lcom/example/frosted_rows/frostedrows/snapshot/Row;" } : Jvm.MethodName) prog_15_method_2_code (1 : Nat) (Option.some (Jvm.ClassFile.FieldType.object "com/example/frosted_rows/frostedrows/snapshot/Row")), Jvm.Cond.code ({ cls := "com/example/frosted_rows/frostedrows/snapshot/Row", name := "<init>", desc := "(ILjava/lang/String;[II)V" } : Jvm.MethodName) prog_15_method_1_code (5 : Nat) (Option.none : Option Jvm.ClassFile.FieldType), Jvm.Cond.code ({ cls := "java/lang/Object", name := "<init>", desc := "()V" } : Jvm.MethodName) object_method_1_code (1 : Nat) (Option.none : Option Jvm.ClassFile.FieldType), Jvm.Cond.code ({ cls := "com/example/frosted_rows/frostedrows/snapshot/Row", name := "counterfeit", desc := "()Z" } : Jvm.MethodName) prog_15_method_3_code (1 : Nat) (Option.some Jvm.ClassFile.FieldType.boolean), Jvm.Cond.code ({ cls := "com/example/frosted_rows/frostedrows/snapshot/Row", name := "sensitive", desc := "()I" } : Jvm.MethodName) prog_15_method_7_code (1 : Nat) (Option.some Jvm.ClassFile.FieldType.int)]
set_option maxRecDepth 65536 in
theorem codes_eq : words1.filter isCode = codes1 := rfl
theorem w_codes : ∀ c ∈ words1.filter isCode, c.before args0 about1 = true := by
  rw [codes_eq]
  intro c hc
  simp only [codes1, List.mem_cons, List.not_mem_nil, or_false] at hc
  rcases hc with rfl | rfl | rfl | rfl | rfl | rfl
  · exact w_c0
  · exact w_c1
  · exact w_c2
  · exact w_c3
  · exact w_c4
  · exact w_c5
set_option maxRecDepth 65536 in
theorem w_t1 : (words1.take 24).all (fun c => isCode c || c.before args0 about1) = true := by decide +kernel
set_option maxRecDepth 65536 in
theorem w_t2 : (words1.drop 24).all (fun c => isCode c || c.before args0 about1) = true := by decide +kernel
theorem w_tables : (allAtoms (Jvm.Cond.code x code maxLocals ret :: tables_1)).before args0 about1 = true := by
  rw [allAtoms_all]
  show words1.all (fun c => c.before args0 about1) = true
  refine all_split ?_ w_codes
  rw [← List.take_append_drop 24 words1, List.all_append, w_t1, w_t2]
  rfl
set_option maxRecDepth 65536 in
theorem w_case : (Jvm.Cond.and given_1 narrow_1).before args0 about1 = true := by decide +kernel
theorem w_applies : (headSpec (Jvm.Cond.code x code maxLocals ret :: tables_1) room_1).applies x e0.platform about1 = true :=
  (Spec.applies_iff w_frames).mpr ⟨w_running, w_runnable, w_alone, w_named, w_hears, w_ripe, w_room, w_tables⟩
theorem atStart : AtStart classFile x code maxLocals ret World_1 tables_1 room_1 Calls_1 rest_1 Pre_1 launch0 p0 e0 about1 theMethod args0 below0 :=
  ⟨lists_1, trivial, launch0.admits_env _ _ _, launch0.least_env, fairChoices_fair.cas, fairChoices_fair.clock, w_frames, w_args, w_heap, w_applies, trivial, trivial, w_case⟩
end start1
theorem witness_1 : WitnessClaimed_1 := ⟨start1.p0, start1.e0, start1.about1, start1.theMethod, start1.args0, start1.below0, start1.atStart⟩
end Jvm.Pilot.@@N@@
