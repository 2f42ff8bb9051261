import JvmDerived
import JvmDerived.Pilot.@@N@@Statement
import JvmDerived.Pilot.@@N@@Code
set_option linter.unusedVariables false
set_option linter.unusedSimpArgs false
namespace Jvm.RoadKit
open Sem ClassFile Op Lib Jvm.Stand Jvm.Free Jvm.LawKit
section New
variable {p : Program} {l : Launch} {e : Env} {R : Room} {s : State} {m : MethodId} {args : Array Value} {below : List Frame} {meth : Method} {c : Code} {T : State} {locs : List Loc} {cells slots : Nat}
theorem retI (X : Stand p l e R s m args below meth c T locs cells slots) (hx : p.tables.exec = Jvm.exec) {pc : Nat} {Ls : Array Slot} {z : Int32} {rest : List Value} (hret : meth.sig.returnType = some .int) (hd : decode c.code pc = .ok (.ireturn, 1)) {fs : List Frame}
    (hl : ∀ (f : JFrame) (acts : List Action), f.method = m → f.locked = none → f.entered = [] → (doReturn e (T.setTop f) acts (some (.int z))).1 = T.setFrames fs) : Steps p.tables e below (T.setTop (mkF m pc Ls (.int z :: rest))) (T.setFrames fs) := by
  have hm' : T.vm.method? m = some meth := X.method'
  have hn : narrow .int (.int z) = .int z := rfl
  show Steps p.tables e below (T.setTop { method := m, pc := pc, locals := Ls, stack := _ :: rest, locked := none }) _
  jvm_step X.here [X.here.top, hx, hd, hm', hret, hn]
  first | (intro acts; rw [hl _ acts rfl rfl rfl]) | rw [hl _ _ rfl rfl rfl]
  exact Steps.refl _
end New
end Jvm.RoadKit
namespace Jvm.Pilot.@@N@@
open Jvm Jvm.ClassFile Sem Op Lib Jvm.Free Jvm.Stand Jvm.LawKit Jvm.RoadKit Bundle Jvm.Pilot.@@N@@.Jvm.D
/-- what is left of a walk: from the frame f of T the run comes to its end, where Qe holds -/
def own_Rest (p : Program) (e : Env) (below : List Frame) (Qe : Outcome → State → Prop) (T : State) (f : JFrame) : Prop :=
  ∃ s₂ o, Steps p.tables e below (T.setTop f) s₂ ∧ s₂.status = .running ∧ Ended s₂ below o ∧ Qe o s₂
abbrev own_S (p : Program) (e : Env) (below : List Frame) (T : State) (f : JFrame) (t : State) : Prop := Steps p.tables e below (T.setTop f) t
theorem own_by {p : Program} {e : Env} {below : List Frame} {Qe : Outcome → State → Prop} {T T' : State} {f f' : JFrame}
    (h : ∀ t, Steps p.tables e below (T'.setTop f') t → Steps p.tables e below (T.setTop f) t) (k : own_Rest p e below Qe T' f') : own_Rest p e below Qe T f := by
  obtain ⟨s₂, o, h1, h2⟩ := k
  exact ⟨s₂, o, h _ h1, h2⟩
theorem own_at {p : Program} {e : Env} {below : List Frame} {Qe : Outcome → State → Prop} {T : State} {f f' : JFrame}
    (h : ∀ {t}, Steps p.tables e below (T.setTop f') t → Steps p.tables e below (T.setTop f) t) (k : own_Rest p e below Qe T f') :
    ∃ s₂ o, Steps p.tables e below (T.setTop f) s₂ ∧ s₂.status = .running ∧ Ended s₂ below o ∧ Qe o s₂ := by
  obtain ⟨s₂, o, h1, h2⟩ := k
  exact ⟨s₂, o, h h1, h2⟩
theorem own_cat1 {v : Value} (h : v.isRef = true) : v.category = 1 := by cases v <;> simp_all [Value.isRef, Value.category]
theorem own_catr (a : Addr) : (Value.ref a).category = 1 := rfl
theorem own_catn : Value.null.category = 1 := rfl
theorem own_c255 (x : Int32) : ¬ (x &&& (255 : Int32)).toUInt32.toUInt16.toUInt32.toInt32 < 0 ∧ ¬ (255 : Int32) < (x &&& (255 : Int32)).toUInt32.toUInt16.toUInt32.toInt32 := by
  have h1 := c_mask x 255 8 (by decide) (by decide)
  have h2 := c_i2c (x &&& (255 : Int32))
  simp only [Int32.lt_iff_toInt_lt, Int32.reduceToInt]
  omega
theorem own_narc {z : Int32} (h : ¬ z < 0 ∧ ¬ (255 : Int32) < z) : nar .char z = z := by
  have h2 := c_i2c z
  obtain ⟨h3, h4⟩ := h
  simp only [Int32.lt_iff_toInt_lt, Int32.reduceToInt] at h3 h4
  have e : (nar .char z).toInt = z.toInt := by
    show z.toUInt32.toUInt16.toUInt32.toInt32.toInt = z.toInt
    omega
  exact Int32.toInt_inj.mp e
theorem own_nrb {z : Int32} (h : z = 0 ∨ z = 1) : narrow .boolean (.int z) = .int z := by rcases h with rfl | rfl <;> rfl
theorem own_ftb {z : Int32} (h : z = 0 ∨ z = 1) : fits .boolean (.int z) = true := by rcases h with rfl | rfl <;> rfl
theorem own_eqi {t : Term} {n : Int32} {args : Array Value} {Z : State} (h : (Jvm.Cond.eq t (.int n)).value args Z none Z [] = some true) : t.eval args Z none [] Z = some (.int n) := by
  obtain ⟨x, y, h1, h2, h3, -⟩ := cmp_v (Or.inl h)
  have e : y = .int n := (Option.some.inj h2).symm
  subst e
  cases x <;> simp [Kin, Value.isRef] at h3
  rename_i z
  have : z = n := by simpa [Cond.value, h1, Term.eval] using h
  rw [h1, this]
theorem own_fld {t : Term} {n : Int32} {args : Array Value} {Z : State} {a : Addr} {C f d : String} (ev : t.eval args Z none [] Z = some (.ref a)) (h : (Jvm.Cond.eq (.field t C f d) (.int n)).value args Z none Z [] = some true) : Fld Z Z.heap a C f d (.int n) :=
  Fld.start ((fld_at ev).symm.trans (own_eqi h))
theorem own_nb {z : Int32} (h : z = 0 ∨ z = 1) : nar .boolean z = z := by rcases h with rfl | rfl <;> rfl
abbrev own_ARRUUUUU (x0 : Addr) (x1 : Addr) : Array Slot := #[.val (.ref x0), .val (.ref x1), .unset, .unset, .unset, .unset, .unset]
abbrev own_ARRRUUUU (x0 : Addr) (x1 : Addr) (x2 : Addr) : Array Slot := #[.val (.ref x0), .val (.ref x1), .val (.ref x2), .unset, .unset, .unset, .unset]
abbrev own_AIIUUUUU (x0 : Int32) (x1 : Int32) : Array Slot := #[.val (.int x0), .val (.int x1), .unset, .unset, .unset, .unset, .unset]
abbrev own_AIIRUUUU (x0 : Int32) (x1 : Int32) (x2 : Addr) : Array Slot := #[.val (.int x0), .val (.int x1), .val (.ref x2), .unset, .unset, .unset, .unset]
abbrev own_AIIRRUUU (x0 : Int32) (x1 : Int32) (x2 : Addr) (x3 : Addr) : Array Slot := #[.val (.int x0), .val (.int x1), .val (.ref x2), .val (.ref x3), .unset, .unset, .unset]
abbrev own_AIIRRRUU (x0 : Int32) (x1 : Int32) (x2 : Addr) (x3 : Addr) (x4 : Addr) : Array Slot := #[.val (.int x0), .val (.int x1), .val (.ref x2), .val (.ref x3), .val (.ref x4), .unset, .unset]
abbrev own_AIIRRRRU (x0 : Int32) (x1 : Int32) (x2 : Addr) (x3 : Addr) (x4 : Addr) (x5 : Addr) : Array Slot := #[.val (.int x0), .val (.int x1), .val (.ref x2), .val (.ref x3), .val (.ref x4), .val (.ref x5), .unset]
abbrev own_AIIRRRRI (x0 : Int32) (x1 : Int32) (x2 : Addr) (x3 : Addr) (x4 : Addr) (x5 : Addr) (x6 : Int32) : Array Slot := #[.val (.int x0), .val (.int x1), .val (.ref x2), .val (.ref x3), .val (.ref x4), .val (.ref x5), .val (.int x6)]
theorem own_eqj {t : Term} {n : Int64} {args : Array Value} {Z : State} (h : (Jvm.Cond.eq t (.long n)).value args Z none Z [] = some true) : t.eval args Z none [] Z = some (.long n) := by
  obtain ⟨x, y, h1, h2, h3, -⟩ := cmp_v (Or.inl h)
  have e : y = .long n := (Option.some.inj h2).symm
  subst e
  cases x <;> simp [Kin, Value.isRef] at h3
  rename_i z
  have : z = n := by simpa [Cond.value, h1, Term.eval] using h
  rw [h1, this]
theorem own_fldj {t : Term} {n : Int64} {args : Array Value} {Z : State} {a : Addr} {C f d : String} (ev : t.eval args Z none [] Z = some (.ref a)) (h : (Jvm.Cond.eq (.field t C f d) (.long n)).value args Z none Z [] = some true) : Fld Z Z.heap a C f d (.long n) :=
  Fld.start ((fld_at ev).symm.trans (own_eqj h))
theorem own_len {t : Term} {n : Nat} {args : Array Value} {Z : State} {a : Addr} {cl : Cell} {ty : FieldType} (ev : t.eval args Z none [] Z = some (.ref a)) (A : Arr Z Z.heap a cl ty) (hn : n < 2 ^ 31) (h : (Term.length t).eval args Z none [] Z = some (.int n.toInt32)) : cl.slots.size = n := by
  obtain ⟨b, cell, e1, e2, e3, e4⟩ := Lib.length_spec h
  cases ev.symm.trans e1
  have q : cell = cl := Option.some.inj ((Lib.arrayAt_spec e2).1.symm.trans A.1)
  subst q
  have e5 := congrArg Int32.toInt (Value.int.inj e4)
  rw [len_toInt e3, len_toInt hn] at e5
  omega
theorem d2_0 : decode prog_40_method_1_code 0 = .ok (.aload_n 0, 1) := by decide +kernel
theorem d2_1 : decode prog_40_method_1_code 1 = .ok (.invokespecial 1, 3) := by decide +kernel
theorem d2_4 : decode prog_40_method_1_code 4 = .ok (.aload_n 0, 1) := by decide +kernel
theorem d2_5 : decode prog_40_method_1_code 5 = .ok (.iload_n 1, 1) := by decide +kernel
theorem d2_6 : decode prog_40_method_1_code 6 = .ok (.putfield 7, 3) := by decide +kernel
theorem d2_9 : decode prog_40_method_1_code 9 = .ok (.aload_n 0, 1) := by decide +kernel
theorem d2_10 : decode prog_40_method_1_code 10 = .ok (.iload_n 2, 1) := by decide +kernel
theorem d2_11 : decode prog_40_method_1_code 11 = .ok (.putfield 13, 3) := by decide +kernel
theorem d2_14 : decode prog_40_method_1_code 14 = .ok (.aload_n 0, 1) := by decide +kernel
theorem d2_15 : decode prog_40_method_1_code 15 = .ok (.aload_n 3, 1) := by decide +kernel
theorem d2_16 : decode prog_40_method_1_code 16 = .ok (.putfield 16, 3) := by decide +kernel
theorem d2_19 : decode prog_40_method_1_code 19 = .ok (.return_, 1) := by decide +kernel
theorem pn_2 : plainFor (⟨"com/example/catchment/catchment/Position", "<init>", "(IILjava/math/BigDecimal;)V"⟩ : MethodName) = true := by first | exact plainFor_of_name (by first | (simp [plainName, overriddenIn]; done) | decide +kernel) | decide +kernel | exact Jvm.Free.JP.mathPlain rfl (by decide +kernel)
theorem ef_2 (m : MethodId) (a1 : Addr) (p1 : Int32) (p2 : Int32) (a3 : Addr) : entryFrame m #[(.ref a1), (.int p1), (.int p2), (.ref a3)] 4 = mkF m 0 #[.val (.ref a1), .val (.int p1), .val (.int p2), .val (.ref a3)] [] := by first | (simp [entryFrame, mkF, argsToLocals, Value.category]; done) | rfl
def Q2 (Z : State) (a1 : Addr) (p1 : Int32) (p2 : Int32) (a3 : Addr) (h0 : Heap) (n0 : Nat) (v : Option Value) (h : Heap) (L : List Loc) : Prop := v = none ∧ Fr n0 L ∧ Keep h0 h [a1] ∧ Exa Z h a1 "com/example/catchment/catchment/Position" ∧ Fld Z h a1 "com/example/catchment/catchment/Position" "from" "I" (.int p1) ∧ Fld Z h a1 "com/example/catchment/catchment/Position" "to" "I" (.int p2) ∧ Fld Z h a1 "com/example/catchment/catchment/Position" "distance" "Ljava/math/BigDecimal;" (.ref a3)
set_option maxRecDepth 65536 in
set_option maxHeartbeats 40000000 in
theorem rm2 (l : Launch) (Z : State) (a0 : Array Value) (hw : ∀ d ∈ tables_1, d.before a0 Z = true) (ws : List Jvm.Cond) (a1 : Addr) (p1 : Int32) (p2 : Int32) (a3 : Addr) (h0 : Heap) (n0 : Nat) (Z0 : n0 ≤ h0.size) (E_a1 : Exa Z h0 a1 "com/example/catchment/catchment/Position") (F_from : Fld Z h0 a1 "com/example/catchment/catchment/Position" "from" "I" (.int (0 : Int32))) (F_to : Fld Z h0 a1 "com/example/catchment/catchment/Position" "to" "I" (.int (0 : Int32))) (F_distance : Fld Z h0 a1 "com/example/catchment/catchment/Position" "distance" "Ljava/math/BigDecimal;" .null) (g_a1 : n0 ≤ a1) :
    MetFree l (⟨"com/example/catchment/catchment/Position", "<init>", "(IILjava/math/BigDecimal;)V"⟩ : MethodName) (head1 (Jvm.Cond.code (⟨"com/example/catchment/catchment/Position", "<init>", "(IILjava/math/BigDecimal;)V"⟩ : MethodName) prog_40_method_1_code 4 none :: ws) ({ frames := 1, cells := 0, slots := 0, locals := 12 } : Room)) (fun a U => a = #[(.ref a1), (.int p1), (.int p2), (.ref a3)] ∧ Z.Warmed39 U.vm ∧ U.heap = h0) (fun _ _ _ _ _ => True) (fun _ U o U' => ∃ v L, o = .returned v ∧ Q2 Z a1 p1 p2 a3 h0 n0 v U'.heap L ∧ FrameEnd U o U' L ({ frames := 1, cells := 0, slots := 0, locals := 12 } : Room).cells ({ frames := 1, cells := 0, slots := 0, locals := 12 } : Room).slots) := by
  refine MetFree.of_bodySF pn_2 hisR ?_
  intro p e s m args below meth c s₁ Bd hml0 hP hK
  obtain ⟨rfl, hZ, hh⟩ := hP
  have hx := Bd.exec
  have hby := Bd.bytes
  have hml : c.maxLocals = 4 := hml0
  have hown : s.vm.findClass "com/example/catchment/catchment/Position" = some m.cls := findClass_of_methodNamed Bd.named
  have hnm := (name_of_methodNamed Bd.named Bd.method).1
  have X0 : Stand p l e ({ frames := 1, cells := 0, slots := 0, locals := 12 } : Room) s m #[(.ref a1), (.int p1), (.int p2), (.ref a3)] below meth c s₁ [] 0 0 := Stand.of_body Bd
  have e0 : s₁.heap = h0 := by rw [← hh, Bd.state]; rfl
  have N0 := Fr.nil n0
  refine own_at (castTop (ef_2 m a1 p1 p2 a3)) ?_
  have K0 := Keep.refl h0 [a1]
  have sg1 : ∀ t, own_S p e below s₁ (mkF m 1 #[.val (.ref a1), .val (.int p1), .val (.int p2), .val (.ref a3)] [(.ref a1)]) t → own_S p e below s₁ (mkF m 0 #[.val (.ref a1), .val (.int p1), .val (.int p2), .val (.ref a3)] []) t := by
    intro t k
    show own_S p e below s₁ (mkF m 0 #[.val (.ref a1), .val (.int p1), .val (.int p2), .val (.ref a3)] []) _
    refine XS.aloadN X0.here hx rfl (hb hby d2_0) rfl rfl ?_
    exact k
  refine own_by sg1 ?_
  obtain ⟨T1, X1, e1, st1⟩ := initO X0 hx hZ hown (hw _ (List.mem_of_getElem? (i := 11) rfl)) (hw _ (List.mem_of_getElem? (i := 12) rfl)) (hw _ (List.mem_of_getElem? (i := 13) rfl)) e0 (g := (mkF m 1 #[.val (.ref a1), .val (.int p1), .val (.int p2), .val (.ref a3)] [(.ref a1)])) rfl (by rw [hml]; rfl) rfl (hb hby d2_1) (by decide) (W := 0) (by show 2 * 0 + _ ≤ _; exact Nat.le_of_eq rfl) (by decide)
  refine own_by st1 ?_
  have sg6 : ∀ t, own_S p e below T1 (mkF m 6 #[.val (.ref a1), .val (.int p1), .val (.int p2), .val (.ref a3)] [(.int p1), (.ref a1)]) t → own_S p e below T1 (mkF m 4 #[.val (.ref a1), .val (.int p1), .val (.int p2), .val (.ref a3)] []) t := by
    intro t k
    show own_S p e below T1 (mkF m 4 #[.val (.ref a1), .val (.int p1), .val (.int p2), .val (.ref a3)] []) _
    refine XS.aloadN X1.here hx rfl (hb hby d2_4) rfl rfl ?_
    show own_S p e below T1 (mkF m 5 #[.val (.ref a1), .val (.int p1), .val (.int p2), .val (.ref a3)] [(.ref a1)]) _
    refine XS.iloadN X1.here hx rfl (hb hby d2_5) rfl ?_
    exact k
  refine own_by sg6 ?_
  obtain ⟨T6, h6, X6, e6, W6, st6⟩ := putF X1 hx hZ hown (host := "") (Or.inl (hw _ (List.mem_of_getElem? (i := 14) rfl))) Via.refl e1 F_from E_a1 (Or.inr ⟨(hw _ (List.mem_of_getElem? (i := 15) rfl)), rfl, hnm⟩) (hw _ (List.mem_of_getElem? (i := 5) rfl)) (ty := .int) (by decide) rfl rfl (g := (mkF m 6 #[.val (.ref a1), .val (.int p1), .val (.int p2), .val (.ref a3)] [(.int p1), (.ref a1)])) rfl rfl (hb hby d2_6)
  have Fw6 := F_from.same W6
  have fc := (F_to.other W6 (Or.inr (slot_ne (Or.inr (hw _ (List.mem_of_getElem? (i := 17) rfl))) (Or.inr (hw _ (List.mem_of_getElem? (i := 15) rfl))) (by decide) (t := .int) (t' := .int) (by decide) (by decide))))
  have fc_2 := (F_distance.other W6 (Or.inr (slot_ne (Or.inr (hw _ (List.mem_of_getElem? (i := 19) rfl))) (Or.inr (hw _ (List.mem_of_getElem? (i := 15) rfl))) (by decide) (t := (.object "java/math/BigDecimal")) (t' := .int) (by decide) (by decide))))
  have K6 : Keep h0 h6 [a1] := K0.wr W6 (Or.inl (List.mem_of_getElem? (i := 0) rfl))
  have Z6 : n0 ≤ h6.size := Nat.le_trans Z0 (Keep.of_wr W6).1
  have N6 := Fr.snoc X6 N0 g_a1
  refine own_by st6 ?_
  have sg11 : ∀ t, own_S p e below T6 (mkF m 11 #[.val (.ref a1), .val (.int p1), .val (.int p2), .val (.ref a3)] [(.int p2), (.ref a1)]) t → own_S p e below T6 (mkF m 9 #[.val (.ref a1), .val (.int p1), .val (.int p2), .val (.ref a3)] []) t := by
    intro t k
    show own_S p e below T6 (mkF m 9 #[.val (.ref a1), .val (.int p1), .val (.int p2), .val (.ref a3)] []) _
    refine XS.aloadN X6.here hx rfl (hb hby d2_9) rfl rfl ?_
    show own_S p e below T6 (mkF m 10 #[.val (.ref a1), .val (.int p1), .val (.int p2), .val (.ref a3)] [(.ref a1)]) _
    refine XS.iloadN X6.here hx rfl (hb hby d2_10) rfl ?_
    exact k
  refine own_by sg11 ?_
  obtain ⟨T11, h11, X11, e11, W11, st11⟩ := putF X6 hx hZ hown (host := "") (Or.inl (hw _ (List.mem_of_getElem? (i := 16) rfl))) Via.refl e6 fc (E_a1.wr W6) (Or.inr ⟨(hw _ (List.mem_of_getElem? (i := 17) rfl)), rfl, hnm⟩) (hw _ (List.mem_of_getElem? (i := 5) rfl)) (ty := .int) (by decide) rfl rfl (g := (mkF m 11 #[.val (.ref a1), .val (.int p1), .val (.int p2), .val (.ref a3)] [(.int p2), (.ref a1)])) rfl rfl (hb hby d2_11)
  have Fw11 := fc.same W11
  have fc_3 := (Fw6.other W11 (Or.inr (slot_ne (Or.inr (hw _ (List.mem_of_getElem? (i := 15) rfl))) (Or.inr (hw _ (List.mem_of_getElem? (i := 17) rfl))) (by decide) (t := .int) (t' := .int) (by decide) (by decide))))
  have fc_4 := (fc_2.other W11 (Or.inr (slot_ne (Or.inr (hw _ (List.mem_of_getElem? (i := 19) rfl))) (Or.inr (hw _ (List.mem_of_getElem? (i := 17) rfl))) (by decide) (t := (.object "java/math/BigDecimal")) (t' := .int) (by decide) (by decide))))
  have K11 : Keep h0 h11 [a1] := K6.wr W11 (Or.inl (List.mem_of_getElem? (i := 0) rfl))
  have Z11 : n0 ≤ h11.size := Nat.le_trans Z6 (Keep.of_wr W11).1
  have N11 := Fr.snoc X11 N6 g_a1
  refine own_by st11 ?_
  have sg16 : ∀ t, own_S p e below T11 (mkF m 16 #[.val (.ref a1), .val (.int p1), .val (.int p2), .val (.ref a3)] [(.ref a3), (.ref a1)]) t → own_S p e below T11 (mkF m 14 #[.val (.ref a1), .val (.int p1), .val (.int p2), .val (.ref a3)] []) t := by
    intro t k
    show own_S p e below T11 (mkF m 14 #[.val (.ref a1), .val (.int p1), .val (.int p2), .val (.ref a3)] []) _
    refine XS.aloadN X11.here hx rfl (hb hby d2_14) rfl rfl ?_
    show own_S p e below T11 (mkF m 15 #[.val (.ref a1), .val (.int p1), .val (.int p2), .val (.ref a3)] [(.ref a1)]) _
    refine XS.aloadN X11.here hx rfl (hb hby d2_15) rfl rfl ?_
    exact k
  refine own_by sg16 ?_
  obtain ⟨T16, h16, X16, e16, W16, st16⟩ := putF X11 hx hZ hown (host := "") (Or.inl (hw _ (List.mem_of_getElem? (i := 18) rfl))) Via.refl e11 fc_4 ((E_a1.wr W6).wr W11) (Or.inr ⟨(hw _ (List.mem_of_getElem? (i := 19) rfl)), rfl, hnm⟩) (hw _ (List.mem_of_getElem? (i := 5) rfl)) (ty := (.object "java/math/BigDecimal")) (by decide) rfl rfl (g := (mkF m 16 #[.val (.ref a1), .val (.int p1), .val (.int p2), .val (.ref a3)] [(.ref a3), (.ref a1)])) rfl rfl (hb hby d2_16)
  have Fw16 := fc_4.same W16
  have fc_5 := (fc_3.other W16 (Or.inr (slot_ne (Or.inr (hw _ (List.mem_of_getElem? (i := 15) rfl))) (Or.inr (hw _ (List.mem_of_getElem? (i := 19) rfl))) (by decide) (t := .int) (t' := (.object "java/math/BigDecimal")) (by decide) (by decide))))
  have fc_6 := (Fw11.other W16 (Or.inr (slot_ne (Or.inr (hw _ (List.mem_of_getElem? (i := 17) rfl))) (Or.inr (hw _ (List.mem_of_getElem? (i := 19) rfl))) (by decide) (t := .int) (t' := (.object "java/math/BigDecimal")) (by decide) (by decide))))
  have K16 : Keep h0 h16 [a1] := K11.wr W16 (Or.inl (List.mem_of_getElem? (i := 0) rfl))
  have Z16 : n0 ≤ h16.size := Nat.le_trans Z11 (Keep.of_wr W16).1
  have N16 := Fr.snoc X16 N11 g_a1
  refine own_by st16 ?_
  obtain ⟨fs, hr, hrun, hended, hW, hsame⟩ := X16.leave (v := none) (fun _ => rfl)
  refine ⟨_, _, ?_, hrun, hended, _, _, rfl, ?_, ⟨_, rfl⟩, hW, hsame.mono (by decide) (by decide)⟩
  · exact X16.returnOut hx Bd.returns (hb hby d2_19) hr
  · show Q2 Z a1 p1 p2 a3 h0 n0 _ T16.heap _
    rw [e16]
    exact ⟨rfl, N16, K16, (((E_a1.wr W6).wr W11).wr W16), fc_5, fc_6, Fw16⟩
theorem d1_0 : decode prog_40_method_2_code 0 = .ok (.new 8, 3) := by decide +kernel
theorem d1_3 : decode prog_40_method_2_code 3 = .ok (.dup, 1) := by decide +kernel
theorem d1_4 : decode prog_40_method_2_code 4 = .ok (.iload_n 0, 1) := by decide +kernel
theorem d1_5 : decode prog_40_method_2_code 5 = .ok (.iload_n 0, 1) := by decide +kernel
theorem d1_6 : decode prog_40_method_2_code 6 = .ok (.getstatic 20, 3) := by decide +kernel
theorem d1_9 : decode prog_40_method_2_code 9 = .ok (.invokespecial 25, 3) := by decide +kernel
theorem d1_12 : decode prog_40_method_2_code 12 = .ok (.areturn, 1) := by decide +kernel
theorem pn_1 : plainFor (⟨"com/example/catchment/catchment/Position", "node", "(I)Lcom/example/catchment/catchment/Position;"⟩ : MethodName) = true := by first | exact plainFor_of_name (by first | (simp [plainName, overriddenIn]; done) | decide +kernel) | decide +kernel | exact Jvm.Free.JP.mathPlain rfl (by decide +kernel)
theorem pd_1_0 : parseMethodDescriptor "(IILjava/math/BigDecimal;)V" = some ⟨[.int, .int, (.object "java/math/BigDecimal")], none⟩ := by decide +kernel
theorem ef_1 (m : MethodId) (p0 : Int32) : entryFrame m #[(.int p0)] 1 = mkF m 0 #[.val (.int p0)] [] := by first | (simp [entryFrame, mkF, argsToLocals, Value.category]; done) | rfl
def Q1 (Z : State) (p0 : Int32) (wZ : Addr) (h0 : Heap) (n0 : Nat) (v : Option Value) (h : Heap) (L : List Loc) : Prop := ∃ r, v = some (.ref r) ∧ h0.size ≤ r ∧ Fr n0 L ∧ Keep h0 h [] ∧ Exa Z h r "com/example/catchment/catchment/Position" ∧ Fld Z h r "com/example/catchment/catchment/Position" "from" "I" (.int p0) ∧ Fld Z h r "com/example/catchment/catchment/Position" "to" "I" (.int p0) ∧ Fld Z h r "com/example/catchment/catchment/Position" "distance" "Ljava/math/BigDecimal;" (.ref wZ)
set_option maxRecDepth 65536 in
set_option maxHeartbeats 40000000 in
theorem rm1 (l : Launch) (Z : State) (a0 : Array Value) (hw : ∀ d ∈ tables_1, d.before a0 Z = true) (ws : List Jvm.Cond) (p0 : Int32) (wZ : Addr) (h0 : Heap) (n0 : Nat) (Z0 : n0 ≤ h0.size) (S_Z : Sta Z h0 "java/math/BigDecimal" "ZERO" "Ljava/math/BigDecimal;" (.ref wZ)) :
    MetFree l (⟨"com/example/catchment/catchment/Position", "node", "(I)Lcom/example/catchment/catchment/Position;"⟩ : MethodName) (head1 (Jvm.Cond.code (⟨"com/example/catchment/catchment/Position", "node", "(I)Lcom/example/catchment/catchment/Position;"⟩ : MethodName) prog_40_method_2_code 1 (some (.object "com/example/catchment/catchment/Position")) :: ws) ({ frames := 2, cells := 1, slots := 3, locals := 28 } : Room)) (fun a U => a = #[(.int p0)] ∧ Z.Warmed39 U.vm ∧ U.heap = h0) (fun _ _ _ _ _ => True) (fun _ U o U' => ∃ v L, o = .returned v ∧ Q1 Z p0 wZ h0 n0 v U'.heap L ∧ FrameEnd U o U' L ({ frames := 2, cells := 1, slots := 3, locals := 28 } : Room).cells ({ frames := 2, cells := 1, slots := 3, locals := 28 } : Room).slots) := by
  refine MetFree.of_bodySF pn_1 hisR ?_
  intro p e s m args below meth c s₁ Bd hml0 hP hK
  obtain ⟨rfl, hZ, hh⟩ := hP
  have hx := Bd.exec
  have hby := Bd.bytes
  have hml : c.maxLocals = 1 := hml0
  have hown : s.vm.findClass "com/example/catchment/catchment/Position" = some m.cls := findClass_of_methodNamed Bd.named
  have hnm := (name_of_methodNamed Bd.named Bd.method).1
  have X0 : Stand p l e ({ frames := 2, cells := 1, slots := 3, locals := 28 } : Room) s m #[(.int p0)] below meth c s₁ [] 0 0 := Stand.of_body Bd
  have e0 : s₁.heap = h0 := by rw [← hh, Bd.state]; rfl
  have N0 := Fr.nil n0
  refine own_at (castTop (ef_1 m p0)) ?_
  have K0 := Keep.refl h0 []
  obtain ⟨T00, h00, X00, e00, E00, A00, D00, -, st00⟩ := newO X0 hx hZ hown (hw _ (List.mem_of_getElem? (i := 4) rfl)) (hw _ (List.mem_of_getElem? (i := 5) rfl)) (hw _ (List.mem_of_getElem? (i := 2) rfl)) e0 (g := (mkF m 0 #[.val (.int p0)] [])) rfl (hb hby d1_0) (by decide) (by decide)
  obtain ⟨b00, g00⟩ : ∃ z, z = h0.size := ⟨_, rfl⟩
  rw [← g00] at A00 D00 st00
  have g_b00 : n0 ≤ b00 := Nat.le_trans Z0 (Nat.le_of_eq g00.symm)
  have sz_b00 : h0.size ≤ b00 := Nat.le_trans K0.1 (Nat.le_of_eq g00.symm)
  have K00 := K0.ext E00
  have Z00 : n0 ≤ h00.size := Nat.le_trans Z0 E00.1
  have F_from_b00 : Fld Z h00 b00 "com/example/catchment/catchment/Position" "from" "I" (.int (0 : Int32)) := D00 (Or.inr (hw _ (List.mem_of_getElem? (i := 15) rfl))) (ty := .int) (by decide)
  have F_to_b00 : Fld Z h00 b00 "com/example/catchment/catchment/Position" "to" "I" (.int (0 : Int32)) := D00 (Or.inr (hw _ (List.mem_of_getElem? (i := 17) rfl))) (ty := .int) (by decide)
  have F_distance_b00 : Fld Z h00 b00 "com/example/catchment/catchment/Position" "distance" "Ljava/math/BigDecimal;" .null := D00 (Or.inr (hw _ (List.mem_of_getElem? (i := 19) rfl))) (ty := (.object "java/math/BigDecimal")) (by decide)
  refine own_by st00 ?_
  have sg6 : ∀ t, own_S p e below T00 (mkF m 6 #[.val (.int p0)] [(.int p0), (.int p0), (.ref b00), (.ref b00)]) t → own_S p e below T00 (mkF m 3 #[.val (.int p0)] [(.ref b00)]) t := by
    intro t k
    show own_S p e below T00 (mkF m 3 #[.val (.int p0)] [(.ref b00)]) _
    refine XS.dup X00.here hx rfl (hb hby d1_3) rfl rfl ?_
    show own_S p e below T00 (mkF m 4 #[.val (.int p0)] [(.ref b00), (.ref b00)]) _
    refine XS.iloadN X00.here hx rfl (hb hby d1_4) rfl ?_
    show own_S p e below T00 (mkF m 5 #[.val (.int p0)] [(.int p0), (.ref b00), (.ref b00)]) _
    refine XS.iloadN X00.here hx rfl (hb hby d1_5) rfl ?_
    exact k
  refine own_by sg6 ?_
  obtain ⟨T6, X6, e6, st6⟩ := getS2 X00 hx hZ hown (host := "") (Or.inl (hw _ (List.mem_of_getElem? (i := 6) rfl))) Via.refl e00 (S_Z.ext E00) (g := (mkF m 6 #[.val (.int p0)] [(.int p0), (.int p0), (.ref b00), (.ref b00)])) rfl (hb hby d1_6)
  refine own_by st6 ?_
  obtain ⟨_, _, ⟨T9, L9, k9, n9⟩, -, X9, ⟨Lc9, hQ9, l9, y9, z9⟩, st9⟩ := X6.specialBack hx (y := (⟨"com/example/catchment/catchment/Position", "<init>", "(IILjava/math/BigDecimal;)V"⟩ : MethodName)) rfl hown (mvT hZ (hw _ (List.mem_of_getElem? (i := 8) rfl))) (mvT hZ (hw _ (List.mem_of_getElem? (i := 9) rfl))) (mvT hZ (hw _ (List.mem_of_getElem? (i := 10) rfl))) (by decide) (backOf (W := 1) (rm2 l Z a0 hw [] b00 p0 p0 wZ h00 n0 Z00 A00 F_from_b00 F_to_b00 F_distance_b00 g_b00 ) hZ (hw _ (List.mem_of_getElem? (i := 10) rfl)) (hw _ (List.mem_of_getElem? (i := 2) rfl)) (by decide) (by decide)) (g := (mkF m 9 #[.val (.int p0)] [(.ref wZ), (.int p0), (.int p0), (.ref b00), (.ref b00)])) rfl (by rw [hml]; rfl) (Steps.refl _) (a := b00) (argsL := [(.int p0), (.int p0), (.ref wZ)]) (rest := [(.ref b00)]) (lenOf pd_1_0 rfl) rfl (by show 2 * 0 + _ ≤ _; exact Nat.le_of_eq rfl) (hb hby d1_9) (fun _ _ => ⟨rfl, e6, (by decide : 1 + 0 ≤ _), (by decide : 3 + 0 ≤ _)⟩)
  dsimp only [Pt.U, Pt.locs, Pt.cells, Pt.slots] at X9 l9 y9 z9 st9 hQ9
  subst l9 y9 z9
  obtain ⟨rfl, N9q, Kq9, Eq9, Ffrom_9, Fto_9, Fdistance_9⟩ := hQ9
  have N9 := Fr.app N0 N9q
  have K9 : Keep h0 T9.heap [] := K00.trans Kq9 (fun x hx => by cases List.mem_singleton.mp hx; exact Or.inr sz_b00)
  have Z9 : n0 ≤ T9.heap.size := Nat.le_trans Z00 Kq9.1
  refine own_by (fun t k => st9.trans k) ?_
  obtain ⟨fs, hr, hrun, hended, hW, hsame⟩ := X9.leave (v := some (.ref b00)) (fun h => by rw [Bd.returns] at h; cases h)
  refine ⟨_, _, ?_, hrun, hended, _, _, rfl, ?_, ⟨_, rfl⟩, hW, hsame.mono (by decide) (by decide)⟩
  · show Steps p.tables e below (T9.setTop (mkF m 12 #[.val (.int p0)] [(.ref b00)])) _
    jvm_step X9.here [X9.here.top, hx, (hb hby d1_12), X9.method', Bd.returns, Value.isRef, FieldType.isReference]
    first | (intro acts; rw [hr _ acts rfl rfl rfl]) | rw [hr _ _ rfl rfl rfl]
    exact Steps.refl _
  · show Q1 Z p0 wZ h0 n0 _ T9.heap _
    exact ⟨b00, rfl, sz_b00, N9, K9, Eq9, Ffrom_9, Fto_9, Fdistance_9⟩
theorem d6_0 : decode jdk_22_method_1_code 0 = .ok (.aload_n 0, 1) := by decide +kernel
theorem d6_1 : decode jdk_22_method_1_code 1 = .ok (.invokespecial 1, 3) := by decide +kernel
theorem d6_4 : decode jdk_22_method_1_code 4 = .ok (.return_, 1) := by decide +kernel
theorem pn_6 : plainFor (⟨"java/util/AbstractCollection", "<init>", "()V"⟩ : MethodName) = true := by first | exact plainFor_of_name (by first | (simp [plainName, overriddenIn]; done) | decide +kernel) | decide +kernel | exact Jvm.Free.JP.mathPlain rfl (by decide +kernel)
theorem ef_6 (m : MethodId) (a1 : Addr) : entryFrame m #[(.ref a1)] 1 = mkF m 0 #[.val (.ref a1)] [] := by first | (simp [entryFrame, mkF, argsToLocals, Value.category]; done) | rfl
def Q6 (Z : State) (a1 : Addr) (h0 : Heap) (n0 : Nat) (v : Option Value) (h : Heap) (L : List Loc) : Prop := v = none ∧ Fr n0 L ∧ h = h0
set_option maxRecDepth 65536 in
set_option maxHeartbeats 40000000 in
theorem rm6 (l : Launch) (Z : State) (a0 : Array Value) (hw : ∀ d ∈ tables_1, d.before a0 Z = true) (ws : List Jvm.Cond) (a1 : Addr) (h0 : Heap) (n0 : Nat) (Z0 : n0 ≤ h0.size) :
    MetFree l (⟨"java/util/AbstractCollection", "<init>", "()V"⟩ : MethodName) (head1 (Jvm.Cond.code (⟨"java/util/AbstractCollection", "<init>", "()V"⟩ : MethodName) jdk_22_method_1_code 1 none :: ws) ({ frames := 1, cells := 0, slots := 0, locals := 12 } : Room)) (fun a U => a = #[(.ref a1)] ∧ Z.Warmed39 U.vm ∧ U.heap = h0) (fun _ _ _ _ _ => True) (fun _ U o U' => ∃ v L, o = .returned v ∧ Q6 Z a1 h0 n0 v U'.heap L ∧ FrameEnd U o U' L ({ frames := 1, cells := 0, slots := 0, locals := 12 } : Room).cells ({ frames := 1, cells := 0, slots := 0, locals := 12 } : Room).slots) := by
  refine MetFree.of_bodySF pn_6 hisR ?_
  intro p e s m args below meth c s₁ Bd hml0 hP hK
  obtain ⟨rfl, hZ, hh⟩ := hP
  have hx := Bd.exec
  have hby := Bd.bytes
  have hml : c.maxLocals = 1 := hml0
  have hown : s.vm.findClass "java/util/AbstractCollection" = some m.cls := findClass_of_methodNamed Bd.named
  have hnm := (name_of_methodNamed Bd.named Bd.method).1
  have X0 : Stand p l e ({ frames := 1, cells := 0, slots := 0, locals := 12 } : Room) s m #[(.ref a1)] below meth c s₁ [] 0 0 := Stand.of_body Bd
  have e0 : s₁.heap = h0 := by rw [← hh, Bd.state]; rfl
  have N0 := Fr.nil n0
  refine own_at (castTop (ef_6 m a1)) ?_
  have sg1 : ∀ t, own_S p e below s₁ (mkF m 1 #[.val (.ref a1)] [(.ref a1)]) t → own_S p e below s₁ (mkF m 0 #[.val (.ref a1)] []) t := by
    intro t k
    show own_S p e below s₁ (mkF m 0 #[.val (.ref a1)] []) _
    refine XS.aloadN X0.here hx rfl (hb hby d6_0) rfl rfl ?_
    exact k
  refine own_by sg1 ?_
  obtain ⟨T1, X1, e1, st1⟩ := initO X0 hx hZ hown (hw _ (List.mem_of_getElem? (i := 38) rfl)) (hw _ (List.mem_of_getElem? (i := 12) rfl)) (hw _ (List.mem_of_getElem? (i := 13) rfl)) e0 (g := (mkF m 1 #[.val (.ref a1)] [(.ref a1)])) rfl (by rw [hml]; rfl) rfl (hb hby d6_1) (by decide) (W := 0) (by show 2 * 0 + _ ≤ _; exact Nat.le_of_eq rfl) (by decide)
  refine own_by st1 ?_
  obtain ⟨fs, hr, hrun, hended, hW, hsame⟩ := X1.leave (v := none) (fun _ => rfl)
  refine ⟨_, _, ?_, hrun, hended, _, _, rfl, ?_, ⟨_, rfl⟩, hW, hsame.mono (by decide) (by decide)⟩
  · exact X1.returnOut hx Bd.returns (hb hby d6_4) hr
  · show Q6 Z a1 h0 n0 _ T1.heap _
    rw [e1]
    exact ⟨rfl, N0, rfl⟩
theorem d5_0 : decode jdk_39_method_1_code 0 = .ok (.aload_n 0, 1) := by decide +kernel
theorem d5_1 : decode jdk_39_method_1_code 1 = .ok (.invokespecial 1, 3) := by decide +kernel
theorem d5_4 : decode jdk_39_method_1_code 4 = .ok (.aload_n 0, 1) := by decide +kernel
theorem d5_5 : decode jdk_39_method_1_code 5 = .ok (.iconst 0, 1) := by decide +kernel
theorem d5_6 : decode jdk_39_method_1_code 6 = .ok (.putfield 7, 3) := by decide +kernel
theorem d5_9 : decode jdk_39_method_1_code 9 = .ok (.return_, 1) := by decide +kernel
theorem pn_5 : plainFor (⟨"java/util/AbstractList", "<init>", "()V"⟩ : MethodName) = true := by first | exact plainFor_of_name (by first | (simp [plainName, overriddenIn]; done) | decide +kernel) | decide +kernel | exact Jvm.Free.JP.mathPlain rfl (by decide +kernel)
theorem pd_5_0 : parseMethodDescriptor "()V" = some ⟨[], none⟩ := by decide +kernel
theorem ef_5 (m : MethodId) (a1 : Addr) : entryFrame m #[(.ref a1)] 1 = mkF m 0 #[.val (.ref a1)] [] := by first | (simp [entryFrame, mkF, argsToLocals, Value.category]; done) | rfl
def Q5 (Z : State) (a1 : Addr) (h0 : Heap) (n0 : Nat) (v : Option Value) (h : Heap) (L : List Loc) : Prop := v = none ∧ Fr n0 L ∧ Keep h0 h [a1] ∧ Exa Z h a1 "java/util/ArrayList" ∧ Fld Z h a1 "java/util/AbstractList" "modCount" "I" (.int (0 : Int32)) ∧ Fld Z h a1 "java/util/ArrayList" "elementData" "[Ljava/lang/Object;" .null ∧ Fld Z h a1 "java/util/ArrayList" "size" "I" (.int (0 : Int32))
set_option maxRecDepth 65536 in
set_option maxHeartbeats 40000000 in
theorem rm5 (l : Launch) (Z : State) (a0 : Array Value) (hw : ∀ d ∈ tables_1, d.before a0 Z = true) (ws : List Jvm.Cond) (a1 : Addr) (h0 : Heap) (n0 : Nat) (Z0 : n0 ≤ h0.size) (E_a1 : Exa Z h0 a1 "java/util/ArrayList") (F_m : Fld Z h0 a1 "java/util/AbstractList" "modCount" "I" (.int (0 : Int32))) (F_e : Fld Z h0 a1 "java/util/ArrayList" "elementData" "[Ljava/lang/Object;" .null) (F_s : Fld Z h0 a1 "java/util/ArrayList" "size" "I" (.int (0 : Int32))) (g_a1 : n0 ≤ a1) :
    MetFree l (⟨"java/util/AbstractList", "<init>", "()V"⟩ : MethodName) (head1 (Jvm.Cond.code (⟨"java/util/AbstractList", "<init>", "()V"⟩ : MethodName) jdk_39_method_1_code 1 none :: ws) ({ frames := 2, cells := 0, slots := 0, locals := 24 } : Room)) (fun a U => a = #[(.ref a1)] ∧ Z.Warmed39 U.vm ∧ U.heap = h0) (fun _ _ _ _ _ => True) (fun _ U o U' => ∃ v L, o = .returned v ∧ Q5 Z a1 h0 n0 v U'.heap L ∧ FrameEnd U o U' L ({ frames := 2, cells := 0, slots := 0, locals := 24 } : Room).cells ({ frames := 2, cells := 0, slots := 0, locals := 24 } : Room).slots) := by
  refine MetFree.of_bodySF pn_5 hisR ?_
  intro p e s m args below meth c s₁ Bd hml0 hP hK
  obtain ⟨rfl, hZ, hh⟩ := hP
  have hx := Bd.exec
  have hby := Bd.bytes
  have hml : c.maxLocals = 1 := hml0
  have hown : s.vm.findClass "java/util/AbstractList" = some m.cls := findClass_of_methodNamed Bd.named
  have hnm := (name_of_methodNamed Bd.named Bd.method).1
  have X0 : Stand p l e ({ frames := 2, cells := 0, slots := 0, locals := 24 } : Room) s m #[(.ref a1)] below meth c s₁ [] 0 0 := Stand.of_body Bd
  have e0 : s₁.heap = h0 := by rw [← hh, Bd.state]; rfl
  have N0 := Fr.nil n0
  refine own_at (castTop (ef_5 m a1)) ?_
  have K0 := Keep.refl h0 [a1]
  have sg1 : ∀ t, own_S p e below s₁ (mkF m 1 #[.val (.ref a1)] [(.ref a1)]) t → own_S p e below s₁ (mkF m 0 #[.val (.ref a1)] []) t := by
    intro t k
    show own_S p e below s₁ (mkF m 0 #[.val (.ref a1)] []) _
    refine XS.aloadN X0.here hx rfl (hb hby d5_0) rfl rfl ?_
    exact k
  refine own_by sg1 ?_
  obtain ⟨_, _, ⟨T1, L1, k1, n1⟩, -, X1, ⟨Lc1, hQ1, l1, y1, z1⟩, st1⟩ := X0.specialBack hx (y := (⟨"java/util/AbstractCollection", "<init>", "()V"⟩ : MethodName)) rfl hown (mvT hZ (hw _ (List.mem_of_getElem? (i := 32) rfl))) (mvT hZ (hw _ (List.mem_of_getElem? (i := 33) rfl))) (mvT hZ (hw _ (List.mem_of_getElem? (i := 37) rfl))) (by decide) (backOf (W := 0) (rm6 l Z a0 hw [] a1 h0 n0 Z0) hZ (hw _ (List.mem_of_getElem? (i := 37) rfl)) (hw _ (List.mem_of_getElem? (i := 36) rfl)) (by decide) (by decide)) (g := (mkF m 1 #[.val (.ref a1)] [(.ref a1)])) rfl (by rw [hml]; rfl) (Steps.refl _) (a := a1) (argsL := []) (rest := []) (lenOf pd_5_0 rfl) rfl (by show 2 * 0 + _ ≤ _; exact Nat.le_of_eq rfl) (hb hby d5_1) (fun _ _ => ⟨rfl, e0, (by decide : 0 + 0 ≤ _), (by decide : 0 + 0 ≤ _)⟩)
  dsimp only [Pt.U, Pt.locs, Pt.cells, Pt.slots] at X1 l1 y1 z1 st1 hQ1
  subst l1 y1 z1
  obtain ⟨rfl, N1q, hq1⟩ := hQ1
  have N1 := Fr.app N0 N1q
  refine own_by (fun t k => st1.trans k) ?_
  have sg6 : ∀ t, own_S p e below T1 (mkF m 6 #[.val (.ref a1)] [(.int (0 : Int32)), (.ref a1)]) t → own_S p e below T1 (mkF m 4 #[.val (.ref a1)] []) t := by
    intro t k
    show own_S p e below T1 (mkF m 4 #[.val (.ref a1)] []) _
    refine XS.aloadN X1.here hx rfl (hb hby d5_4) rfl rfl ?_
    show own_S p e below T1 (mkF m 5 #[.val (.ref a1)] [(.ref a1)]) _
    refine XS.iconst X1.here hx rfl (hb hby d5_5) ?_
    exact k
  refine own_by sg6 ?_
  obtain ⟨T6, h6, X6, e6, W6, st6⟩ := putF X1 hx hZ hown (host := "") (Or.inl (hw _ (List.mem_of_getElem? (i := 39) rfl))) Via.refl hq1 F_m E_a1 (Or.inl (hw _ (List.mem_of_getElem? (i := 40) rfl))) (hw _ (List.mem_of_getElem? (i := 21) rfl)) (ty := .int) (by decide) rfl rfl (g := (mkF m 6 #[.val (.ref a1)] [(.int (0 : Int32)), (.ref a1)])) rfl rfl (hb hby d5_6)
  have Fw6 := F_m.same W6
  have fc := (F_e.other W6 (Or.inr (slot_ne (Or.inl (hw _ (List.mem_of_getElem? (i := 43) rfl))) (Or.inl (hw _ (List.mem_of_getElem? (i := 40) rfl))) (by decide) (t := (.array (.object "java/lang/Object"))) (t' := .int) (by decide) (by decide))))
  have fc_2 := (F_s.other W6 (Or.inr (slot_ne (Or.inl (hw _ (List.mem_of_getElem? (i := 52) rfl))) (Or.inl (hw _ (List.mem_of_getElem? (i := 40) rfl))) (by decide) (t := .int) (t' := .int) (by decide) (by decide))))
  have K6 : Keep h0 h6 [a1] := K0.wr W6 (Or.inl (List.mem_of_getElem? (i := 0) rfl))
  have Z6 : n0 ≤ h6.size := Nat.le_trans Z0 (Keep.of_wr W6).1
  have N6 := Fr.snoc X6 N1 g_a1
  refine own_by st6 ?_
  obtain ⟨fs, hr, hrun, hended, hW, hsame⟩ := X6.leave (v := none) (fun _ => rfl)
  refine ⟨_, _, ?_, hrun, hended, _, _, rfl, ?_, ⟨_, rfl⟩, hW, hsame.mono (by decide) (by decide)⟩
  · exact X6.returnOut hx Bd.returns (hb hby d5_9) hr
  · show Q5 Z a1 h0 n0 _ T6.heap _
    rw [e6]
    exact ⟨rfl, N6, K6, (E_a1.wr W6), Fw6, fc, fc_2⟩
theorem d4_0 : decode jdk_38_method_2_code 0 = .ok (.aload_n 0, 1) := by decide +kernel
theorem d4_1 : decode jdk_38_method_2_code 1 = .ok (.invokespecial 1, 3) := by decide +kernel
theorem d4_4 : decode jdk_38_method_2_code 4 = .ok (.aload_n 0, 1) := by decide +kernel
theorem d4_5 : decode jdk_38_method_2_code 5 = .ok (.getstatic 39, 3) := by decide +kernel
theorem d4_8 : decode jdk_38_method_2_code 8 = .ok (.putfield 9, 3) := by decide +kernel
theorem d4_11 : decode jdk_38_method_2_code 11 = .ok (.return_, 1) := by decide +kernel
theorem pn_4 : plainFor (⟨"java/util/ArrayList", "<init>", "()V"⟩ : MethodName) = true := by first | exact plainFor_of_name (by first | (simp [plainName, overriddenIn]; done) | decide +kernel) | decide +kernel | exact Jvm.Free.JP.mathPlain rfl (by decide +kernel)
theorem pd_4_0 : parseMethodDescriptor "()V" = some ⟨[], none⟩ := by decide +kernel
theorem ef_4 (m : MethodId) (a1 : Addr) : entryFrame m #[(.ref a1)] 1 = mkF m 0 #[.val (.ref a1)] [] := by first | (simp [entryFrame, mkF, argsToLocals, Value.category]; done) | rfl
def Q4 (Z : State) (a1 : Addr) (wD : Addr) (cl : Cell) (h0 : Heap) (n0 : Nat) (v : Option Value) (h : Heap) (L : List Loc) : Prop := v = none ∧ Fr n0 L ∧ Keep h0 h [a1] ∧ Exa Z h a1 "java/util/ArrayList" ∧ Fld Z h a1 "java/util/AbstractList" "modCount" "I" (.int (0 : Int32)) ∧ Fld Z h a1 "java/util/ArrayList" "elementData" "[Ljava/lang/Object;" (.ref wD) ∧ Fld Z h a1 "java/util/ArrayList" "size" "I" (.int (0 : Int32))
set_option maxRecDepth 65536 in
set_option maxHeartbeats 40000000 in
theorem rm4 (l : Launch) (Z : State) (a0 : Array Value) (hw : ∀ d ∈ tables_1, d.before a0 Z = true) (ws : List Jvm.Cond) (a1 : Addr) (wD : Addr) (cl : Cell) (h0 : Heap) (n0 : Nat) (Z0 : n0 ≤ h0.size) (O : Old Z n0 h0) (S_D : Sta Z Z.heap "java/util/ArrayList" "DEFAULTCAPACITY_EMPTY_ELEMENTDATA" "[Ljava/lang/Object;" (.ref wD)) (Ar_D : Arr Z Z.heap wD cl (.object "java/lang/Object")) (hsz : cl.slots.size = 0) (E_a1 : Exa Z h0 a1 "java/util/ArrayList") (F_m : Fld Z h0 a1 "java/util/AbstractList" "modCount" "I" (.int (0 : Int32))) (F_e : Fld Z h0 a1 "java/util/ArrayList" "elementData" "[Ljava/lang/Object;" .null) (F_s : Fld Z h0 a1 "java/util/ArrayList" "size" "I" (.int (0 : Int32))) (g_a1 : n0 ≤ a1) :
    MetFree l (⟨"java/util/ArrayList", "<init>", "()V"⟩ : MethodName) (head1 (Jvm.Cond.code (⟨"java/util/ArrayList", "<init>", "()V"⟩ : MethodName) jdk_38_method_2_code 1 none :: ws) ({ frames := 3, cells := 0, slots := 0, locals := 36 } : Room)) (fun a U => a = #[(.ref a1)] ∧ Z.Warmed39 U.vm ∧ U.heap = h0) (fun _ _ _ _ _ => True) (fun _ U o U' => ∃ v L, o = .returned v ∧ Q4 Z a1 wD cl h0 n0 v U'.heap L ∧ FrameEnd U o U' L ({ frames := 3, cells := 0, slots := 0, locals := 36 } : Room).cells ({ frames := 3, cells := 0, slots := 0, locals := 36 } : Room).slots) := by
  refine MetFree.of_bodySF pn_4 hisR ?_
  intro p e s m args below meth c s₁ Bd hml0 hP hK
  obtain ⟨rfl, hZ, hh⟩ := hP
  have hx := Bd.exec
  have hby := Bd.bytes
  have hml : c.maxLocals = 1 := hml0
  have hown : s.vm.findClass "java/util/ArrayList" = some m.cls := findClass_of_methodNamed Bd.named
  have hnm := (name_of_methodNamed Bd.named Bd.method).1
  have X0 : Stand p l e ({ frames := 3, cells := 0, slots := 0, locals := 36 } : Room) s m #[(.ref a1)] below meth c s₁ [] 0 0 := Stand.of_body Bd
  have e0 : s₁.heap = h0 := by rw [← hh, Bd.state]; rfl
  have N0 := Fr.nil n0
  refine own_at (castTop (ef_4 m a1)) ?_
  have K0 := Keep.refl h0 [a1]
  have sg1 : ∀ t, own_S p e below s₁ (mkF m 1 #[.val (.ref a1)] [(.ref a1)]) t → own_S p e below s₁ (mkF m 0 #[.val (.ref a1)] []) t := by
    intro t k
    show own_S p e below s₁ (mkF m 0 #[.val (.ref a1)] []) _
    refine XS.aloadN X0.here hx rfl (hb hby d4_0) rfl rfl ?_
    exact k
  refine own_by sg1 ?_
  obtain ⟨_, _, ⟨T1, L1, k1, n1⟩, -, X1, ⟨Lc1, hQ1, l1, y1, z1⟩, st1⟩ := X0.specialBack hx (y := (⟨"java/util/AbstractList", "<init>", "()V"⟩ : MethodName)) rfl hown (mvT hZ (hw _ (List.mem_of_getElem? (i := 26) rfl))) (mvT hZ (hw _ (List.mem_of_getElem? (i := 27) rfl))) (mvT hZ (hw _ (List.mem_of_getElem? (i := 31) rfl))) (by decide) (backOf (W := 0) (rm5 l Z a0 hw [] a1 h0 n0 Z0 E_a1 F_m F_e F_s g_a1) hZ (hw _ (List.mem_of_getElem? (i := 31) rfl)) (hw _ (List.mem_of_getElem? (i := 30) rfl)) (by decide) (by decide)) (g := (mkF m 1 #[.val (.ref a1)] [(.ref a1)])) rfl (by rw [hml]; rfl) (Steps.refl _) (a := a1) (argsL := []) (rest := []) (lenOf pd_4_0 rfl) rfl (by show 2 * 0 + _ ≤ _; exact Nat.le_of_eq rfl) (hb hby d4_1) (fun _ _ => ⟨rfl, e0, (by decide : 0 + 0 ≤ _), (by decide : 0 + 0 ≤ _)⟩)
  dsimp only [Pt.U, Pt.locs, Pt.cells, Pt.slots] at X1 l1 y1 z1 st1 hQ1
  subst l1 y1 z1
  obtain ⟨rfl, N1q, Kq1, Eq1, FM1, FD1, FS1⟩ := hQ1
  have N1 := Fr.app N0 N1q
  have K1 : Keep h0 T1.heap [a1] := K0.trans Kq1 (fun x hx => by cases List.mem_singleton.mp hx; exact Or.inl (List.mem_of_getElem? (i := 0) rfl))
  have Z1 : n0 ≤ T1.heap.size := Nat.le_trans Z0 Kq1.1
  refine own_by (fun t k => st1.trans k) ?_
  have sg5 : ∀ t, own_S p e below T1 (mkF m 5 #[.val (.ref a1)] [(.ref a1)]) t → own_S p e below T1 (mkF m 4 #[.val (.ref a1)] []) t := by
    intro t k
    show own_S p e below T1 (mkF m 4 #[.val (.ref a1)] []) _
    refine XS.aloadN X1.here hx rfl (hb hby d4_4) rfl rfl ?_
    exact k
  refine own_by sg5 ?_
  obtain ⟨T5, X5, e5, st5⟩ := getS2 X1 hx hZ hown (host := "") (Or.inl (hw _ (List.mem_of_getElem? (i := 41) rfl))) Via.refl rfl (S_D.ext (O.keep Kq1 (allS g_a1 all0)).2) (g := (mkF m 5 #[.val (.ref a1)] [(.ref a1)])) rfl (hb hby d4_5)
  refine own_by st5 ?_
  obtain ⟨T8, h8, X8, e8, W8, st8⟩ := putF X5 hx hZ hown (host := "") (Or.inl (hw _ (List.mem_of_getElem? (i := 42) rfl))) Via.refl e5 FD1 Eq1 (Or.inl (hw _ (List.mem_of_getElem? (i := 43) rfl))) (hw _ (List.mem_of_getElem? (i := 21) rfl)) (ty := (.array (.object "java/lang/Object"))) (by decide) rfl rfl (g := (mkF m 8 #[.val (.ref a1)] [(.ref wD), (.ref a1)])) rfl rfl (hb hby d4_8)
  have Fw8 := FD1.same W8
  have fc := (FM1.other W8 (Or.inr (slot_ne (Or.inl (hw _ (List.mem_of_getElem? (i := 40) rfl))) (Or.inl (hw _ (List.mem_of_getElem? (i := 43) rfl))) (by decide) (t := .int) (t' := (.array (.object "java/lang/Object"))) (by decide) (by decide))))
  have fc_2 := (FS1.other W8 (Or.inr (slot_ne (Or.inl (hw _ (List.mem_of_getElem? (i := 52) rfl))) (Or.inl (hw _ (List.mem_of_getElem? (i := 43) rfl))) (by decide) (t := .int) (t' := (.array (.object "java/lang/Object"))) (by decide) (by decide))))
  have K8 : Keep h0 h8 [a1] := K1.wr W8 (Or.inl (List.mem_of_getElem? (i := 0) rfl))
  have Z8 : n0 ≤ h8.size := Nat.le_trans Z1 (Keep.of_wr W8).1
  have N8 := Fr.snoc X8 N1 g_a1
  refine own_by st8 ?_
  obtain ⟨fs, hr, hrun, hended, hW, hsame⟩ := X8.leave (v := none) (fun _ => rfl)
  refine ⟨_, _, ?_, hrun, hended, _, _, rfl, ?_, ⟨_, rfl⟩, hW, hsame.mono (by decide) (by decide)⟩
  · exact X8.returnOut hx Bd.returns (hb hby d4_11) hr
  · show Q4 Z a1 wD cl h0 n0 _ T8.heap _
    rw [e8]
    exact ⟨rfl, N8, K8, (Eq1.wr W8), fc, Fw8, fc_2⟩
theorem d11_0 : decode jdk_29_method_65_code 0 = .ok (.iload_n 0, 1) := by decide +kernel
theorem d11_1 : decode jdk_29_method_65_code 1 = .ok (.iload_n 1, 1) := by decide +kernel
theorem d11_2 : decode jdk_29_method_65_code 2 = .ok (.if_icmp .lt 7, 3) := by decide +kernel
theorem d11_5 : decode jdk_29_method_65_code 5 = .ok (.iload_n 0, 1) := by decide +kernel
theorem d11_6 : decode jdk_29_method_65_code 6 = .ok (.goto 4, 3) := by decide +kernel
theorem d11_10 : decode jdk_29_method_65_code 10 = .ok (.ireturn, 1) := by decide +kernel
theorem pn_11t : plainFor (⟨"java/lang/Math", "max", "(II)I"⟩ : MethodName) = true := by first | exact plainFor_of_name (by first | (simp [plainName, overriddenIn]; done) | decide +kernel) | decide +kernel | exact Jvm.Free.JP.mathPlain rfl (by decide +kernel)
theorem ef_11t (m : MethodId)  : entryFrame m #[(.int (10 : Int32)), (.int (1 : Int32))] 2 = mkF m 0 #[.val (.int (10 : Int32)), .val (.int (1 : Int32))] [] := by first | (simp [entryFrame, mkF, argsToLocals, Value.category]; done) | rfl
def Q11t (Z : State)  (h0 : Heap) (n0 : Nat) (v : Option Value) (h : Heap) (L : List Loc) : Prop := v = some (.int 10) ∧ Fr n0 L ∧ h = h0
set_option maxRecDepth 65536 in
set_option maxHeartbeats 40000000 in
theorem rm11t (l : Launch) (Z : State) (a0 : Array Value) (hw : ∀ d ∈ tables_1, d.before a0 Z = true) (ws : List Jvm.Cond)  (h0 : Heap) (n0 : Nat) (Z0 : n0 ≤ h0.size) :
    MetFree l (⟨"java/lang/Math", "max", "(II)I"⟩ : MethodName) (head1 (Jvm.Cond.code (⟨"java/lang/Math", "max", "(II)I"⟩ : MethodName) jdk_29_method_65_code 2 (some .int) :: ws) ({ frames := 0, cells := 0, slots := 0, locals := 0 } : Room)) (fun a U => a = #[(.int (10 : Int32)), (.int (1 : Int32))] ∧ Z.Warmed39 U.vm ∧ U.heap = h0) (fun _ _ _ _ _ => True) (fun _ U o U' => ∃ v L, o = .returned v ∧ Q11t Z  h0 n0 v U'.heap L ∧ FrameEnd U o U' L ({ frames := 0, cells := 0, slots := 0, locals := 0 } : Room).cells ({ frames := 0, cells := 0, slots := 0, locals := 0 } : Room).slots) := by
  refine MetFree.of_bodySF pn_11t hisR ?_
  intro p e s m args below meth c s₁ Bd hml0 hP hK
  obtain ⟨rfl, hZ, hh⟩ := hP
  have hx := Bd.exec
  have hby := Bd.bytes
  have hml : c.maxLocals = 2 := hml0
  have hown : s.vm.findClass "java/lang/Math" = some m.cls := findClass_of_methodNamed Bd.named
  have hnm := (name_of_methodNamed Bd.named Bd.method).1
  have X0 : Stand p l e ({ frames := 0, cells := 0, slots := 0, locals := 0 } : Room) s m #[(.int (10 : Int32)), (.int (1 : Int32))] below meth c s₁ [] 0 0 := Stand.of_body Bd
  have e0 : s₁.heap = h0 := by rw [← hh, Bd.state]; rfl
  have N0 := Fr.nil n0
  refine own_at (castTop (ef_11t m )) ?_
  have sg10 : ∀ t, own_S p e below s₁ (mkF m 10 #[.val (.int (10 : Int32)), .val (.int (1 : Int32))] [(.int (10 : Int32))]) t → own_S p e below s₁ (mkF m 0 #[.val (.int (10 : Int32)), .val (.int (1 : Int32))] []) t := by
    intro t k
    show own_S p e below s₁ (mkF m 0 #[.val (.int (10 : Int32)), .val (.int (1 : Int32))] []) _
    refine XS.iloadN X0.here hx rfl (hb hby d11_0) rfl ?_
    show own_S p e below s₁ (mkF m 1 #[.val (.int (10 : Int32)), .val (.int (1 : Int32))] [(.int (10 : Int32))]) _
    refine XS.iloadN X0.here hx rfl (hb hby d11_1) rfl ?_
    show own_S p e below s₁ (mkF m 2 #[.val (.int (10 : Int32)), .val (.int (1 : Int32))] [(.int (1 : Int32)), (.int (10 : Int32))]) _
    refine XS.icmpNo X0.here hx rfl (hb hby d11_2) rfl (flt (by decide : ¬ ((10 : Int32) < (1 : Int32)))).1 ?_
    show own_S p e below s₁ (mkF m 5 #[.val (.int (10 : Int32)), .val (.int (1 : Int32))] []) _
    refine XS.iloadN X0.here hx rfl (hb hby d11_5) rfl ?_
    show own_S p e below s₁ (mkF m 6 #[.val (.int (10 : Int32)), .val (.int (1 : Int32))] [(.int (10 : Int32))]) _
    refine XS.goto X0.here hx rfl (pc0 := 6) (pc' := 10) rfl (hb hby d11_6) (by decide) (by decide) ?_
    exact k
  refine own_by sg10 ?_
  obtain ⟨fs, hr, hrun, hended, hW, hsame⟩ := X0.leave (v := some (.int (10 : Int32))) (fun h => by rw [Bd.returns] at h; cases h)
  refine ⟨_, _, ?_, hrun, hended, _, _, rfl, ?_, ⟨_, rfl⟩, hW, hsame.mono (by decide) (by decide)⟩
  · exact retI X0 hx Bd.returns (hb hby d11_10) hr
  · show Q11t Z  h0 n0 _ s₁.heap _
    rw [e0]
    exact ⟨rfl, N0, rfl⟩
theorem pn_11z : plainFor (⟨"java/lang/Math", "max", "(II)I"⟩ : MethodName) = true := by first | exact plainFor_of_name (by first | (simp [plainName, overriddenIn]; done) | decide +kernel) | decide +kernel | exact Jvm.Free.JP.mathPlain rfl (by decide +kernel)
theorem ef_11z (m : MethodId)  : entryFrame m #[(.int (0 : Int32)), (.int (0 : Int32))] 2 = mkF m 0 #[.val (.int (0 : Int32)), .val (.int (0 : Int32))] [] := by first | (simp [entryFrame, mkF, argsToLocals, Value.category]; done) | rfl
def Q11z (Z : State)  (h0 : Heap) (n0 : Nat) (v : Option Value) (h : Heap) (L : List Loc) : Prop := v = some (.int 0) ∧ Fr n0 L ∧ h = h0
set_option maxRecDepth 65536 in
set_option maxHeartbeats 40000000 in
theorem rm11z (l : Launch) (Z : State) (a0 : Array Value) (hw : ∀ d ∈ tables_1, d.before a0 Z = true) (ws : List Jvm.Cond)  (h0 : Heap) (n0 : Nat) (Z0 : n0 ≤ h0.size) :
    MetFree l (⟨"java/lang/Math", "max", "(II)I"⟩ : MethodName) (head1 (Jvm.Cond.code (⟨"java/lang/Math", "max", "(II)I"⟩ : MethodName) jdk_29_method_65_code 2 (some .int) :: ws) ({ frames := 0, cells := 0, slots := 0, locals := 0 } : Room)) (fun a U => a = #[(.int (0 : Int32)), (.int (0 : Int32))] ∧ Z.Warmed39 U.vm ∧ U.heap = h0) (fun _ _ _ _ _ => True) (fun _ U o U' => ∃ v L, o = .returned v ∧ Q11z Z  h0 n0 v U'.heap L ∧ FrameEnd U o U' L ({ frames := 0, cells := 0, slots := 0, locals := 0 } : Room).cells ({ frames := 0, cells := 0, slots := 0, locals := 0 } : Room).slots) := by
  refine MetFree.of_bodySF pn_11z hisR ?_
  intro p e s m args below meth c s₁ Bd hml0 hP hK
  obtain ⟨rfl, hZ, hh⟩ := hP
  have hx := Bd.exec
  have hby := Bd.bytes
  have hml : c.maxLocals = 2 := hml0
  have hown : s.vm.findClass "java/lang/Math" = some m.cls := findClass_of_methodNamed Bd.named
  have hnm := (name_of_methodNamed Bd.named Bd.method).1
  have X0 : Stand p l e ({ frames := 0, cells := 0, slots := 0, locals := 0 } : Room) s m #[(.int (0 : Int32)), (.int (0 : Int32))] below meth c s₁ [] 0 0 := Stand.of_body Bd
  have e0 : s₁.heap = h0 := by rw [← hh, Bd.state]; rfl
  have N0 := Fr.nil n0
  refine own_at (castTop (ef_11z m )) ?_
  have sg10 : ∀ t, own_S p e below s₁ (mkF m 10 #[.val (.int (0 : Int32)), .val (.int (0 : Int32))] [(.int (0 : Int32))]) t → own_S p e below s₁ (mkF m 0 #[.val (.int (0 : Int32)), .val (.int (0 : Int32))] []) t := by
    intro t k
    show own_S p e below s₁ (mkF m 0 #[.val (.int (0 : Int32)), .val (.int (0 : Int32))] []) _
    refine XS.iloadN X0.here hx rfl (hb hby d11_0) rfl ?_
    show own_S p e below s₁ (mkF m 1 #[.val (.int (0 : Int32)), .val (.int (0 : Int32))] [(.int (0 : Int32))]) _
    refine XS.iloadN X0.here hx rfl (hb hby d11_1) rfl ?_
    show own_S p e below s₁ (mkF m 2 #[.val (.int (0 : Int32)), .val (.int (0 : Int32))] [(.int (0 : Int32)), (.int (0 : Int32))]) _
    refine XS.icmpNo X0.here hx rfl (hb hby d11_2) rfl (flt (by decide : ¬ ((0 : Int32) < (0 : Int32)))).1 ?_
    show own_S p e below s₁ (mkF m 5 #[.val (.int (0 : Int32)), .val (.int (0 : Int32))] []) _
    refine XS.iloadN X0.here hx rfl (hb hby d11_5) rfl ?_
    show own_S p e below s₁ (mkF m 6 #[.val (.int (0 : Int32)), .val (.int (0 : Int32))] [(.int (0 : Int32))]) _
    refine XS.goto X0.here hx rfl (pc0 := 6) (pc' := 10) rfl (hb hby d11_6) (by decide) (by decide) ?_
    exact k
  refine own_by sg10 ?_
  obtain ⟨fs, hr, hrun, hended, hW, hsame⟩ := X0.leave (v := some (.int (0 : Int32))) (fun h => by rw [Bd.returns] at h; cases h)
  refine ⟨_, _, ?_, hrun, hended, _, _, rfl, ?_, ⟨_, rfl⟩, hW, hsame.mono (by decide) (by decide)⟩
  · exact retI X0 hx Bd.returns (hb hby d11_10) hr
  · show Q11z Z  h0 n0 _ s₁.heap _
    rw [e0]
    exact ⟨rfl, N0, rfl⟩
theorem d10_0 : decode jdk_38_method_6_code 0 = .ok (.aload_n 0, 1) := by decide +kernel
theorem d10_1 : decode jdk_38_method_6_code 1 = .ok (.getfield 9, 3) := by decide +kernel
theorem d10_4 : decode jdk_38_method_6_code 4 = .ok (.arraylength, 1) := by decide +kernel
theorem d10_5 : decode jdk_38_method_6_code 5 = .ok (.istore_n 2, 1) := by decide +kernel
theorem d10_6 : decode jdk_38_method_6_code 6 = .ok (.iload_n 2, 1) := by decide +kernel
theorem d10_7 : decode jdk_38_method_6_code 7 = .ok (.ifCond .gt 13, 3) := by decide +kernel
theorem d10_10 : decode jdk_38_method_6_code 10 = .ok (.aload_n 0, 1) := by decide +kernel
theorem d10_11 : decode jdk_38_method_6_code 11 = .ok (.getfield 9, 3) := by decide +kernel
theorem d10_14 : decode jdk_38_method_6_code 14 = .ok (.getstatic 39, 3) := by decide +kernel
theorem d10_17 : decode jdk_38_method_6_code 17 = .ok (.if_acmp .eq 28, 3) := by decide +kernel
theorem d10_45 : decode jdk_38_method_6_code 45 = .ok (.aload_n 0, 1) := by decide +kernel
theorem d10_46 : decode jdk_38_method_6_code 46 = .ok (.bipush 10, 2) := by decide +kernel
theorem d10_48 : decode jdk_38_method_6_code 48 = .ok (.iload_n 1, 1) := by decide +kernel
theorem d10_49 : decode jdk_38_method_6_code 49 = .ok (.invokestatic 79, 3) := by decide +kernel
theorem d10_52 : decode jdk_38_method_6_code 52 = .ok (.anewarray 7, 3) := by decide +kernel
theorem d10_55 : decode jdk_38_method_6_code 55 = .ok (.dup_x1, 1) := by decide +kernel
theorem d10_56 : decode jdk_38_method_6_code 56 = .ok (.putfield 9, 3) := by decide +kernel
theorem d10_59 : decode jdk_38_method_6_code 59 = .ok (.areturn, 1) := by decide +kernel
theorem pn_10 : plainFor (⟨"java/util/ArrayList", "grow", "(I)[Ljava/lang/Object;"⟩ : MethodName) = true := by first | exact plainFor_of_name (by first | (simp [plainName, overriddenIn]; done) | decide +kernel) | decide +kernel | exact Jvm.Free.JP.mathPlain rfl (by decide +kernel)
theorem pd_10_0 : parseMethodDescriptor "(II)I" = some ⟨[.int, .int], some .int⟩ := by decide +kernel
theorem ef_10 (m : MethodId) (a1 : Addr) : entryFrame m #[(.ref a1), (.int (1 : Int32))] 4 = mkF m 0 #[.val (.ref a1), .val (.int (1 : Int32)), .unset, .unset] [] := by first | (simp [entryFrame, mkF, argsToLocals, Value.category]; done) | rfl
def Q10 (Z : State) (a1 : Addr) (md : Int32) (wD : Addr) (cl : Cell) (h0 : Heap) (n0 : Nat) (v : Option Value) (h : Heap) (L : List Loc) : Prop := ∃ r kA, v = some (.ref r) ∧ h0.size ≤ r ∧ Fr n0 L ∧ Keep h0 h [a1] ∧ Exa Z h a1 "java/util/ArrayList" ∧ Fld Z h a1 "java/util/AbstractList" "modCount" "I" (.int md) ∧ Fld Z h a1 "java/util/ArrayList" "elementData" "[Ljava/lang/Object;" (.ref r) ∧ Fld Z h a1 "java/util/ArrayList" "size" "I" (.int (0 : Int32)) ∧ Ovr Z kA "java/lang/Object" ∧ Arv Z h r kA (.object "java/lang/Object") (10 : Int32) [.null, .null, .null, .null, .null, .null, .null, .null, .null, .null] .null
set_option maxRecDepth 65536 in
set_option maxHeartbeats 40000000 in
theorem rm10 (l : Launch) (Z : State) (a0 : Array Value) (hw : ∀ d ∈ tables_1, d.before a0 Z = true) (ws : List Jvm.Cond) (a1 : Addr) (md : Int32) (wD : Addr) (cl : Cell) (h0 : Heap) (n0 : Nat) (Z0 : n0 ≤ h0.size) (O : Old Z n0 h0) (S_D : Sta Z Z.heap "java/util/ArrayList" "DEFAULTCAPACITY_EMPTY_ELEMENTDATA" "[Ljava/lang/Object;" (.ref wD)) (Ar_D : Arr Z Z.heap wD cl (.object "java/lang/Object")) (hsz : cl.slots.size = 0) (E_a1 : Exa Z h0 a1 "java/util/ArrayList") (F_m : Fld Z h0 a1 "java/util/AbstractList" "modCount" "I" (.int md)) (F_e : Fld Z h0 a1 "java/util/ArrayList" "elementData" "[Ljava/lang/Object;" (.ref wD)) (F_s : Fld Z h0 a1 "java/util/ArrayList" "size" "I" (.int (0 : Int32))) (g_a1 : n0 ≤ a1) :
    MetFree l (⟨"java/util/ArrayList", "grow", "(I)[Ljava/lang/Object;"⟩ : MethodName) (head1 (Jvm.Cond.code (⟨"java/util/ArrayList", "grow", "(I)[Ljava/lang/Object;"⟩ : MethodName) jdk_38_method_6_code 4 (some (.array (.object "java/lang/Object"))) :: ws) ({ frames := 1, cells := 1, slots := 10, locals := 14 } : Room)) (fun a U => a = #[(.ref a1), (.int (1 : Int32))] ∧ Z.Warmed39 U.vm ∧ U.heap = h0) (fun _ _ _ _ _ => True) (fun _ U o U' => ∃ v L, o = .returned v ∧ Q10 Z a1 md wD cl h0 n0 v U'.heap L ∧ FrameEnd U o U' L ({ frames := 1, cells := 1, slots := 10, locals := 14 } : Room).cells ({ frames := 1, cells := 1, slots := 10, locals := 14 } : Room).slots) := by
  refine MetFree.of_bodySF pn_10 hisR ?_
  intro p e s m args below meth c s₁ Bd hml0 hP hK
  obtain ⟨rfl, hZ, hh⟩ := hP
  have hx := Bd.exec
  have hby := Bd.bytes
  have hml : c.maxLocals = 4 := hml0
  have hown : s.vm.findClass "java/util/ArrayList" = some m.cls := findClass_of_methodNamed Bd.named
  have hnm := (name_of_methodNamed Bd.named Bd.method).1
  have X0 : Stand p l e ({ frames := 1, cells := 1, slots := 10, locals := 14 } : Room) s m #[(.ref a1), (.int (1 : Int32))] below meth c s₁ [] 0 0 := Stand.of_body Bd
  have e0 : s₁.heap = h0 := by rw [← hh, Bd.state]; rfl
  have N0 := Fr.nil n0
  refine own_at (castTop (ef_10 m a1)) ?_
  have K0 := Keep.refl h0 [a1]
  have sg1 : ∀ t, own_S p e below s₁ (mkF m 1 #[.val (.ref a1), .val (.int (1 : Int32)), .unset, .unset] [(.ref a1)]) t → own_S p e below s₁ (mkF m 0 #[.val (.ref a1), .val (.int (1 : Int32)), .unset, .unset] []) t := by
    intro t k
    show own_S p e below s₁ (mkF m 0 #[.val (.ref a1), .val (.int (1 : Int32)), .unset, .unset] []) _
    refine XS.aloadN X0.here hx rfl (hb hby d10_0) rfl rfl ?_
    exact k
  refine own_by sg1 ?_
  obtain ⟨T1, X1, e1, st1⟩ := getF X0 hx hZ hown (host := "") (Or.inl (hw _ (List.mem_of_getElem? (i := 42) rfl))) Via.refl e0 F_e (g := (mkF m 1 #[.val (.ref a1), .val (.int (1 : Int32)), .unset, .unset] [(.ref a1)])) rfl rfl (hb hby d10_1)
  refine own_by st1 ?_
  have sg11 : ∀ t, own_S p e below T1 (mkF m 11 #[.val (.ref a1), .val (.int (1 : Int32)), .val (.int (0 : Int32)), .unset] [(.ref a1)]) t → own_S p e below T1 (mkF m 4 #[.val (.ref a1), .val (.int (1 : Int32)), .unset, .unset] [(.ref wD)]) t := by
    intro t k
    show own_S p e below T1 (mkF m 4 #[.val (.ref a1), .val (.int (1 : Int32)), .unset, .unset] [(.ref wD)]) _
    refine X1.arraylength hx (by rw [e1]; exact (Ar_D.ext O.2).1) (State.isArrayOf_alike hZ.alike (Ar_D.ext O.2).2.1) (g := (mkF m 4 #[.val (.ref a1), .val (.int (1 : Int32)), .unset, .unset] [(.ref wD)])) rfl rfl (hb hby d10_4) _ ?_
    rw [hsz]
    show own_S p e below T1 (mkF m 5 #[.val (.ref a1), .val (.int (1 : Int32)), .unset, .unset] [(.int (0 : Int32))]) _
    refine XS.istoreN X1.here hx rfl (hb hby d10_5) rfl (l' := #[.val (.ref a1), .val (.int (1 : Int32)), .val (.int (0 : Int32)), .unset]) rfl ?_
    show own_S p e below T1 (mkF m 6 #[.val (.ref a1), .val (.int (1 : Int32)), .val (.int (0 : Int32)), .unset] []) _
    refine XS.iloadN X1.here hx rfl (hb hby d10_6) rfl ?_
    show own_S p e below T1 (mkF m 7 #[.val (.ref a1), .val (.int (1 : Int32)), .val (.int (0 : Int32)), .unset] [(.int (0 : Int32))]) _
    refine XS.ifNo X1.here hx rfl (hb hby d10_7) rfl ((if0 _ _).trans (flt (by decide : ¬ ((0 : Int32) < (0 : Int32)))).2.2.1) ?_
    show own_S p e below T1 (mkF m 10 #[.val (.ref a1), .val (.int (1 : Int32)), .val (.int (0 : Int32)), .unset] []) _
    refine XS.aloadN X1.here hx rfl (hb hby d10_10) rfl rfl ?_
    exact k
  refine own_by sg11 ?_
  obtain ⟨T11, X11, e11, st11⟩ := getF X1 hx hZ hown (host := "") (Or.inl (hw _ (List.mem_of_getElem? (i := 42) rfl))) Via.refl e1 F_e (g := (mkF m 11 #[.val (.ref a1), .val (.int (1 : Int32)), .val (.int (0 : Int32)), .unset] [(.ref a1)])) rfl rfl (hb hby d10_11)
  refine own_by st11 ?_
  obtain ⟨T14, X14, e14, st14⟩ := getS2 X11 hx hZ hown (host := "") (Or.inl (hw _ (List.mem_of_getElem? (i := 41) rfl))) Via.refl e11 (S_D.ext O.2) (g := (mkF m 14 #[.val (.ref a1), .val (.int (1 : Int32)), .val (.int (0 : Int32)), .unset] [(.ref wD)])) rfl (hb hby d10_14)
  refine own_by st14 ?_
  have sg49 : ∀ t, own_S p e below T14 (mkF m 49 #[.val (.ref a1), .val (.int (1 : Int32)), .val (.int (0 : Int32)), .unset] [(.int (1 : Int32)), (.int (10 : Int32)), (.ref a1)]) t → own_S p e below T14 (mkF m 17 #[.val (.ref a1), .val (.int (1 : Int32)), .val (.int (0 : Int32)), .unset] [(.ref wD), (.ref wD)]) t := by
    intro t k
    show own_S p e below T14 (mkF m 17 #[.val (.ref a1), .val (.int (1 : Int32)), .val (.int (0 : Int32)), .unset] [(.ref wD), (.ref wD)]) _
    refine Jvm.RoadKit.acmp (g := (mkF m 17 #[.val (.ref a1), .val (.int (1 : Int32)), .val (.int (0 : Int32)), .unset] [(.ref wD), (.ref wD)])) X14 hx rfl rfl rfl (pc0 := 17) (pc' := 45) (same := true) rfl (hb hby d10_17) rfl (decide_eq_true (congrArg Value.ref (rfl : wD = wD))) (by decide) (by decide) ?_
    show own_S p e below T14 (mkF m 45 #[.val (.ref a1), .val (.int (1 : Int32)), .val (.int (0 : Int32)), .unset] []) _
    refine XS.aloadN X14.here hx rfl (hb hby d10_45) rfl rfl ?_
    show own_S p e below T14 (mkF m 46 #[.val (.ref a1), .val (.int (1 : Int32)), .val (.int (0 : Int32)), .unset] [(.ref a1)]) _
    refine XS.bipush X14.here hx rfl (hb hby d10_46) ?_
    show own_S p e below T14 (mkF m 48 #[.val (.ref a1), .val (.int (1 : Int32)), .val (.int (0 : Int32)), .unset] [(.int (10 : Int32)), (.ref a1)]) _
    refine XS.iloadN X14.here hx rfl (hb hby d10_48) rfl ?_
    exact k
  refine own_by sg49 ?_
  obtain ⟨_, _, ⟨T49, L49, k49, n49⟩, -, X49, ⟨Lc49, hQ49, l49, y49, z49⟩, st49⟩ := Jvm.LawKit.callS X14 hx (y := (⟨"java/lang/Math", "max", "(II)I"⟩ : MethodName)) hown (mvT hZ (hw _ (List.mem_of_getElem? (i := 68) rfl))) (mvT hZ (hw _ (List.mem_of_getElem? (i := 69) rfl))) (mvT hZ (hw _ (List.mem_of_getElem? (i := 70) rfl))) (mvT hZ (hw _ (List.mem_of_getElem? (i := 71) rfl))) (by decide) (backOf (W := 1) (rm11t l Z a0 hw []  h0 n0 Z0) hZ (hw _ (List.mem_of_getElem? (i := 71) rfl)) (hw _ (List.mem_of_getElem? (i := 70) rfl)) (by decide) (by decide)) (g := (mkF m 49 #[.val (.ref a1), .val (.int (1 : Int32)), .val (.int (0 : Int32)), .unset] [(.int (1 : Int32)), (.int (10 : Int32)), (.ref a1)])) rfl (by rw [hml]; rfl) (argsL := [(.int (10 : Int32)), (.int (1 : Int32))]) (rest := [(.ref a1)]) (lenOf pd_10_0 rfl) rfl (by show 2 * 0 + _ ≤ _; exact Nat.le_of_eq rfl) (hb hby d10_49) (fun _ _ => ⟨rfl, e14, (by decide : 0 + 0 ≤ _), (by decide : 0 + 0 ≤ _)⟩)
  dsimp only [Pt.U, Pt.locs, Pt.cells, Pt.slots] at X49 l49 y49 z49 st49 hQ49
  subst l49 y49 z49
  obtain ⟨rfl, N49q, hq49⟩ := hQ49
  have N49 := Fr.app N0 N49q
  refine own_by st49 ?_
  obtain ⟨T52, h52, kc52, X52, e52, E52, A52, Ov52, st52⟩ := newR X49 hx hZ hown (hw _ (List.mem_of_getElem? (i := 72) rfl)) (hw _ (List.mem_of_getElem? (i := 73) rfl)) hq49 (g := (mkF m 52 #[.val (.ref a1), .val (.int (1 : Int32)), .val (.int (0 : Int32)), .unset] [(.int (10 : Int32)), (.ref a1)])) rfl (hb hby d10_52) rfl (by decide) (cap := 10) (by decide) (by decide) (by decide) (by decide)
  obtain ⟨b52, g52⟩ : ∃ z, z = h0.size := ⟨_, rfl⟩
  rw [← g52] at A52 st52
  have ne_a1_b52 : a1 ≠ b52 := Nat.ne_of_lt (Nat.lt_of_lt_of_le E_a1.lt (Nat.le_of_eq g52.symm))
  have g_b52 : n0 ≤ b52 := Nat.le_trans Z0 (Nat.le_of_eq g52.symm)
  have sz_b52 : h0.size ≤ b52 := Nat.le_trans K0.1 (Nat.le_of_eq g52.symm)
  have K52 := K0.ext E52
  have Z52 : n0 ≤ h52.size := Nat.le_trans Z0 E52.1
  have V52 : Arv Z h52 b52 kc52 (.object "java/lang/Object") (10 : Int32) [.null, .null, .null, .null, .null, .null, .null, .null, .null, .null] .null := (Arv.new A52 (by decide)).pad (pad_rep [] .null 10)
  refine own_by st52 ?_
  have sg56 : ∀ t, own_S p e below T52 (mkF m 56 #[.val (.ref a1), .val (.int (1 : Int32)), .val (.int (0 : Int32)), .unset] [(.ref b52), (.ref a1), (.ref b52)]) t → own_S p e below T52 (mkF m 55 #[.val (.ref a1), .val (.int (1 : Int32)), .val (.int (0 : Int32)), .unset] [(.ref b52), (.ref a1)]) t := by
    intro t k
    show own_S p e below T52 (mkF m 55 #[.val (.ref a1), .val (.int (1 : Int32)), .val (.int (0 : Int32)), .unset] [(.ref b52), (.ref a1)]) _
    refine XT.dupX1 X52.here hx rfl (hb hby d10_55) rfl rfl rfl ?_
    exact k
  refine own_by sg56 ?_
  obtain ⟨T56, h56, X56, e56, W56, st56⟩ := putF X52 hx hZ hown (host := "") (Or.inl (hw _ (List.mem_of_getElem? (i := 42) rfl))) Via.refl e52 (F_e.ext E52) (E_a1.ext E52) (Or.inl (hw _ (List.mem_of_getElem? (i := 43) rfl))) (hw _ (List.mem_of_getElem? (i := 21) rfl)) (ty := (.array (.object "java/lang/Object"))) (by decide) rfl rfl (g := (mkF m 56 #[.val (.ref a1), .val (.int (1 : Int32)), .val (.int (0 : Int32)), .unset] [(.ref b52), (.ref a1), (.ref b52)])) rfl rfl (hb hby d10_56)
  have Fw56 := (F_e.ext E52).same W56
  have fc := ((F_m.ext E52).other W56 (Or.inr (slot_ne (Or.inl (hw _ (List.mem_of_getElem? (i := 40) rfl))) (Or.inl (hw _ (List.mem_of_getElem? (i := 43) rfl))) (by decide) (t := .int) (t' := (.array (.object "java/lang/Object"))) (by decide) (by decide))))
  have fc_2 := ((F_s.ext E52).other W56 (Or.inr (slot_ne (Or.inl (hw _ (List.mem_of_getElem? (i := 52) rfl))) (Or.inl (hw _ (List.mem_of_getElem? (i := 43) rfl))) (by decide) (t := .int) (t' := (.array (.object "java/lang/Object"))) (by decide) (by decide))))
  have K56 : Keep h0 h56 [a1] := K52.wr W56 (Or.inl (List.mem_of_getElem? (i := 0) rfl))
  have Z56 : n0 ≤ h56.size := Nat.le_trans Z52 (Keep.of_wr W56).1
  have N56 := Fr.snoc X56 N49 g_a1
  refine own_by st56 ?_
  obtain ⟨fs, hr, hrun, hended, hW, hsame⟩ := X56.leave (v := some (.ref b52)) (fun h => by rw [Bd.returns] at h; cases h)
  refine ⟨_, _, ?_, hrun, hended, _, _, rfl, ?_, ⟨_, rfl⟩, hW, hsame.mono (by decide) (by decide)⟩
  · show Steps p.tables e below (T56.setTop (mkF m 59 #[.val (.ref a1), .val (.int (1 : Int32)), .val (.int (0 : Int32)), .unset] [(.ref b52)])) _
    jvm_step X56.here [X56.here.top, hx, (hb hby d10_59), X56.method', Bd.returns, Value.isRef, FieldType.isReference]
    first | (intro acts; rw [hr _ acts rfl rfl rfl]) | rw [hr _ _ rfl rfl rfl]
    exact Steps.refl _
  · show Q10 Z a1 md wD cl h0 n0 _ T56.heap _
    rw [e56]
    exact ⟨_, _, rfl, sz_b52, N56, K56, ((E_a1.ext E52).wr W56), fc, Fw56, fc_2, Ov52, (V52.other W56 (Ne.symm ne_a1_b52))⟩
theorem d9_0 : decode jdk_38_method_7_code 0 = .ok (.aload_n 0, 1) := by decide +kernel
theorem d9_1 : decode jdk_38_method_7_code 1 = .ok (.aload_n 0, 1) := by decide +kernel
theorem d9_2 : decode jdk_38_method_7_code 2 = .ok (.getfield 48, 3) := by decide +kernel
theorem d9_5 : decode jdk_38_method_7_code 5 = .ok (.iconst 1, 1) := by decide +kernel
theorem d9_6 : decode jdk_38_method_7_code 6 = .ok (.iadd, 1) := by decide +kernel
theorem d9_7 : decode jdk_38_method_7_code 7 = .ok (.invokevirtual 69, 3) := by decide +kernel
theorem d9_10 : decode jdk_38_method_7_code 10 = .ok (.areturn, 1) := by decide +kernel
theorem pn_9 : plainFor (⟨"java/util/ArrayList", "grow", "()[Ljava/lang/Object;"⟩ : MethodName) = true := by first | exact plainFor_of_name (by first | (simp [plainName, overriddenIn]; done) | decide +kernel) | decide +kernel | exact Jvm.Free.JP.mathPlain rfl (by decide +kernel)
theorem pd_9_0 : parseMethodDescriptor "(I)[Ljava/lang/Object;" = some ⟨[.int], some (.array (.object "java/lang/Object"))⟩ := by decide +kernel
theorem ef_9 (m : MethodId) (a1 : Addr) : entryFrame m #[(.ref a1)] 1 = mkF m 0 #[.val (.ref a1)] [] := by first | (simp [entryFrame, mkF, argsToLocals, Value.category]; done) | rfl
def Q9 (Z : State) (a1 : Addr) (md : Int32) (wD : Addr) (cl : Cell) (h0 : Heap) (n0 : Nat) (v : Option Value) (h : Heap) (L : List Loc) : Prop := ∃ r kA, v = some (.ref r) ∧ h0.size ≤ r ∧ Fr n0 L ∧ Keep h0 h [a1] ∧ Exa Z h a1 "java/util/ArrayList" ∧ Fld Z h a1 "java/util/AbstractList" "modCount" "I" (.int md) ∧ Fld Z h a1 "java/util/ArrayList" "elementData" "[Ljava/lang/Object;" (.ref r) ∧ Fld Z h a1 "java/util/ArrayList" "size" "I" (.int (0 : Int32)) ∧ Ovr Z kA "java/lang/Object" ∧ Arv Z h r kA (.object "java/lang/Object") (10 : Int32) [.null, .null, .null, .null, .null, .null, .null, .null, .null, .null] .null
set_option maxRecDepth 65536 in
set_option maxHeartbeats 40000000 in
theorem rm9 (l : Launch) (Z : State) (a0 : Array Value) (hw : ∀ d ∈ tables_1, d.before a0 Z = true) (ws : List Jvm.Cond) (a1 : Addr) (md : Int32) (wD : Addr) (cl : Cell) (h0 : Heap) (n0 : Nat) (Z0 : n0 ≤ h0.size) (O : Old Z n0 h0) (S_D : Sta Z Z.heap "java/util/ArrayList" "DEFAULTCAPACITY_EMPTY_ELEMENTDATA" "[Ljava/lang/Object;" (.ref wD)) (Ar_D : Arr Z Z.heap wD cl (.object "java/lang/Object")) (hsz : cl.slots.size = 0) (E_a1 : Exa Z h0 a1 "java/util/ArrayList") (F_m : Fld Z h0 a1 "java/util/AbstractList" "modCount" "I" (.int md)) (F_e : Fld Z h0 a1 "java/util/ArrayList" "elementData" "[Ljava/lang/Object;" (.ref wD)) (F_s : Fld Z h0 a1 "java/util/ArrayList" "size" "I" (.int (0 : Int32))) (g_a1 : n0 ≤ a1) :
    MetFree l (⟨"java/util/ArrayList", "grow", "()[Ljava/lang/Object;"⟩ : MethodName) (head1 (Jvm.Cond.code (⟨"java/util/ArrayList", "grow", "()[Ljava/lang/Object;"⟩ : MethodName) jdk_38_method_7_code 1 (some (.array (.object "java/lang/Object"))) :: ws) ({ frames := 2, cells := 1, slots := 10, locals := 29 } : Room)) (fun a U => a = #[(.ref a1)] ∧ Z.Warmed39 U.vm ∧ U.heap = h0) (fun _ _ _ _ _ => True) (fun _ U o U' => ∃ v L, o = .returned v ∧ Q9 Z a1 md wD cl h0 n0 v U'.heap L ∧ FrameEnd U o U' L ({ frames := 2, cells := 1, slots := 10, locals := 29 } : Room).cells ({ frames := 2, cells := 1, slots := 10, locals := 29 } : Room).slots) := by
  refine MetFree.of_bodySF pn_9 hisR ?_
  intro p e s m args below meth c s₁ Bd hml0 hP hK
  obtain ⟨rfl, hZ, hh⟩ := hP
  have hx := Bd.exec
  have hby := Bd.bytes
  have hml : c.maxLocals = 1 := hml0
  have hown : s.vm.findClass "java/util/ArrayList" = some m.cls := findClass_of_methodNamed Bd.named
  have hnm := (name_of_methodNamed Bd.named Bd.method).1
  have X0 : Stand p l e ({ frames := 2, cells := 1, slots := 10, locals := 29 } : Room) s m #[(.ref a1)] below meth c s₁ [] 0 0 := Stand.of_body Bd
  have e0 : s₁.heap = h0 := by rw [← hh, Bd.state]; rfl
  have N0 := Fr.nil n0
  refine own_at (castTop (ef_9 m a1)) ?_
  have K0 := Keep.refl h0 [a1]
  have sg2 : ∀ t, own_S p e below s₁ (mkF m 2 #[.val (.ref a1)] [(.ref a1), (.ref a1)]) t → own_S p e below s₁ (mkF m 0 #[.val (.ref a1)] []) t := by
    intro t k
    show own_S p e below s₁ (mkF m 0 #[.val (.ref a1)] []) _
    refine XS.aloadN X0.here hx rfl (hb hby d9_0) rfl rfl ?_
    show own_S p e below s₁ (mkF m 1 #[.val (.ref a1)] [(.ref a1)]) _
    refine XS.aloadN X0.here hx rfl (hb hby d9_1) rfl rfl ?_
    exact k
  refine own_by sg2 ?_
  obtain ⟨T2, X2, e2, st2⟩ := getF X0 hx hZ hown (host := "") (Or.inl (hw _ (List.mem_of_getElem? (i := 51) rfl))) Via.refl e0 F_s (g := (mkF m 2 #[.val (.ref a1)] [(.ref a1), (.ref a1)])) rfl rfl (hb hby d9_2)
  refine own_by st2 ?_
  have sg7 : ∀ t, own_S p e below T2 (mkF m 7 #[.val (.ref a1)] [(.int (1 : Int32)), (.ref a1)]) t → own_S p e below T2 (mkF m 5 #[.val (.ref a1)] [(.int (0 : Int32)), (.ref a1)]) t := by
    intro t k
    show own_S p e below T2 (mkF m 5 #[.val (.ref a1)] [(.int (0 : Int32)), (.ref a1)]) _
    refine XS.iconst X2.here hx rfl (hb hby d9_5) ?_
    show own_S p e below T2 (mkF m 6 #[.val (.ref a1)] [(.int (1 : Int32)), (.int (0 : Int32)), (.ref a1)]) _
    refine XS.iadd X2.here hx rfl (hb hby d9_6) rfl ?_
    exact k
  refine own_by sg7 ?_
  obtain ⟨cq7, q7, q7'⟩ := E_a1.cell
  obtain ⟨_, _, ⟨T7, L7, k7, n7⟩, -, X7, ⟨Lc7, hQ7, l7, y7, z7⟩, st7⟩ := X2.privateBack hx (y := (⟨"java/util/ArrayList", "grow", "(I)[Ljava/lang/Object;"⟩ : MethodName)) hown (mvT hZ (hw _ (List.mem_of_getElem? (i := 63) rfl))) (mvT hZ (hw _ (List.mem_of_getElem? (i := 64) rfl))) (mvT hZ (hw _ (List.mem_of_getElem? (i := 66) rfl))) (Cond.privateMethod_at (mvP hZ (hw _ (List.mem_of_getElem? (i := 65) rfl)) (args := #[]))) (mvT hZ (hw _ (List.mem_of_getElem? (i := 67) rfl))) (by decide) (backOf (W := 0) (rm10 l Z a0 hw [] a1 md wD cl h0 n0 Z0 O S_D Ar_D hsz E_a1 F_m F_e F_s g_a1) hZ (hw _ (List.mem_of_getElem? (i := 67) rfl)) (hw _ (List.mem_of_getElem? (i := 22) rfl)) (by decide) (by decide)) (g := (mkF m 7 #[.val (.ref a1)] [(.int (1 : Int32)), (.ref a1)])) rfl (by rw [hml]; rfl) (Steps.refl _) (a := a1) (by rw [e2]; exact q7) q7' (argsL := [(.int (1 : Int32))]) (rest := []) (lenOf pd_9_0 rfl) rfl (by show 2 * 0 + _ ≤ _; exact Nat.le_of_eq rfl) (hb hby d9_7) (fun _ _ => ⟨rfl, e2, (by decide : 0 + 1 ≤ _), (by decide : 0 + 10 ≤ _)⟩)
  dsimp only [Pt.U, Pt.locs, Pt.cells, Pt.slots] at X7 l7 y7 z7 st7 hQ7
  subst l7 y7 z7
  obtain ⟨r7, kA7, rfl, ge7, N7q, Kq7, Eq7, FM7, FD7, FS7, Ov7, Aq7⟩ := hQ7
  have N7 := Fr.app N0 N7q
  have ne_a1_r7 : a1 ≠ r7 := Nat.ne_of_lt (Nat.lt_of_lt_of_le E_a1.lt ge7)
  have g_r7 : n0 ≤ r7 := Nat.le_trans Z0 ge7
  have sz_r7 : h0.size ≤ r7 := Nat.le_trans K0.1 ge7
  have K7 : Keep h0 T7.heap [a1] := K0.trans Kq7 (fun x hx => by cases List.mem_singleton.mp hx; exact Or.inl (List.mem_of_getElem? (i := 0) rfl))
  have Z7 : n0 ≤ T7.heap.size := Nat.le_trans Z0 Kq7.1
  refine own_by (fun t k => st7.trans k) ?_
  obtain ⟨fs, hr, hrun, hended, hW, hsame⟩ := X7.leave (v := some (.ref r7)) (fun h => by rw [Bd.returns] at h; cases h)
  refine ⟨_, _, ?_, hrun, hended, _, _, rfl, ?_, ⟨_, rfl⟩, hW, hsame.mono (by decide) (by decide)⟩
  · show Steps p.tables e below (T7.setTop (mkF m 10 #[.val (.ref a1)] [(.ref r7)])) _
    jvm_step X7.here [X7.here.top, hx, (hb hby d9_10), X7.method', Bd.returns, Value.isRef, FieldType.isReference]
    first | (intro acts; rw [hr _ acts rfl rfl rfl]) | rw [hr _ _ rfl rfl rfl]
    exact Steps.refl _
  · show Q9 Z a1 md wD cl h0 n0 _ T7.heap _
    exact ⟨_, _, rfl, sz_r7, N7, K7, Eq7, FM7, FD7, FS7, Ov7, Aq7⟩
theorem d8_0 : decode jdk_38_method_24_code 0 = .ok (.iload_n 3, 1) := by decide +kernel
theorem d8_1 : decode jdk_38_method_24_code 1 = .ok (.aload_n 2, 1) := by decide +kernel
theorem d8_2 : decode jdk_38_method_24_code 2 = .ok (.arraylength, 1) := by decide +kernel
theorem d8_3 : decode jdk_38_method_24_code 3 = .ok (.if_icmp .ne 8, 3) := by decide +kernel
theorem d8_6 : decode jdk_38_method_24_code 6 = .ok (.aload_n 0, 1) := by decide +kernel
theorem d8_7 : decode jdk_38_method_24_code 7 = .ok (.invokevirtual 129, 3) := by decide +kernel
theorem d8_10 : decode jdk_38_method_24_code 10 = .ok (.astore_n 2, 1) := by decide +kernel
theorem d8_11 : decode jdk_38_method_24_code 11 = .ok (.aload_n 2, 1) := by decide +kernel
theorem d8_12 : decode jdk_38_method_24_code 12 = .ok (.iload_n 3, 1) := by decide +kernel
theorem d8_13 : decode jdk_38_method_24_code 13 = .ok (.aload_n 1, 1) := by decide +kernel
theorem d8_14 : decode jdk_38_method_24_code 14 = .ok (.aastore, 1) := by decide +kernel
theorem d8_15 : decode jdk_38_method_24_code 15 = .ok (.aload_n 0, 1) := by decide +kernel
theorem d8_16 : decode jdk_38_method_24_code 16 = .ok (.iload_n 3, 1) := by decide +kernel
theorem d8_17 : decode jdk_38_method_24_code 17 = .ok (.iconst 1, 1) := by decide +kernel
theorem d8_18 : decode jdk_38_method_24_code 18 = .ok (.iadd, 1) := by decide +kernel
theorem d8_19 : decode jdk_38_method_24_code 19 = .ok (.putfield 48, 3) := by decide +kernel
theorem d8_22 : decode jdk_38_method_24_code 22 = .ok (.return_, 1) := by decide +kernel
theorem pn_8 : plainFor (⟨"java/util/ArrayList", "add", "(Ljava/lang/Object;[Ljava/lang/Object;I)V"⟩ : MethodName) = true := by first | exact plainFor_of_name (by first | (simp [plainName, overriddenIn]; done) | decide +kernel) | decide +kernel | exact Jvm.Free.JP.mathPlain rfl (by decide +kernel)
theorem pd_8_0 : parseMethodDescriptor "()[Ljava/lang/Object;" = some ⟨[], some (.array (.object "java/lang/Object"))⟩ := by decide +kernel
theorem ef_8 (m : MethodId) (a1 : Addr) (a2 : Addr) : entryFrame m #[(.ref a1), (.ref a2), (.ref wD), (.int (0 : Int32))] 4 = mkF m 0 #[.val (.ref a1), .val (.ref a2), .val (.ref wD), .val (.int (0 : Int32))] [] := by first | (simp [entryFrame, mkF, argsToLocals, Value.category]; done) | rfl
def Q8 (Z : State) (a1 : Addr) (a2 : Addr) (md : Int32) (wD : Addr) (cl : Cell) (h0 : Heap) (n0 : Nat) (v : Option Value) (h : Heap) (L : List Loc) : Prop := ∃ r kA, v = none ∧ h0.size ≤ r ∧ Fr n0 L ∧ Keep h0 h [a1] ∧ Exa Z h a1 "java/util/ArrayList" ∧ Fld Z h a1 "java/util/AbstractList" "modCount" "I" (.int md) ∧ Fld Z h a1 "java/util/ArrayList" "elementData" "[Ljava/lang/Object;" (.ref r) ∧ Fld Z h a1 "java/util/ArrayList" "size" "I" (.int (1 : Int32)) ∧ Ovr Z kA "java/lang/Object" ∧ Arv Z h r kA (.object "java/lang/Object") (10 : Int32) [(.ref a2), .null, .null, .null, .null, .null, .null, .null, .null, .null] .null
set_option maxRecDepth 65536 in
set_option maxHeartbeats 40000000 in
theorem rm8 (l : Launch) (Z : State) (a0 : Array Value) (hw : ∀ d ∈ tables_1, d.before a0 Z = true) (ws : List Jvm.Cond) (a1 : Addr) (a2 : Addr) (md : Int32) (wD : Addr) (cl : Cell) (h0 : Heap) (n0 : Nat) (Z0 : n0 ≤ h0.size) (O : Old Z n0 h0) (S_D : Sta Z Z.heap "java/util/ArrayList" "DEFAULTCAPACITY_EMPTY_ELEMENTDATA" "[Ljava/lang/Object;" (.ref wD)) (Ar_D : Arr Z Z.heap wD cl (.object "java/lang/Object")) (hsz : cl.slots.size = 0) (E_a1 : Exa Z h0 a1 "java/util/ArrayList") (F_m : Fld Z h0 a1 "java/util/AbstractList" "modCount" "I" (.int md)) (F_e : Fld Z h0 a1 "java/util/ArrayList" "elementData" "[Ljava/lang/Object;" (.ref wD)) (F_s : Fld Z h0 a1 "java/util/ArrayList" "size" "I" (.int (0 : Int32))) (g_a1 : n0 ≤ a1) (E_a2 : Exa Z h0 a2 "com/example/catchment/catchment/Position") :
    MetFree l (⟨"java/util/ArrayList", "add", "(Ljava/lang/Object;[Ljava/lang/Object;I)V"⟩ : MethodName) (head1 (Jvm.Cond.code (⟨"java/util/ArrayList", "add", "(Ljava/lang/Object;[Ljava/lang/Object;I)V"⟩ : MethodName) jdk_38_method_24_code 4 none :: ws) ({ frames := 3, cells := 1, slots := 10, locals := 41 } : Room)) (fun a U => a = #[(.ref a1), (.ref a2), (.ref wD), (.int (0 : Int32))] ∧ Z.Warmed39 U.vm ∧ U.heap = h0) (fun _ _ _ _ _ => True) (fun _ U o U' => ∃ v L, o = .returned v ∧ Q8 Z a1 a2 md wD cl h0 n0 v U'.heap L ∧ FrameEnd U o U' L ({ frames := 3, cells := 1, slots := 10, locals := 41 } : Room).cells ({ frames := 3, cells := 1, slots := 10, locals := 41 } : Room).slots) := by
  refine MetFree.of_bodySF pn_8 hisR ?_
  intro p e s m args below meth c s₁ Bd hml0 hP hK
  obtain ⟨rfl, hZ, hh⟩ := hP
  have hx := Bd.exec
  have hby := Bd.bytes
  have hml : c.maxLocals = 4 := hml0
  have hown : s.vm.findClass "java/util/ArrayList" = some m.cls := findClass_of_methodNamed Bd.named
  have hnm := (name_of_methodNamed Bd.named Bd.method).1
  have X0 : Stand p l e ({ frames := 3, cells := 1, slots := 10, locals := 41 } : Room) s m #[(.ref a1), (.ref a2), (.ref wD), (.int (0 : Int32))] below meth c s₁ [] 0 0 := Stand.of_body Bd
  have e0 : s₁.heap = h0 := by rw [← hh, Bd.state]; rfl
  have N0 := Fr.nil n0
  refine own_at (castTop (ef_8 m a1 a2)) ?_
  have K0 := Keep.refl h0 [a1]
  have sg7 : ∀ t, own_S p e below s₁ (mkF m 7 #[.val (.ref a1), .val (.ref a2), .val (.ref wD), .val (.int (0 : Int32))] [(.ref a1)]) t → own_S p e below s₁ (mkF m 0 #[.val (.ref a1), .val (.ref a2), .val (.ref wD), .val (.int (0 : Int32))] []) t := by
    intro t k
    show own_S p e below s₁ (mkF m 0 #[.val (.ref a1), .val (.ref a2), .val (.ref wD), .val (.int (0 : Int32))] []) _
    refine XS.iloadN X0.here hx rfl (hb hby d8_0) rfl ?_
    show own_S p e below s₁ (mkF m 1 #[.val (.ref a1), .val (.ref a2), .val (.ref wD), .val (.int (0 : Int32))] [(.int (0 : Int32))]) _
    refine XS.aloadN X0.here hx rfl (hb hby d8_1) rfl rfl ?_
    show own_S p e below s₁ (mkF m 2 #[.val (.ref a1), .val (.ref a2), .val (.ref wD), .val (.int (0 : Int32))] [(.ref wD), (.int (0 : Int32))]) _
    refine X0.arraylength hx (by rw [e0]; exact (Ar_D.ext O.2).1) (State.isArrayOf_alike hZ.alike (Ar_D.ext O.2).2.1) (g := (mkF m 2 #[.val (.ref a1), .val (.ref a2), .val (.ref wD), .val (.int (0 : Int32))] [(.ref wD), (.int (0 : Int32))])) rfl rfl (hb hby d8_2) _ ?_
    rw [hsz]
    show own_S p e below s₁ (mkF m 3 #[.val (.ref a1), .val (.ref a2), .val (.ref wD), .val (.int (0 : Int32))] [(.int (0 : Int32)), (.int (0 : Int32))]) _
    refine XS.icmpNo X0.here hx rfl (hb hby d8_3) rfl (teq (by decide : (0 : Int32) = (0 : Int32))).2 ?_
    show own_S p e below s₁ (mkF m 6 #[.val (.ref a1), .val (.ref a2), .val (.ref wD), .val (.int (0 : Int32))] []) _
    refine XS.aloadN X0.here hx rfl (hb hby d8_6) rfl rfl ?_
    exact k
  refine own_by sg7 ?_
  obtain ⟨cq7, q7, q7'⟩ := E_a1.cell
  obtain ⟨_, _, ⟨T7, L7, k7, n7⟩, -, X7, ⟨Lc7, hQ7, l7, y7, z7⟩, st7⟩ := X0.privateBack hx (y := (⟨"java/util/ArrayList", "grow", "()[Ljava/lang/Object;"⟩ : MethodName)) hown (mvT hZ (hw _ (List.mem_of_getElem? (i := 58) rfl))) (mvT hZ (hw _ (List.mem_of_getElem? (i := 59) rfl))) (mvT hZ (hw _ (List.mem_of_getElem? (i := 61) rfl))) (Cond.privateMethod_at (mvP hZ (hw _ (List.mem_of_getElem? (i := 60) rfl)) (args := #[]))) (mvT hZ (hw _ (List.mem_of_getElem? (i := 62) rfl))) (by decide) (backOf (W := 0) (rm9 l Z a0 hw [] a1 md wD cl h0 n0 Z0 O S_D Ar_D hsz E_a1 F_m F_e F_s g_a1) hZ (hw _ (List.mem_of_getElem? (i := 62) rfl)) (hw _ (List.mem_of_getElem? (i := 22) rfl)) (by decide) (by decide)) (g := (mkF m 7 #[.val (.ref a1), .val (.ref a2), .val (.ref wD), .val (.int (0 : Int32))] [(.ref a1)])) rfl (by rw [hml]; rfl) (Steps.refl _) (a := a1) (by rw [e0]; exact q7) q7' (argsL := []) (rest := []) (lenOf pd_8_0 rfl) rfl (by show 2 * 0 + _ ≤ _; exact Nat.le_of_eq rfl) (hb hby d8_7) (fun _ _ => ⟨rfl, e0, (by decide : 0 + 1 ≤ _), (by decide : 0 + 10 ≤ _)⟩)
  dsimp only [Pt.U, Pt.locs, Pt.cells, Pt.slots] at X7 l7 y7 z7 st7 hQ7
  subst l7 y7 z7
  obtain ⟨r7, kA7, rfl, ge7, N7q, Kq7, Eq7, FM7, FD7, FS7, Ov7, Aq7⟩ := hQ7
  have N7 := Fr.app N0 N7q
  have ne_a1_r7 : a1 ≠ r7 := Nat.ne_of_lt (Nat.lt_of_lt_of_le E_a1.lt ge7)
  have ne_a2_r7 : a2 ≠ r7 := Nat.ne_of_lt (Nat.lt_of_lt_of_le E_a2.lt ge7)
  have g_r7 : n0 ≤ r7 := Nat.le_trans Z0 ge7
  have sz_r7 : h0.size ≤ r7 := Nat.le_trans K0.1 ge7
  have K7 : Keep h0 T7.heap [a1] := K0.trans Kq7 (fun x hx => by cases List.mem_singleton.mp hx; exact Or.inl (List.mem_of_getElem? (i := 0) rfl))
  have Z7 : n0 ≤ T7.heap.size := Nat.le_trans Z0 Kq7.1
  refine own_by (fun t k => st7.trans k) ?_
  have sg14 : ∀ t, own_S p e below T7 (mkF m 14 #[.val (.ref a1), .val (.ref a2), .val (.ref r7), .val (.int (0 : Int32))] [(.ref a2), (.int (0 : Int32)), (.ref r7)]) t → own_S p e below T7 (mkF m 10 #[.val (.ref a1), .val (.ref a2), .val (.ref wD), .val (.int (0 : Int32))] [(.ref r7)]) t := by
    intro t k
    show own_S p e below T7 (mkF m 10 #[.val (.ref a1), .val (.ref a2), .val (.ref wD), .val (.int (0 : Int32))] [(.ref r7)]) _
    refine XS.astoreN X7.here hx rfl (hb hby d8_10) rfl rfl (l' := #[.val (.ref a1), .val (.ref a2), .val (.ref r7), .val (.int (0 : Int32))]) rfl ?_
    show own_S p e below T7 (mkF m 11 #[.val (.ref a1), .val (.ref a2), .val (.ref r7), .val (.int (0 : Int32))] []) _
    refine XS.aloadN X7.here hx rfl (hb hby d8_11) rfl rfl ?_
    show own_S p e below T7 (mkF m 12 #[.val (.ref a1), .val (.ref a2), .val (.ref r7), .val (.int (0 : Int32))] [(.ref r7)]) _
    refine XS.iloadN X7.here hx rfl (hb hby d8_12) rfl ?_
    show own_S p e below T7 (mkF m 13 #[.val (.ref a1), .val (.ref a2), .val (.ref r7), .val (.int (0 : Int32))] [(.int (0 : Int32)), (.ref r7)]) _
    refine XS.aloadN X7.here hx rfl (hb hby d8_13) rfl rfl ?_
    exact k
  refine own_by sg14 ?_
  obtain ⟨cl14, Ar14, qa14, Sa14, Na14, Ha14, Ga14⟩ := id Aq7
  obtain ⟨T14, h14, X14, e14, W14, st14⟩ := stR X7 hx hZ rfl Ar14 (j := (0 : Int32)) (inb_of Sa14 ⟨by decide, by decide⟩) rfl (Sto.of Ar14 (by rw [qa14]; exact Ov7) (Ins.of_exa (E_a2.keep Kq7) (hw _ (List.mem_of_getElem? (i := 74) rfl)))) (g := (mkF m 14 #[.val (.ref a1), .val (.ref a2), .val (.ref r7), .val (.int (0 : Int32))] [(.ref a2), (.int (0 : Int32)), (.ref r7)])) rfl rfl (hb hby d8_14)
  have V14 : Arv Z h14 r7 kA7 (.object "java/lang/Object") (10 : Int32) [(.ref a2), .null, .null, .null, .null, .null, .null, .null, .null, .null] .null := Arv.set Ar14 qa14 Sa14 Na14 Ha14 Ga14 rfl W14 0 rfl (Nat.le_of_ble_eq_true rfl)
  have K14 : Keep h0 h14 [a1] := K7.wr W14 (Or.inr sz_r7)
  have Z14 : n0 ≤ h14.size := Nat.le_trans Z7 (Keep.of_wr W14).1
  have N14 := Fr.snoc X14 N7 g_r7
  refine own_by st14 ?_
  have sg19 : ∀ t, own_S p e below T14 (mkF m 19 #[.val (.ref a1), .val (.ref a2), .val (.ref r7), .val (.int (0 : Int32))] [(.int (1 : Int32)), (.ref a1)]) t → own_S p e below T14 (mkF m 15 #[.val (.ref a1), .val (.ref a2), .val (.ref r7), .val (.int (0 : Int32))] []) t := by
    intro t k
    show own_S p e below T14 (mkF m 15 #[.val (.ref a1), .val (.ref a2), .val (.ref r7), .val (.int (0 : Int32))] []) _
    refine XS.aloadN X14.here hx rfl (hb hby d8_15) rfl rfl ?_
    show own_S p e below T14 (mkF m 16 #[.val (.ref a1), .val (.ref a2), .val (.ref r7), .val (.int (0 : Int32))] [(.ref a1)]) _
    refine XS.iloadN X14.here hx rfl (hb hby d8_16) rfl ?_
    show own_S p e below T14 (mkF m 17 #[.val (.ref a1), .val (.ref a2), .val (.ref r7), .val (.int (0 : Int32))] [(.int (0 : Int32)), (.ref a1)]) _
    refine XS.iconst X14.here hx rfl (hb hby d8_17) ?_
    show own_S p e below T14 (mkF m 18 #[.val (.ref a1), .val (.ref a2), .val (.ref r7), .val (.int (0 : Int32))] [(.int (1 : Int32)), (.int (0 : Int32)), (.ref a1)]) _
    refine XS.iadd X14.here hx rfl (hb hby d8_18) rfl ?_
    exact k
  refine own_by sg19 ?_
  obtain ⟨T19, h19, X19, e19, W19, st19⟩ := putF X14 hx hZ hown (host := "") (Or.inl (hw _ (List.mem_of_getElem? (i := 51) rfl))) Via.refl e14 (FS7.other W14 (Or.inl ne_a1_r7)) (Eq7.wr W14) (Or.inl (hw _ (List.mem_of_getElem? (i := 52) rfl))) (hw _ (List.mem_of_getElem? (i := 21) rfl)) (ty := .int) (by decide) rfl rfl (g := (mkF m 19 #[.val (.ref a1), .val (.ref a2), .val (.ref r7), .val (.int (0 : Int32))] [(.int (1 : Int32)), (.ref a1)])) rfl rfl (hb hby d8_19)
  have Fw19 := (FS7.other W14 (Or.inl ne_a1_r7)).same W19
  have fc := ((FM7.other W14 (Or.inl ne_a1_r7)).other W19 (Or.inr (slot_ne (Or.inl (hw _ (List.mem_of_getElem? (i := 40) rfl))) (Or.inl (hw _ (List.mem_of_getElem? (i := 52) rfl))) (by decide) (t := .int) (t' := .int) (by decide) (by decide))))
  have fc_2 := ((FD7.other W14 (Or.inl ne_a1_r7)).other W19 (Or.inr (slot_ne (Or.inl (hw _ (List.mem_of_getElem? (i := 43) rfl))) (Or.inl (hw _ (List.mem_of_getElem? (i := 52) rfl))) (by decide) (t := (.array (.object "java/lang/Object"))) (t' := .int) (by decide) (by decide))))
  have K19 : Keep h0 h19 [a1] := K14.wr W19 (Or.inl (List.mem_of_getElem? (i := 0) rfl))
  have Z19 : n0 ≤ h19.size := Nat.le_trans Z14 (Keep.of_wr W19).1
  have N19 := Fr.snoc X19 N14 g_a1
  refine own_by st19 ?_
  obtain ⟨fs, hr, hrun, hended, hW, hsame⟩ := X19.leave (v := none) (fun _ => rfl)
  refine ⟨_, _, ?_, hrun, hended, _, _, rfl, ?_, ⟨_, rfl⟩, hW, hsame.mono (by decide) (by decide)⟩
  · exact X19.returnOut hx Bd.returns (hb hby d8_22) hr
  · show Q8 Z a1 a2 md wD cl h0 n0 _ T19.heap _
    rw [e19]
    exact ⟨_, _, rfl, sz_r7, N19, K19, ((Eq7.wr W14).wr W19), fc, fc_2, Fw19, Ov7, (V14.other W19 (Ne.symm ne_a1_r7))⟩
theorem d7_0 : decode jdk_38_method_25_code 0 = .ok (.aload_n 0, 1) := by decide +kernel
theorem d7_1 : decode jdk_38_method_25_code 1 = .ok (.dup, 1) := by decide +kernel
theorem d7_2 : decode jdk_38_method_25_code 2 = .ok (.getfield 63, 3) := by decide +kernel
theorem d7_5 : decode jdk_38_method_25_code 5 = .ok (.iconst 1, 1) := by decide +kernel
theorem d7_6 : decode jdk_38_method_25_code 6 = .ok (.iadd, 1) := by decide +kernel
theorem d7_7 : decode jdk_38_method_25_code 7 = .ok (.putfield 63, 3) := by decide +kernel
theorem d7_10 : decode jdk_38_method_25_code 10 = .ok (.aload_n 0, 1) := by decide +kernel
theorem d7_11 : decode jdk_38_method_25_code 11 = .ok (.aload_n 1, 1) := by decide +kernel
theorem d7_12 : decode jdk_38_method_25_code 12 = .ok (.aload_n 0, 1) := by decide +kernel
theorem d7_13 : decode jdk_38_method_25_code 13 = .ok (.getfield 9, 3) := by decide +kernel
theorem d7_16 : decode jdk_38_method_25_code 16 = .ok (.aload_n 0, 1) := by decide +kernel
theorem d7_17 : decode jdk_38_method_25_code 17 = .ok (.getfield 48, 3) := by decide +kernel
theorem d7_20 : decode jdk_38_method_25_code 20 = .ok (.invokevirtual 131, 3) := by decide +kernel
theorem d7_23 : decode jdk_38_method_25_code 23 = .ok (.iconst 1, 1) := by decide +kernel
theorem d7_24 : decode jdk_38_method_25_code 24 = .ok (.ireturn, 1) := by decide +kernel
theorem pn_7 : plainFor (⟨"java/util/ArrayList", "add", "(Ljava/lang/Object;)Z"⟩ : MethodName) = true := by first | exact plainFor_of_name (by first | (simp [plainName, overriddenIn]; done) | decide +kernel) | decide +kernel | exact Jvm.Free.JP.mathPlain rfl (by decide +kernel)
theorem pd_7_0 : parseMethodDescriptor "(Ljava/lang/Object;[Ljava/lang/Object;I)V" = some ⟨[(.object "java/lang/Object"), (.array (.object "java/lang/Object")), .int], none⟩ := by decide +kernel
theorem ef_7 (m : MethodId) (a1 : Addr) (a2 : Addr) : entryFrame m #[(.ref a1), (.ref a2)] 2 = mkF m 0 #[.val (.ref a1), .val (.ref a2)] [] := by first | (simp [entryFrame, mkF, argsToLocals, Value.category]; done) | rfl
def Q7 (Z : State) (a1 : Addr) (a2 : Addr) (wD : Addr) (cl : Cell) (h0 : Heap) (n0 : Nat) (v : Option Value) (h : Heap) (L : List Loc) : Prop := ∃ r kA, v = some (.int 1) ∧ h0.size ≤ r ∧ Fr n0 L ∧ Keep h0 h [a1] ∧ Exa Z h a1 "java/util/ArrayList" ∧ Fld Z h a1 "java/util/AbstractList" "modCount" "I" (.int (1 : Int32)) ∧ Fld Z h a1 "java/util/ArrayList" "elementData" "[Ljava/lang/Object;" (.ref r) ∧ Fld Z h a1 "java/util/ArrayList" "size" "I" (.int (1 : Int32)) ∧ Arv Z h r kA (.object "java/lang/Object") (10 : Int32) [(.ref a2), .null, .null, .null, .null, .null, .null, .null, .null, .null] .null
set_option maxRecDepth 65536 in
set_option maxHeartbeats 40000000 in
theorem rm7 (l : Launch) (Z : State) (a0 : Array Value) (hw : ∀ d ∈ tables_1, d.before a0 Z = true) (ws : List Jvm.Cond) (a1 : Addr) (a2 : Addr) (wD : Addr) (cl : Cell) (h0 : Heap) (n0 : Nat) (Z0 : n0 ≤ h0.size) (O : Old Z n0 h0) (S_D : Sta Z Z.heap "java/util/ArrayList" "DEFAULTCAPACITY_EMPTY_ELEMENTDATA" "[Ljava/lang/Object;" (.ref wD)) (Ar_D : Arr Z Z.heap wD cl (.object "java/lang/Object")) (hsz : cl.slots.size = 0) (E_a1 : Exa Z h0 a1 "java/util/ArrayList") (F_m : Fld Z h0 a1 "java/util/AbstractList" "modCount" "I" (.int (0 : Int32))) (F_e : Fld Z h0 a1 "java/util/ArrayList" "elementData" "[Ljava/lang/Object;" (.ref wD)) (F_s : Fld Z h0 a1 "java/util/ArrayList" "size" "I" (.int (0 : Int32))) (g_a1 : n0 ≤ a1) (E_a2 : Exa Z h0 a2 "com/example/catchment/catchment/Position") :
    MetFree l (⟨"java/util/ArrayList", "add", "(Ljava/lang/Object;)Z"⟩ : MethodName) (head1 (Jvm.Cond.code (⟨"java/util/ArrayList", "add", "(Ljava/lang/Object;)Z"⟩ : MethodName) jdk_38_method_25_code 2 (some .boolean) :: ws) ({ frames := 4, cells := 1, slots := 10, locals := 56 } : Room)) (fun a U => a = #[(.ref a1), (.ref a2)] ∧ Z.Warmed39 U.vm ∧ U.heap = h0) (fun _ _ _ _ _ => True) (fun _ U o U' => ∃ v L, o = .returned v ∧ Q7 Z a1 a2 wD cl h0 n0 v U'.heap L ∧ FrameEnd U o U' L ({ frames := 4, cells := 1, slots := 10, locals := 56 } : Room).cells ({ frames := 4, cells := 1, slots := 10, locals := 56 } : Room).slots) := by
  refine MetFree.of_bodySF pn_7 hisR ?_
  intro p e s m args below meth c s₁ Bd hml0 hP hK
  obtain ⟨rfl, hZ, hh⟩ := hP
  have hx := Bd.exec
  have hby := Bd.bytes
  have hml : c.maxLocals = 2 := hml0
  have hown : s.vm.findClass "java/util/ArrayList" = some m.cls := findClass_of_methodNamed Bd.named
  have hnm := (name_of_methodNamed Bd.named Bd.method).1
  have X0 : Stand p l e ({ frames := 4, cells := 1, slots := 10, locals := 56 } : Room) s m #[(.ref a1), (.ref a2)] below meth c s₁ [] 0 0 := Stand.of_body Bd
  have e0 : s₁.heap = h0 := by rw [← hh, Bd.state]; rfl
  have N0 := Fr.nil n0
  refine own_at (castTop (ef_7 m a1 a2)) ?_
  have K0 := Keep.refl h0 [a1]
  have sg2 : ∀ t, own_S p e below s₁ (mkF m 2 #[.val (.ref a1), .val (.ref a2)] [(.ref a1), (.ref a1)]) t → own_S p e below s₁ (mkF m 0 #[.val (.ref a1), .val (.ref a2)] []) t := by
    intro t k
    show own_S p e below s₁ (mkF m 0 #[.val (.ref a1), .val (.ref a2)] []) _
    refine XS.aloadN X0.here hx rfl (hb hby d7_0) rfl rfl ?_
    show own_S p e below s₁ (mkF m 1 #[.val (.ref a1), .val (.ref a2)] [(.ref a1)]) _
    refine XS.dup X0.here hx rfl (hb hby d7_1) rfl rfl ?_
    exact k
  refine own_by sg2 ?_
  obtain ⟨T2, X2, e2, st2⟩ := getF X0 hx hZ hown (host := "") (Or.inl (hw _ (List.mem_of_getElem? (i := 49) rfl))) (Via.of (hw _ (List.mem_of_getElem? (i := 50) rfl))) e0 F_m (g := (mkF m 2 #[.val (.ref a1), .val (.ref a2)] [(.ref a1), (.ref a1)])) rfl rfl (hb hby d7_2)
  refine own_by st2 ?_
  have sg7 : ∀ t, own_S p e below T2 (mkF m 7 #[.val (.ref a1), .val (.ref a2)] [(.int (1 : Int32)), (.ref a1)]) t → own_S p e below T2 (mkF m 5 #[.val (.ref a1), .val (.ref a2)] [(.int (0 : Int32)), (.ref a1)]) t := by
    intro t k
    show own_S p e below T2 (mkF m 5 #[.val (.ref a1), .val (.ref a2)] [(.int (0 : Int32)), (.ref a1)]) _
    refine XS.iconst X2.here hx rfl (hb hby d7_5) ?_
    show own_S p e below T2 (mkF m 6 #[.val (.ref a1), .val (.ref a2)] [(.int (1 : Int32)), (.int (0 : Int32)), (.ref a1)]) _
    refine XS.iadd X2.here hx rfl (hb hby d7_6) rfl ?_
    exact k
  refine own_by sg7 ?_
  obtain ⟨T7, h7, X7, e7, W7, st7⟩ := putF X2 hx hZ hown (host := "") (Or.inl (hw _ (List.mem_of_getElem? (i := 49) rfl))) (Via.of (hw _ (List.mem_of_getElem? (i := 50) rfl))) e2 F_m E_a1 (Or.inl (hw _ (List.mem_of_getElem? (i := 40) rfl))) (hw _ (List.mem_of_getElem? (i := 21) rfl)) (ty := .int) (by decide) rfl rfl (g := (mkF m 7 #[.val (.ref a1), .val (.ref a2)] [(.int (1 : Int32)), (.ref a1)])) rfl rfl (hb hby d7_7)
  have Fw7 := F_m.same W7
  have fc := (F_e.other W7 (Or.inr (slot_ne (Or.inl (hw _ (List.mem_of_getElem? (i := 43) rfl))) (Or.inl (hw _ (List.mem_of_getElem? (i := 40) rfl))) (by decide) (t := (.array (.object "java/lang/Object"))) (t' := .int) (by decide) (by decide))))
  have fc_2 := (F_s.other W7 (Or.inr (slot_ne (Or.inl (hw _ (List.mem_of_getElem? (i := 52) rfl))) (Or.inl (hw _ (List.mem_of_getElem? (i := 40) rfl))) (by decide) (t := .int) (t' := .int) (by decide) (by decide))))
  have K7 : Keep h0 h7 [a1] := K0.wr W7 (Or.inl (List.mem_of_getElem? (i := 0) rfl))
  have Z7 : n0 ≤ h7.size := Nat.le_trans Z0 (Keep.of_wr W7).1
  have N7 := Fr.snoc X7 N0 g_a1
  refine own_by st7 ?_
  have sg13 : ∀ t, own_S p e below T7 (mkF m 13 #[.val (.ref a1), .val (.ref a2)] [(.ref a1), (.ref a2), (.ref a1)]) t → own_S p e below T7 (mkF m 10 #[.val (.ref a1), .val (.ref a2)] []) t := by
    intro t k
    show own_S p e below T7 (mkF m 10 #[.val (.ref a1), .val (.ref a2)] []) _
    refine XS.aloadN X7.here hx rfl (hb hby d7_10) rfl rfl ?_
    show own_S p e below T7 (mkF m 11 #[.val (.ref a1), .val (.ref a2)] [(.ref a1)]) _
    refine XS.aloadN X7.here hx rfl (hb hby d7_11) rfl rfl ?_
    show own_S p e below T7 (mkF m 12 #[.val (.ref a1), .val (.ref a2)] [(.ref a2), (.ref a1)]) _
    refine XS.aloadN X7.here hx rfl (hb hby d7_12) rfl rfl ?_
    exact k
  refine own_by sg13 ?_
  obtain ⟨T13, X13, e13, st13⟩ := getF X7 hx hZ hown (host := "") (Or.inl (hw _ (List.mem_of_getElem? (i := 42) rfl))) Via.refl e7 fc (g := (mkF m 13 #[.val (.ref a1), .val (.ref a2)] [(.ref a1), (.ref a2), (.ref a1)])) rfl rfl (hb hby d7_13)
  refine own_by st13 ?_
  have sg17 : ∀ t, own_S p e below T13 (mkF m 17 #[.val (.ref a1), .val (.ref a2)] [(.ref a1), (.ref wD), (.ref a2), (.ref a1)]) t → own_S p e below T13 (mkF m 16 #[.val (.ref a1), .val (.ref a2)] [(.ref wD), (.ref a2), (.ref a1)]) t := by
    intro t k
    show own_S p e below T13 (mkF m 16 #[.val (.ref a1), .val (.ref a2)] [(.ref wD), (.ref a2), (.ref a1)]) _
    refine XS.aloadN X13.here hx rfl (hb hby d7_16) rfl rfl ?_
    exact k
  refine own_by sg17 ?_
  obtain ⟨T17, X17, e17, st17⟩ := getF X13 hx hZ hown (host := "") (Or.inl (hw _ (List.mem_of_getElem? (i := 51) rfl))) Via.refl e13 fc_2 (g := (mkF m 17 #[.val (.ref a1), .val (.ref a2)] [(.ref a1), (.ref wD), (.ref a2), (.ref a1)])) rfl rfl (hb hby d7_17)
  refine own_by st17 ?_
  obtain ⟨cq20, q20, q20'⟩ := (E_a1.wr W7).cell
  obtain ⟨_, _, ⟨T20, L20, k20, n20⟩, -, X20, ⟨Lc20, hQ20, l20, y20, z20⟩, st20⟩ := X17.privateBack hx (y := (⟨"java/util/ArrayList", "add", "(Ljava/lang/Object;[Ljava/lang/Object;I)V"⟩ : MethodName)) hown (mvT hZ (hw _ (List.mem_of_getElem? (i := 53) rfl))) (mvT hZ (hw _ (List.mem_of_getElem? (i := 54) rfl))) (mvT hZ (hw _ (List.mem_of_getElem? (i := 56) rfl))) (Cond.privateMethod_at (mvP hZ (hw _ (List.mem_of_getElem? (i := 55) rfl)) (args := #[]))) (mvT hZ (hw _ (List.mem_of_getElem? (i := 57) rfl))) (by decide) (backOf (W := 0) (rm8 l Z a0 hw [] a1 a2 (1 : Int32) wD cl h7 n0 Z7 (O.wr W7 g_a1) S_D Ar_D hsz (E_a1.wr W7) Fw7 fc fc_2 g_a1 (E_a2.wr W7)) hZ (hw _ (List.mem_of_getElem? (i := 57) rfl)) (hw _ (List.mem_of_getElem? (i := 22) rfl)) (by decide) (by decide)) (g := (mkF m 20 #[.val (.ref a1), .val (.ref a2)] [(.int (0 : Int32)), (.ref wD), (.ref a2), (.ref a1)])) rfl (by rw [hml]; rfl) (Steps.refl _) (a := a1) (by rw [e17]; exact q20) q20' (argsL := [(.ref a2), (.ref wD), (.int (0 : Int32))]) (rest := []) (lenOf pd_7_0 rfl) rfl (by show 2 * 0 + _ ≤ _; exact Nat.le_of_eq rfl) (hb hby d7_20) (fun _ _ => ⟨rfl, e17, (by decide : 0 + 1 ≤ _), (by decide : 0 + 10 ≤ _)⟩)
  dsimp only [Pt.U, Pt.locs, Pt.cells, Pt.slots] at X20 l20 y20 z20 st20 hQ20
  subst l20 y20 z20
  obtain ⟨r20, kA20, rfl, ge20, N20q, Kq20, Eq20, FM20, FD20, FS20, Ov20, Aq20⟩ := hQ20
  have N20 := Fr.app N7 N20q
  have ne_a1_r20 : a1 ≠ r20 := Nat.ne_of_lt (Nat.lt_of_lt_of_le (E_a1.wr W7).lt ge20)
  have ne_a2_r20 : a2 ≠ r20 := Nat.ne_of_lt (Nat.lt_of_lt_of_le (E_a2.wr W7).lt ge20)
  have g_r20 : n0 ≤ r20 := Nat.le_trans Z7 ge20
  have sz_r20 : h0.size ≤ r20 := Nat.le_trans K7.1 ge20
  have K20 : Keep h0 T20.heap [a1] := K7.trans Kq20 (fun x hx => by cases List.mem_singleton.mp hx; exact Or.inl (List.mem_of_getElem? (i := 0) rfl))
  have Z20 : n0 ≤ T20.heap.size := Nat.le_trans Z7 Kq20.1
  refine own_by (fun t k => st20.trans k) ?_
  have sg24 : ∀ t, own_S p e below T20 (mkF m 24 #[.val (.ref a1), .val (.ref a2)] [(.int (1 : Int32))]) t → own_S p e below T20 (mkF m 23 #[.val (.ref a1), .val (.ref a2)] []) t := by
    intro t k
    show own_S p e below T20 (mkF m 23 #[.val (.ref a1), .val (.ref a2)] []) _
    refine XS.iconst X20.here hx rfl (hb hby d7_23) ?_
    exact k
  refine own_by sg24 ?_
  obtain ⟨fs, hr, hrun, hended, hW, hsame⟩ := X20.leave (v := some (.int (1 : Int32))) (fun h => by rw [Bd.returns] at h; cases h)
  refine ⟨_, _, ?_, hrun, hended, _, _, rfl, ?_, ⟨_, rfl⟩, hW, hsame.mono (by decide) (by decide)⟩
  · exact retN X20 hx (t := .boolean) Bd.returns (by simp) (hb hby d7_24) hr
  · show Q7 Z a1 a2 wD cl h0 n0 _ T20.heap _
    exact ⟨_, _, rfl, sz_r20, N20, K20, Eq20, FM20, FD20, FS20, Aq20⟩
theorem d21_0 : decode jdk_49_method_1_code 0 = .ok (.aload_n 0, 1) := by decide +kernel
theorem d21_1 : decode jdk_49_method_1_code 1 = .ok (.aload_n 1, 1) := by decide +kernel
theorem d21_2 : decode jdk_49_method_1_code 2 = .ok (.putfield 1, 3) := by decide +kernel
theorem d21_5 : decode jdk_49_method_1_code 5 = .ok (.aload_n 0, 1) := by decide +kernel
theorem d21_6 : decode jdk_49_method_1_code 6 = .ok (.invokespecial 7, 3) := by decide +kernel
theorem d21_9 : decode jdk_49_method_1_code 9 = .ok (.aload_n 0, 1) := by decide +kernel
theorem d21_10 : decode jdk_49_method_1_code 10 = .ok (.iconst (-1), 1) := by decide +kernel
theorem d21_11 : decode jdk_49_method_1_code 11 = .ok (.putfield 13, 3) := by decide +kernel
theorem d21_14 : decode jdk_49_method_1_code 14 = .ok (.aload_n 0, 1) := by decide +kernel
theorem d21_15 : decode jdk_49_method_1_code 15 = .ok (.aload_n 0, 1) := by decide +kernel
theorem d21_16 : decode jdk_49_method_1_code 16 = .ok (.getfield 1, 3) := by decide +kernel
theorem d21_19 : decode jdk_49_method_1_code 19 = .ok (.getfield 17, 3) := by decide +kernel
theorem d21_22 : decode jdk_49_method_1_code 22 = .ok (.putfield 22, 3) := by decide +kernel
theorem d21_25 : decode jdk_49_method_1_code 25 = .ok (.return_, 1) := by decide +kernel
theorem pn_21 : plainFor (⟨"java/util/ArrayList$Itr", "<init>", "(Ljava/util/ArrayList;)V"⟩ : MethodName) = true := by first | exact plainFor_of_name (by first | (simp [plainName, overriddenIn]; done) | decide +kernel) | decide +kernel | exact Jvm.Free.JP.mathPlain rfl (by decide +kernel)
theorem ef_21 (m : MethodId) (a1 : Addr) (a2 : Addr) : entryFrame m #[(.ref a1), (.ref a2)] 2 = mkF m 0 #[.val (.ref a1), .val (.ref a2)] [] := by first | (simp [entryFrame, mkF, argsToLocals, Value.category]; done) | rfl
def Q21 (Z : State) (a1 : Addr) (a2 : Addr) (h0 : Heap) (n0 : Nat) (v : Option Value) (h : Heap) (L : List Loc) : Prop := v = none ∧ Fr n0 L ∧ Keep h0 h [a1] ∧ Exa Z h a1 "java/util/ArrayList$Itr" ∧ Fld Z h a1 "java/util/ArrayList$Itr" "this$0" "Ljava/util/ArrayList;" (.ref a2) ∧ Fld Z h a1 "java/util/ArrayList$Itr" "cursor" "I" (.int (0 : Int32)) ∧ Fld Z h a1 "java/util/ArrayList$Itr" "lastRet" "I" (.int (-1 : Int32)) ∧ Fld Z h a1 "java/util/ArrayList$Itr" "expectedModCount" "I" (.int (1 : Int32))
set_option maxRecDepth 65536 in
set_option maxHeartbeats 40000000 in
theorem rm21 (l : Launch) (Z : State) (a0 : Array Value) (hw : ∀ d ∈ tables_1, d.before a0 Z = true) (ws : List Jvm.Cond) (a1 : Addr) (a2 : Addr) (h0 : Heap) (n0 : Nat) (Z0 : n0 ≤ h0.size) (E_a1 : Exa Z h0 a1 "java/util/ArrayList$Itr") (F_this0 : Fld Z h0 a1 "java/util/ArrayList$Itr" "this$0" "Ljava/util/ArrayList;" .null) (F_cursor : Fld Z h0 a1 "java/util/ArrayList$Itr" "cursor" "I" (.int (0 : Int32))) (F_lastRet : Fld Z h0 a1 "java/util/ArrayList$Itr" "lastRet" "I" (.int (0 : Int32))) (F_expectedModCount : Fld Z h0 a1 "java/util/ArrayList$Itr" "expectedModCount" "I" (.int (0 : Int32))) (g_a1 : n0 ≤ a1) (F_m : Fld Z h0 a2 "java/util/AbstractList" "modCount" "I" (.int (1 : Int32))) (n_21 : a2 ≠ a1) :
    MetFree l (⟨"java/util/ArrayList$Itr", "<init>", "(Ljava/util/ArrayList;)V"⟩ : MethodName) (head1 (Jvm.Cond.code (⟨"java/util/ArrayList$Itr", "<init>", "(Ljava/util/ArrayList;)V"⟩ : MethodName) jdk_49_method_1_code 2 none :: ws) ({ frames := 1, cells := 0, slots := 0, locals := 12 } : Room)) (fun a U => a = #[(.ref a1), (.ref a2)] ∧ Z.Warmed39 U.vm ∧ U.heap = h0) (fun _ _ _ _ _ => True) (fun _ U o U' => ∃ v L, o = .returned v ∧ Q21 Z a1 a2 h0 n0 v U'.heap L ∧ FrameEnd U o U' L ({ frames := 1, cells := 0, slots := 0, locals := 12 } : Room).cells ({ frames := 1, cells := 0, slots := 0, locals := 12 } : Room).slots) := by
  refine MetFree.of_bodySF pn_21 hisR ?_
  intro p e s m args below meth c s₁ Bd hml0 hP hK
  obtain ⟨rfl, hZ, hh⟩ := hP
  have hx := Bd.exec
  have hby := Bd.bytes
  have hml : c.maxLocals = 2 := hml0
  have hown : s.vm.findClass "java/util/ArrayList$Itr" = some m.cls := findClass_of_methodNamed Bd.named
  have hnm := (name_of_methodNamed Bd.named Bd.method).1
  have X0 : Stand p l e ({ frames := 1, cells := 0, slots := 0, locals := 12 } : Room) s m #[(.ref a1), (.ref a2)] below meth c s₁ [] 0 0 := Stand.of_body Bd
  have e0 : s₁.heap = h0 := by rw [← hh, Bd.state]; rfl
  have N0 := Fr.nil n0
  refine own_at (castTop (ef_21 m a1 a2)) ?_
  have K0 := Keep.refl h0 [a1]
  have sg2 : ∀ t, own_S p e below s₁ (mkF m 2 #[.val (.ref a1), .val (.ref a2)] [(.ref a2), (.ref a1)]) t → own_S p e below s₁ (mkF m 0 #[.val (.ref a1), .val (.ref a2)] []) t := by
    intro t k
    show own_S p e below s₁ (mkF m 0 #[.val (.ref a1), .val (.ref a2)] []) _
    refine XS.aloadN X0.here hx rfl (hb hby d21_0) rfl rfl ?_
    show own_S p e below s₁ (mkF m 1 #[.val (.ref a1), .val (.ref a2)] [(.ref a1)]) _
    refine XS.aloadN X0.here hx rfl (hb hby d21_1) rfl rfl ?_
    exact k
  refine own_by sg2 ?_
  obtain ⟨T2, h2, X2, e2, W2, st2⟩ := putF X0 hx hZ hown (host := "") (Or.inl (hw _ (List.mem_of_getElem? (i := 134) rfl))) Via.refl e0 F_this0 E_a1 (Or.inr ⟨(hw _ (List.mem_of_getElem? (i := 135) rfl)), rfl, hnm⟩) (hw _ (List.mem_of_getElem? (i := 128) rfl)) (ty := (.object "java/util/ArrayList")) (by decide) rfl rfl (g := (mkF m 2 #[.val (.ref a1), .val (.ref a2)] [(.ref a2), (.ref a1)])) rfl rfl (hb hby d21_2)
  have Fw2 := F_this0.same W2
  have fc := (F_cursor.other W2 (Or.inr (slot_ne (Or.inl (hw _ (List.mem_of_getElem? (i := 152) rfl))) (Or.inr (hw _ (List.mem_of_getElem? (i := 135) rfl))) (by decide) (t := .int) (t' := (.object "java/util/ArrayList")) (by decide) (by decide))))
  have fc_2 := (F_lastRet.other W2 (Or.inr (slot_ne (Or.inl (hw _ (List.mem_of_getElem? (i := 138) rfl))) (Or.inr (hw _ (List.mem_of_getElem? (i := 135) rfl))) (by decide) (t := .int) (t' := (.object "java/util/ArrayList")) (by decide) (by decide))))
  have fc_3 := (F_expectedModCount.other W2 (Or.inr (slot_ne (Or.inl (hw _ (List.mem_of_getElem? (i := 141) rfl))) (Or.inr (hw _ (List.mem_of_getElem? (i := 135) rfl))) (by decide) (t := .int) (t' := (.object "java/util/ArrayList")) (by decide) (by decide))))
  have K2 : Keep h0 h2 [a1] := K0.wr W2 (Or.inl (List.mem_of_getElem? (i := 0) rfl))
  have Z2 : n0 ≤ h2.size := Nat.le_trans Z0 (Keep.of_wr W2).1
  have N2 := Fr.snoc X2 N0 g_a1
  refine own_by st2 ?_
  have sg6 : ∀ t, own_S p e below T2 (mkF m 6 #[.val (.ref a1), .val (.ref a2)] [(.ref a1)]) t → own_S p e below T2 (mkF m 5 #[.val (.ref a1), .val (.ref a2)] []) t := by
    intro t k
    show own_S p e below T2 (mkF m 5 #[.val (.ref a1), .val (.ref a2)] []) _
    refine XS.aloadN X2.here hx rfl (hb hby d21_5) rfl rfl ?_
    exact k
  refine own_by sg6 ?_
  obtain ⟨T6, X6, e6, st6⟩ := initO X2 hx hZ hown (hw _ (List.mem_of_getElem? (i := 136) rfl)) (hw _ (List.mem_of_getElem? (i := 12) rfl)) (hw _ (List.mem_of_getElem? (i := 13) rfl)) e2 (g := (mkF m 6 #[.val (.ref a1), .val (.ref a2)] [(.ref a1)])) rfl (by rw [hml]; rfl) rfl (hb hby d21_6) (by decide) (W := 0) (by show 2 * 0 + _ ≤ _; exact Nat.le_of_eq rfl) (by decide)
  refine own_by st6 ?_
  have sg11 : ∀ t, own_S p e below T6 (mkF m 11 #[.val (.ref a1), .val (.ref a2)] [(.int (-1 : Int32)), (.ref a1)]) t → own_S p e below T6 (mkF m 9 #[.val (.ref a1), .val (.ref a2)] []) t := by
    intro t k
    show own_S p e below T6 (mkF m 9 #[.val (.ref a1), .val (.ref a2)] []) _
    refine XS.aloadN X6.here hx rfl (hb hby d21_9) rfl rfl ?_
    show own_S p e below T6 (mkF m 10 #[.val (.ref a1), .val (.ref a2)] [(.ref a1)]) _
    refine XS.iconst X6.here hx rfl (hb hby d21_10) ?_
    exact k
  refine own_by sg11 ?_
  obtain ⟨T11, h11, X11, e11, W11, st11⟩ := putF X6 hx hZ hown (host := "") (Or.inl (hw _ (List.mem_of_getElem? (i := 137) rfl))) Via.refl e6 fc_2 (E_a1.wr W2) (Or.inl (hw _ (List.mem_of_getElem? (i := 138) rfl))) (hw _ (List.mem_of_getElem? (i := 128) rfl)) (ty := .int) (by decide) rfl rfl (g := (mkF m 11 #[.val (.ref a1), .val (.ref a2)] [(.int (-1 : Int32)), (.ref a1)])) rfl rfl (hb hby d21_11)
  have Fw11 := fc_2.same W11
  have fc_4 := (Fw2.other W11 (Or.inr (slot_ne (Or.inr (hw _ (List.mem_of_getElem? (i := 135) rfl))) (Or.inl (hw _ (List.mem_of_getElem? (i := 138) rfl))) (by decide) (t := (.object "java/util/ArrayList")) (t' := .int) (by decide) (by decide))))
  have fc_5 := (fc.other W11 (Or.inr (slot_ne (Or.inl (hw _ (List.mem_of_getElem? (i := 152) rfl))) (Or.inl (hw _ (List.mem_of_getElem? (i := 138) rfl))) (by decide) (t := .int) (t' := .int) (by decide) (by decide))))
  have fc_6 := (fc_3.other W11 (Or.inr (slot_ne (Or.inl (hw _ (List.mem_of_getElem? (i := 141) rfl))) (Or.inl (hw _ (List.mem_of_getElem? (i := 138) rfl))) (by decide) (t := .int) (t' := .int) (by decide) (by decide))))
  have K11 : Keep h0 h11 [a1] := K2.wr W11 (Or.inl (List.mem_of_getElem? (i := 0) rfl))
  have Z11 : n0 ≤ h11.size := Nat.le_trans Z2 (Keep.of_wr W11).1
  have N11 := Fr.snoc X11 N2 g_a1
  refine own_by st11 ?_
  have sg16 : ∀ t, own_S p e below T11 (mkF m 16 #[.val (.ref a1), .val (.ref a2)] [(.ref a1), (.ref a1)]) t → own_S p e below T11 (mkF m 14 #[.val (.ref a1), .val (.ref a2)] []) t := by
    intro t k
    show own_S p e below T11 (mkF m 14 #[.val (.ref a1), .val (.ref a2)] []) _
    refine XS.aloadN X11.here hx rfl (hb hby d21_14) rfl rfl ?_
    show own_S p e below T11 (mkF m 15 #[.val (.ref a1), .val (.ref a2)] [(.ref a1)]) _
    refine XS.aloadN X11.here hx rfl (hb hby d21_15) rfl rfl ?_
    exact k
  refine own_by sg16 ?_
  obtain ⟨T16, X16, e16, st16⟩ := getF X11 hx hZ hown (host := "") (Or.inl (hw _ (List.mem_of_getElem? (i := 134) rfl))) Via.refl e11 fc_4 (g := (mkF m 16 #[.val (.ref a1), .val (.ref a2)] [(.ref a1), (.ref a1)])) rfl rfl (hb hby d21_16)
  refine own_by st16 ?_
  obtain ⟨T19, X19, e19, st19⟩ := getF X16 hx hZ hown (host := "") (Or.inl (hw _ (List.mem_of_getElem? (i := 139) rfl))) (Via.of (hw _ (List.mem_of_getElem? (i := 50) rfl))) e16 ((F_m.other W2 (Or.inl n_21)).other W11 (Or.inl n_21)) (g := (mkF m 19 #[.val (.ref a1), .val (.ref a2)] [(.ref a2), (.ref a1)])) rfl rfl (hb hby d21_19)
  refine own_by st19 ?_
  obtain ⟨T22, h22, X22, e22, W22, st22⟩ := putF X19 hx hZ hown (host := "") (Or.inl (hw _ (List.mem_of_getElem? (i := 140) rfl))) Via.refl e19 fc_6 ((E_a1.wr W2).wr W11) (Or.inl (hw _ (List.mem_of_getElem? (i := 141) rfl))) (hw _ (List.mem_of_getElem? (i := 128) rfl)) (ty := .int) (by decide) rfl rfl (g := (mkF m 22 #[.val (.ref a1), .val (.ref a2)] [(.int (1 : Int32)), (.ref a1)])) rfl rfl (hb hby d21_22)
  have Fw22 := fc_6.same W22
  have fc_7 := (((F_m.other W2 (Or.inl n_21)).other W11 (Or.inl n_21)).other W22 (Or.inl n_21))
  have fc_8 := (fc_4.other W22 (Or.inr (slot_ne (Or.inr (hw _ (List.mem_of_getElem? (i := 135) rfl))) (Or.inl (hw _ (List.mem_of_getElem? (i := 141) rfl))) (by decide) (t := (.object "java/util/ArrayList")) (t' := .int) (by decide) (by decide))))
  have fc_9 := (fc_5.other W22 (Or.inr (slot_ne (Or.inl (hw _ (List.mem_of_getElem? (i := 152) rfl))) (Or.inl (hw _ (List.mem_of_getElem? (i := 141) rfl))) (by decide) (t := .int) (t' := .int) (by decide) (by decide))))
  have fc_10 := (Fw11.other W22 (Or.inr (slot_ne (Or.inl (hw _ (List.mem_of_getElem? (i := 138) rfl))) (Or.inl (hw _ (List.mem_of_getElem? (i := 141) rfl))) (by decide) (t := .int) (t' := .int) (by decide) (by decide))))
  have K22 : Keep h0 h22 [a1] := K11.wr W22 (Or.inl (List.mem_of_getElem? (i := 0) rfl))
  have Z22 : n0 ≤ h22.size := Nat.le_trans Z11 (Keep.of_wr W22).1
  have N22 := Fr.snoc X22 N11 g_a1
  refine own_by st22 ?_
  obtain ⟨fs, hr, hrun, hended, hW, hsame⟩ := X22.leave (v := none) (fun _ => rfl)
  refine ⟨_, _, ?_, hrun, hended, _, _, rfl, ?_, ⟨_, rfl⟩, hW, hsame.mono (by decide) (by decide)⟩
  · exact X22.returnOut hx Bd.returns (hb hby d21_25) hr
  · show Q21 Z a1 a2 h0 n0 _ T22.heap _
    rw [e22]
    exact ⟨rfl, N22, K22, (((E_a1.wr W2).wr W11).wr W22), fc_8, fc_9, fc_10, Fw22⟩
theorem d20_0 : decode jdk_38_method_55_code 0 = .ok (.new 267, 3) := by decide +kernel
theorem d20_3 : decode jdk_38_method_55_code 3 = .ok (.dup, 1) := by decide +kernel
theorem d20_4 : decode jdk_38_method_55_code 4 = .ok (.aload_n 0, 1) := by decide +kernel
theorem d20_5 : decode jdk_38_method_55_code 5 = .ok (.invokespecial 269, 3) := by decide +kernel
theorem d20_8 : decode jdk_38_method_55_code 8 = .ok (.areturn, 1) := by decide +kernel
theorem pn_20 : plainFor (⟨"java/util/ArrayList", "iterator", "()Ljava/util/Iterator;"⟩ : MethodName) = true := by first | exact plainFor_of_name (by first | (simp [plainName, overriddenIn]; done) | decide +kernel) | decide +kernel | exact Jvm.Free.JP.mathPlain rfl (by decide +kernel)
theorem pd_20_0 : parseMethodDescriptor "(Ljava/util/ArrayList;)V" = some ⟨[(.object "java/util/ArrayList")], none⟩ := by decide +kernel
theorem ef_20 (m : MethodId) (a1 : Addr) : entryFrame m #[(.ref a1)] 1 = mkF m 0 #[.val (.ref a1)] [] := by first | (simp [entryFrame, mkF, argsToLocals, Value.category]; done) | rfl
def Q20 (Z : State) (a1 : Addr) (h0 : Heap) (n0 : Nat) (v : Option Value) (h : Heap) (L : List Loc) : Prop := ∃ r, v = some (.ref r) ∧ h0.size ≤ r ∧ Fr n0 L ∧ Keep h0 h [] ∧ Exa Z h r "java/util/ArrayList$Itr" ∧ Fld Z h r "java/util/ArrayList$Itr" "this$0" "Ljava/util/ArrayList;" (.ref a1) ∧ Fld Z h r "java/util/ArrayList$Itr" "cursor" "I" (.int (0 : Int32)) ∧ Fld Z h r "java/util/ArrayList$Itr" "lastRet" "I" (.int (-1 : Int32)) ∧ Fld Z h r "java/util/ArrayList$Itr" "expectedModCount" "I" (.int (1 : Int32))
set_option maxRecDepth 65536 in
set_option maxHeartbeats 40000000 in
theorem rm20 (l : Launch) (Z : State) (a0 : Array Value) (hw : ∀ d ∈ tables_1, d.before a0 Z = true) (ws : List Jvm.Cond) (a1 : Addr) (h0 : Heap) (n0 : Nat) (Z0 : n0 ≤ h0.size) (F_m : Fld Z h0 a1 "java/util/AbstractList" "modCount" "I" (.int (1 : Int32))) :
    MetFree l (⟨"java/util/ArrayList", "iterator", "()Ljava/util/Iterator;"⟩ : MethodName) (head1 (Jvm.Cond.code (⟨"java/util/ArrayList", "iterator", "()Ljava/util/Iterator;"⟩ : MethodName) jdk_38_method_55_code 1 (some (.object "java/util/Iterator")) :: ws) ({ frames := 2, cells := 1, slots := 4, locals := 26 } : Room)) (fun a U => a = #[(.ref a1)] ∧ Z.Warmed39 U.vm ∧ U.heap = h0) (fun _ _ _ _ _ => True) (fun _ U o U' => ∃ v L, o = .returned v ∧ Q20 Z a1 h0 n0 v U'.heap L ∧ FrameEnd U o U' L ({ frames := 2, cells := 1, slots := 4, locals := 26 } : Room).cells ({ frames := 2, cells := 1, slots := 4, locals := 26 } : Room).slots) := by
  refine MetFree.of_bodySF pn_20 hisR ?_
  intro p e s m args below meth c s₁ Bd hml0 hP hK
  obtain ⟨rfl, hZ, hh⟩ := hP
  have hx := Bd.exec
  have hby := Bd.bytes
  have hml : c.maxLocals = 1 := hml0
  have hown : s.vm.findClass "java/util/ArrayList" = some m.cls := findClass_of_methodNamed Bd.named
  have hnm := (name_of_methodNamed Bd.named Bd.method).1
  have X0 : Stand p l e ({ frames := 2, cells := 1, slots := 4, locals := 26 } : Room) s m #[(.ref a1)] below meth c s₁ [] 0 0 := Stand.of_body Bd
  have e0 : s₁.heap = h0 := by rw [← hh, Bd.state]; rfl
  have N0 := Fr.nil n0
  refine own_at (castTop (ef_20 m a1)) ?_
  have K0 := Keep.refl h0 []
  obtain ⟨T00, h00, X00, e00, E00, A00, D00, -, st00⟩ := newO X0 hx hZ hown (hw _ (List.mem_of_getElem? (i := 127) rfl)) (hw _ (List.mem_of_getElem? (i := 128) rfl)) (hw _ (List.mem_of_getElem? (i := 129) rfl)) e0 (g := (mkF m 0 #[.val (.ref a1)] [])) rfl (hb hby d20_0) (by decide) (by decide)
  obtain ⟨b00, g00⟩ : ∃ z, z = h0.size := ⟨_, rfl⟩
  rw [← g00] at A00 D00 st00
  have ne_a1_b00 : a1 ≠ b00 := Nat.ne_of_lt (Nat.lt_of_lt_of_le F_m.lt (Nat.le_of_eq g00.symm))
  have g_b00 : n0 ≤ b00 := Nat.le_trans Z0 (Nat.le_of_eq g00.symm)
  have sz_b00 : h0.size ≤ b00 := Nat.le_trans K0.1 (Nat.le_of_eq g00.symm)
  have K00 := K0.ext E00
  have Z00 : n0 ≤ h00.size := Nat.le_trans Z0 E00.1
  have F_this_0_b00 : Fld Z h00 b00 "java/util/ArrayList$Itr" "this$0" "Ljava/util/ArrayList;" .null := D00 (Or.inr (hw _ (List.mem_of_getElem? (i := 135) rfl))) (ty := (.object "java/util/ArrayList")) (by decide)
  have F_lastRet_b00 : Fld Z h00 b00 "java/util/ArrayList$Itr" "lastRet" "I" (.int (0 : Int32)) := D00 (Or.inl (hw _ (List.mem_of_getElem? (i := 138) rfl))) (ty := .int) (by decide)
  have F_expectedModCount_b00 : Fld Z h00 b00 "java/util/ArrayList$Itr" "expectedModCount" "I" (.int (0 : Int32)) := D00 (Or.inl (hw _ (List.mem_of_getElem? (i := 141) rfl))) (ty := .int) (by decide)
  have F_cursor_b00 : Fld Z h00 b00 "java/util/ArrayList$Itr" "cursor" "I" (.int (0 : Int32)) := D00 (Or.inl (hw _ (List.mem_of_getElem? (i := 152) rfl))) (ty := .int) (by decide)
  refine own_by st00 ?_
  have sg5 : ∀ t, own_S p e below T00 (mkF m 5 #[.val (.ref a1)] [(.ref a1), (.ref b00), (.ref b00)]) t → own_S p e below T00 (mkF m 3 #[.val (.ref a1)] [(.ref b00)]) t := by
    intro t k
    show own_S p e below T00 (mkF m 3 #[.val (.ref a1)] [(.ref b00)]) _
    refine XS.dup X00.here hx rfl (hb hby d20_3) rfl rfl ?_
    show own_S p e below T00 (mkF m 4 #[.val (.ref a1)] [(.ref b00), (.ref b00)]) _
    refine XS.aloadN X00.here hx rfl (hb hby d20_4) rfl rfl ?_
    exact k
  refine own_by sg5 ?_
  obtain ⟨_, _, ⟨T5, L5, k5, n5⟩, -, X5, ⟨Lc5, hQ5, l5, y5, z5⟩, st5⟩ := X00.specialBack hx (y := (⟨"java/util/ArrayList$Itr", "<init>", "(Ljava/util/ArrayList;)V"⟩ : MethodName)) rfl hown (mvT hZ (hw _ (List.mem_of_getElem? (i := 130) rfl))) (mvT hZ (hw _ (List.mem_of_getElem? (i := 131) rfl))) (mvT hZ (hw _ (List.mem_of_getElem? (i := 133) rfl))) (by decide) (backOf (W := 1) (rm21 l Z a0 hw [] b00 a1 h00 n0 Z00 A00 F_this_0_b00 F_cursor_b00 F_lastRet_b00 F_expectedModCount_b00 g_b00 (F_m.ext E00) ne_a1_b00) hZ (hw _ (List.mem_of_getElem? (i := 133) rfl)) (hw _ (List.mem_of_getElem? (i := 129) rfl)) (by decide) (by decide)) (g := (mkF m 5 #[.val (.ref a1)] [(.ref a1), (.ref b00), (.ref b00)])) rfl (by rw [hml]; rfl) (Steps.refl _) (a := b00) (argsL := [(.ref a1)]) (rest := [(.ref b00)]) (lenOf pd_20_0 rfl) rfl (by show 2 * 0 + _ ≤ _; exact Nat.le_of_eq rfl) (hb hby d20_5) (fun _ _ => ⟨rfl, e00, (by decide : 1 + 0 ≤ _), (by decide : 4 + 0 ≤ _)⟩)
  dsimp only [Pt.U, Pt.locs, Pt.cells, Pt.slots] at X5 l5 y5 z5 st5 hQ5
  subst l5 y5 z5
  obtain ⟨rfl, N5q, Kq5, Eq5, Gthis05, Gcursor5, GlastRet5, GexpectedModCount5⟩ := hQ5
  have N5 := Fr.app N0 N5q
  have fc := ((F_m.ext E00).keep Kq5 (fun h => ne_a1_b00 (List.mem_singleton.mp h)))
  have K5 : Keep h0 T5.heap [] := K00.trans Kq5 (fun x hx => by cases List.mem_singleton.mp hx; exact Or.inr sz_b00)
  have Z5 : n0 ≤ T5.heap.size := Nat.le_trans Z00 Kq5.1
  refine own_by (fun t k => st5.trans k) ?_
  obtain ⟨fs, hr, hrun, hended, hW, hsame⟩ := X5.leave (v := some (.ref b00)) (fun h => by rw [Bd.returns] at h; cases h)
  refine ⟨_, _, ?_, hrun, hended, _, _, rfl, ?_, ⟨_, rfl⟩, hW, hsame.mono (by decide) (by decide)⟩
  · show Steps p.tables e below (T5.setTop (mkF m 8 #[.val (.ref a1)] [(.ref b00)])) _
    jvm_step X5.here [X5.here.top, hx, (hb hby d20_8), X5.method', Bd.returns, Value.isRef, FieldType.isReference]
    first | (intro acts; rw [hr _ acts rfl rfl rfl]) | rw [hr _ _ rfl rfl rfl]
    exact Steps.refl _
  · show Q20 Z a1 h0 n0 _ T5.heap _
    exact ⟨_, rfl, sz_b00, N5, K5, Eq5, Gthis05, Gcursor5, GlastRet5, GexpectedModCount5⟩
theorem d22_0 : decode jdk_49_method_2_code 0 = .ok (.aload_n 0, 1) := by decide +kernel
theorem d22_1 : decode jdk_49_method_2_code 1 = .ok (.getfield 25, 3) := by decide +kernel
theorem d22_4 : decode jdk_49_method_2_code 4 = .ok (.aload_n 0, 1) := by decide +kernel
theorem d22_5 : decode jdk_49_method_2_code 5 = .ok (.getfield 1, 3) := by decide +kernel
theorem d22_8 : decode jdk_49_method_2_code 8 = .ok (.getfield 28, 3) := by decide +kernel
theorem d22_11 : decode jdk_49_method_2_code 11 = .ok (.if_icmp .eq 7, 3) := by decide +kernel
theorem d22_14 : decode jdk_49_method_2_code 14 = .ok (.iconst 1, 1) := by decide +kernel
theorem d22_15 : decode jdk_49_method_2_code 15 = .ok (.goto 4, 3) := by decide +kernel
theorem d22_19 : decode jdk_49_method_2_code 19 = .ok (.ireturn, 1) := by decide +kernel
theorem pn_22z : plainFor (⟨"java/util/ArrayList$Itr", "hasNext", "()Z"⟩ : MethodName) = true := by first | exact plainFor_of_name (by first | (simp [plainName, overriddenIn]; done) | decide +kernel) | decide +kernel | exact Jvm.Free.JP.mathPlain rfl (by decide +kernel)
theorem ef_22z (m : MethodId) (a1 : Addr) : entryFrame m #[(.ref a1)] 1 = mkF m 0 #[.val (.ref a1)] [] := by first | (simp [entryFrame, mkF, argsToLocals, Value.category]; done) | rfl
def Q22z (Z : State) (a1 : Addr) (a2 : Addr) (h0 : Heap) (n0 : Nat) (v : Option Value) (h : Heap) (L : List Loc) : Prop := v = some (.int 1) ∧ Fr n0 L ∧ h = h0
set_option maxRecDepth 65536 in
set_option maxHeartbeats 40000000 in
theorem rm22z (l : Launch) (Z : State) (a0 : Array Value) (hw : ∀ d ∈ tables_1, d.before a0 Z = true) (ws : List Jvm.Cond) (a1 : Addr) (a2 : Addr) (h0 : Heap) (n0 : Nat) (Z0 : n0 ≤ h0.size) (F_c : Fld Z h0 a1 "java/util/ArrayList$Itr" "cursor" "I" (.int (0 : Int32))) (F_t : Fld Z h0 a1 "java/util/ArrayList$Itr" "this$0" "Ljava/util/ArrayList;" (.ref a2)) (F_s : Fld Z h0 a2 "java/util/ArrayList" "size" "I" (.int (1 : Int32))) :
    MetFree l (⟨"java/util/ArrayList$Itr", "hasNext", "()Z"⟩ : MethodName) (head1 (Jvm.Cond.code (⟨"java/util/ArrayList$Itr", "hasNext", "()Z"⟩ : MethodName) jdk_49_method_2_code 1 (some .boolean) :: ws) ({ frames := 0, cells := 0, slots := 0, locals := 0 } : Room)) (fun a U => a = #[(.ref a1)] ∧ Z.Warmed39 U.vm ∧ U.heap = h0) (fun _ _ _ _ _ => True) (fun _ U o U' => ∃ v L, o = .returned v ∧ Q22z Z a1 a2 h0 n0 v U'.heap L ∧ FrameEnd U o U' L ({ frames := 0, cells := 0, slots := 0, locals := 0 } : Room).cells ({ frames := 0, cells := 0, slots := 0, locals := 0 } : Room).slots) := by
  refine MetFree.of_bodySF pn_22z hisR ?_
  intro p e s m args below meth c s₁ Bd hml0 hP hK
  obtain ⟨rfl, hZ, hh⟩ := hP
  have hx := Bd.exec
  have hby := Bd.bytes
  have hml : c.maxLocals = 1 := hml0
  have hown : s.vm.findClass "java/util/ArrayList$Itr" = some m.cls := findClass_of_methodNamed Bd.named
  have hnm := (name_of_methodNamed Bd.named Bd.method).1
  have X0 : Stand p l e ({ frames := 0, cells := 0, slots := 0, locals := 0 } : Room) s m #[(.ref a1)] below meth c s₁ [] 0 0 := Stand.of_body Bd
  have e0 : s₁.heap = h0 := by rw [← hh, Bd.state]; rfl
  have N0 := Fr.nil n0
  refine own_at (castTop (ef_22z m a1)) ?_
  have sg1 : ∀ t, own_S p e below s₁ (mkF m 1 #[.val (.ref a1)] [(.ref a1)]) t → own_S p e below s₁ (mkF m 0 #[.val (.ref a1)] []) t := by
    intro t k
    show own_S p e below s₁ (mkF m 0 #[.val (.ref a1)] []) _
    refine XS.aloadN X0.here hx rfl (hb hby d22_0) rfl rfl ?_
    exact k
  refine own_by sg1 ?_
  obtain ⟨T1, X1, e1, st1⟩ := getF X0 hx hZ hown (host := "") (Or.inl (hw _ (List.mem_of_getElem? (i := 151) rfl))) Via.refl e0 F_c (g := (mkF m 1 #[.val (.ref a1)] [(.ref a1)])) rfl rfl (hb hby d22_1)
  refine own_by st1 ?_
  have sg5 : ∀ t, own_S p e below T1 (mkF m 5 #[.val (.ref a1)] [(.ref a1), (.int (0 : Int32))]) t → own_S p e below T1 (mkF m 4 #[.val (.ref a1)] [(.int (0 : Int32))]) t := by
    intro t k
    show own_S p e below T1 (mkF m 4 #[.val (.ref a1)] [(.int (0 : Int32))]) _
    refine XS.aloadN X1.here hx rfl (hb hby d22_4) rfl rfl ?_
    exact k
  refine own_by sg5 ?_
  obtain ⟨T5, X5, e5, st5⟩ := getF X1 hx hZ hown (host := "") (Or.inl (hw _ (List.mem_of_getElem? (i := 134) rfl))) Via.refl e1 F_t (g := (mkF m 5 #[.val (.ref a1)] [(.ref a1), (.int (0 : Int32))])) rfl rfl (hb hby d22_5)
  refine own_by st5 ?_
  obtain ⟨T8, X8, e8, st8⟩ := getF X5 hx hZ hown (Or.inr (hw _ (List.mem_of_getElem? (i := 153) rfl))) Via.refl e5 F_s (g := (mkF m 8 #[.val (.ref a1)] [(.ref a2), (.int (0 : Int32))])) rfl rfl (hb hby d22_8)
  refine own_by st8 ?_
  have sg19 : ∀ t, own_S p e below T8 (mkF m 19 #[.val (.ref a1)] [(.int (1 : Int32))]) t → own_S p e below T8 (mkF m 11 #[.val (.ref a1)] [(.int (1 : Int32)), (.int (0 : Int32))]) t := by
    intro t k
    show own_S p e below T8 (mkF m 11 #[.val (.ref a1)] [(.int (1 : Int32)), (.int (0 : Int32))]) _
    refine XS.icmpNo X8.here hx rfl (hb hby d22_11) rfl (feq (by decide : ¬ ((0 : Int32) = (1 : Int32)))).1 ?_
    show own_S p e below T8 (mkF m 14 #[.val (.ref a1)] []) _
    refine XS.iconst X8.here hx rfl (hb hby d22_14) ?_
    show own_S p e below T8 (mkF m 15 #[.val (.ref a1)] [(.int (1 : Int32))]) _
    refine XS.goto X8.here hx rfl (pc0 := 15) (pc' := 19) rfl (hb hby d22_15) (by decide) (by decide) ?_
    exact k
  refine own_by sg19 ?_
  obtain ⟨fs, hr, hrun, hended, hW, hsame⟩ := X8.leave (v := some (.int (1 : Int32))) (fun h => by rw [Bd.returns] at h; cases h)
  refine ⟨_, _, ?_, hrun, hended, _, _, rfl, ?_, ⟨_, rfl⟩, hW, hsame.mono (by decide) (by decide)⟩
  · exact retN X8 hx (t := .boolean) Bd.returns (by simp) (hb hby d22_19) hr
  · show Q22z Z a1 a2 h0 n0 _ T8.heap _
    rw [e8]
    exact ⟨rfl, N0, rfl⟩
theorem d22_18 : decode jdk_49_method_2_code 18 = .ok (.iconst 0, 1) := by decide +kernel
theorem pn_22o : plainFor (⟨"java/util/ArrayList$Itr", "hasNext", "()Z"⟩ : MethodName) = true := by first | exact plainFor_of_name (by first | (simp [plainName, overriddenIn]; done) | decide +kernel) | decide +kernel | exact Jvm.Free.JP.mathPlain rfl (by decide +kernel)
theorem ef_22o (m : MethodId) (a1 : Addr) : entryFrame m #[(.ref a1)] 1 = mkF m 0 #[.val (.ref a1)] [] := by first | (simp [entryFrame, mkF, argsToLocals, Value.category]; done) | rfl
def Q22o (Z : State) (a1 : Addr) (a2 : Addr) (h0 : Heap) (n0 : Nat) (v : Option Value) (h : Heap) (L : List Loc) : Prop := v = some (.int 0) ∧ Fr n0 L ∧ h = h0
set_option maxRecDepth 65536 in
set_option maxHeartbeats 40000000 in
theorem rm22o (l : Launch) (Z : State) (a0 : Array Value) (hw : ∀ d ∈ tables_1, d.before a0 Z = true) (ws : List Jvm.Cond) (a1 : Addr) (a2 : Addr) (h0 : Heap) (n0 : Nat) (Z0 : n0 ≤ h0.size) (F_c : Fld Z h0 a1 "java/util/ArrayList$Itr" "cursor" "I" (.int (1 : Int32))) (F_t : Fld Z h0 a1 "java/util/ArrayList$Itr" "this$0" "Ljava/util/ArrayList;" (.ref a2)) (F_s : Fld Z h0 a2 "java/util/ArrayList" "size" "I" (.int (1 : Int32))) :
    MetFree l (⟨"java/util/ArrayList$Itr", "hasNext", "()Z"⟩ : MethodName) (head1 (Jvm.Cond.code (⟨"java/util/ArrayList$Itr", "hasNext", "()Z"⟩ : MethodName) jdk_49_method_2_code 1 (some .boolean) :: ws) ({ frames := 0, cells := 0, slots := 0, locals := 0 } : Room)) (fun a U => a = #[(.ref a1)] ∧ Z.Warmed39 U.vm ∧ U.heap = h0) (fun _ _ _ _ _ => True) (fun _ U o U' => ∃ v L, o = .returned v ∧ Q22o Z a1 a2 h0 n0 v U'.heap L ∧ FrameEnd U o U' L ({ frames := 0, cells := 0, slots := 0, locals := 0 } : Room).cells ({ frames := 0, cells := 0, slots := 0, locals := 0 } : Room).slots) := by
  refine MetFree.of_bodySF pn_22o hisR ?_
  intro p e s m args below meth c s₁ Bd hml0 hP hK
  obtain ⟨rfl, hZ, hh⟩ := hP
  have hx := Bd.exec
  have hby := Bd.bytes
  have hml : c.maxLocals = 1 := hml0
  have hown : s.vm.findClass "java/util/ArrayList$Itr" = some m.cls := findClass_of_methodNamed Bd.named
  have hnm := (name_of_methodNamed Bd.named Bd.method).1
  have X0 : Stand p l e ({ frames := 0, cells := 0, slots := 0, locals := 0 } : Room) s m #[(.ref a1)] below meth c s₁ [] 0 0 := Stand.of_body Bd
  have e0 : s₁.heap = h0 := by rw [← hh, Bd.state]; rfl
  have N0 := Fr.nil n0
  refine own_at (castTop (ef_22o m a1)) ?_
  have sg1 : ∀ t, own_S p e below s₁ (mkF m 1 #[.val (.ref a1)] [(.ref a1)]) t → own_S p e below s₁ (mkF m 0 #[.val (.ref a1)] []) t := by
    intro t k
    show own_S p e below s₁ (mkF m 0 #[.val (.ref a1)] []) _
    refine XS.aloadN X0.here hx rfl (hb hby d22_0) rfl rfl ?_
    exact k
  refine own_by sg1 ?_
  obtain ⟨T1, X1, e1, st1⟩ := getF X0 hx hZ hown (host := "") (Or.inl (hw _ (List.mem_of_getElem? (i := 151) rfl))) Via.refl e0 F_c (g := (mkF m 1 #[.val (.ref a1)] [(.ref a1)])) rfl rfl (hb hby d22_1)
  refine own_by st1 ?_
  have sg5 : ∀ t, own_S p e below T1 (mkF m 5 #[.val (.ref a1)] [(.ref a1), (.int (1 : Int32))]) t → own_S p e below T1 (mkF m 4 #[.val (.ref a1)] [(.int (1 : Int32))]) t := by
    intro t k
    show own_S p e below T1 (mkF m 4 #[.val (.ref a1)] [(.int (1 : Int32))]) _
    refine XS.aloadN X1.here hx rfl (hb hby d22_4) rfl rfl ?_
    exact k
  refine own_by sg5 ?_
  obtain ⟨T5, X5, e5, st5⟩ := getF X1 hx hZ hown (host := "") (Or.inl (hw _ (List.mem_of_getElem? (i := 134) rfl))) Via.refl e1 F_t (g := (mkF m 5 #[.val (.ref a1)] [(.ref a1), (.int (1 : Int32))])) rfl rfl (hb hby d22_5)
  refine own_by st5 ?_
  obtain ⟨T8, X8, e8, st8⟩ := getF X5 hx hZ hown (Or.inr (hw _ (List.mem_of_getElem? (i := 153) rfl))) Via.refl e5 F_s (g := (mkF m 8 #[.val (.ref a1)] [(.ref a2), (.int (1 : Int32))])) rfl rfl (hb hby d22_8)
  refine own_by st8 ?_
  have sg19 : ∀ t, own_S p e below T8 (mkF m 19 #[.val (.ref a1)] [(.int (0 : Int32))]) t → own_S p e below T8 (mkF m 11 #[.val (.ref a1)] [(.int (1 : Int32)), (.int (1 : Int32))]) t := by
    intro t k
    show own_S p e below T8 (mkF m 11 #[.val (.ref a1)] [(.int (1 : Int32)), (.int (1 : Int32))]) _
    refine XS.icmpYes X8.here hx rfl (pc0 := 11) (pc' := 18) rfl (hb hby d22_11) rfl (teq (by decide : (1 : Int32) = (1 : Int32))).1 (by decide) (by decide) ?_
    show own_S p e below T8 (mkF m 18 #[.val (.ref a1)] []) _
    refine XS.iconst X8.here hx rfl (hb hby d22_18) ?_
    exact k
  refine own_by sg19 ?_
  obtain ⟨fs, hr, hrun, hended, hW, hsame⟩ := X8.leave (v := some (.int (0 : Int32))) (fun h => by rw [Bd.returns] at h; cases h)
  refine ⟨_, _, ?_, hrun, hended, _, _, rfl, ?_, ⟨_, rfl⟩, hW, hsame.mono (by decide) (by decide)⟩
  · exact retN X8 hx (t := .boolean) Bd.returns (by simp) (hb hby d22_19) hr
  · show Q22o Z a1 a2 h0 n0 _ T8.heap _
    rw [e8]
    exact ⟨rfl, N0, rfl⟩
theorem d24_0 : decode jdk_49_method_6_code 0 = .ok (.aload_n 0, 1) := by decide +kernel
theorem d24_1 : decode jdk_49_method_6_code 1 = .ok (.getfield 1, 3) := by decide +kernel
theorem d24_4 : decode jdk_49_method_6_code 4 = .ok (.getfield 17, 3) := by decide +kernel
theorem d24_7 : decode jdk_49_method_6_code 7 = .ok (.aload_n 0, 1) := by decide +kernel
theorem d24_8 : decode jdk_49_method_6_code 8 = .ok (.getfield 22, 3) := by decide +kernel
theorem d24_11 : decode jdk_49_method_6_code 11 = .ok (.if_icmp .eq 11, 3) := by decide +kernel
theorem d24_22 : decode jdk_49_method_6_code 22 = .ok (.return_, 1) := by decide +kernel
theorem pn_24 : plainFor (⟨"java/util/ArrayList$Itr", "checkForComodification", "()V"⟩ : MethodName) = true := by first | exact plainFor_of_name (by first | (simp [plainName, overriddenIn]; done) | decide +kernel) | decide +kernel | exact Jvm.Free.JP.mathPlain rfl (by decide +kernel)
theorem ef_24 (m : MethodId) (a1 : Addr) : entryFrame m #[(.ref a1)] 1 = mkF m 0 #[.val (.ref a1)] [] := by first | (simp [entryFrame, mkF, argsToLocals, Value.category]; done) | rfl
def Q24 (Z : State) (a1 : Addr) (a2 : Addr) (h0 : Heap) (n0 : Nat) (v : Option Value) (h : Heap) (L : List Loc) : Prop := v = none ∧ Fr n0 L ∧ h = h0
set_option maxRecDepth 65536 in
set_option maxHeartbeats 40000000 in
theorem rm24 (l : Launch) (Z : State) (a0 : Array Value) (hw : ∀ d ∈ tables_1, d.before a0 Z = true) (ws : List Jvm.Cond) (a1 : Addr) (a2 : Addr) (h0 : Heap) (n0 : Nat) (Z0 : n0 ≤ h0.size) (F_t : Fld Z h0 a1 "java/util/ArrayList$Itr" "this$0" "Ljava/util/ArrayList;" (.ref a2)) (F_x : Fld Z h0 a1 "java/util/ArrayList$Itr" "expectedModCount" "I" (.int (1 : Int32))) (F_m : Fld Z h0 a2 "java/util/AbstractList" "modCount" "I" (.int (1 : Int32))) :
    MetFree l (⟨"java/util/ArrayList$Itr", "checkForComodification", "()V"⟩ : MethodName) (head1 (Jvm.Cond.code (⟨"java/util/ArrayList$Itr", "checkForComodification", "()V"⟩ : MethodName) jdk_49_method_6_code 1 none :: ws) ({ frames := 0, cells := 0, slots := 0, locals := 0 } : Room)) (fun a U => a = #[(.ref a1)] ∧ Z.Warmed39 U.vm ∧ U.heap = h0) (fun _ _ _ _ _ => True) (fun _ U o U' => ∃ v L, o = .returned v ∧ Q24 Z a1 a2 h0 n0 v U'.heap L ∧ FrameEnd U o U' L ({ frames := 0, cells := 0, slots := 0, locals := 0 } : Room).cells ({ frames := 0, cells := 0, slots := 0, locals := 0 } : Room).slots) := by
  refine MetFree.of_bodySF pn_24 hisR ?_
  intro p e s m args below meth c s₁ Bd hml0 hP hK
  obtain ⟨rfl, hZ, hh⟩ := hP
  have hx := Bd.exec
  have hby := Bd.bytes
  have hml : c.maxLocals = 1 := hml0
  have hown : s.vm.findClass "java/util/ArrayList$Itr" = some m.cls := findClass_of_methodNamed Bd.named
  have hnm := (name_of_methodNamed Bd.named Bd.method).1
  have X0 : Stand p l e ({ frames := 0, cells := 0, slots := 0, locals := 0 } : Room) s m #[(.ref a1)] below meth c s₁ [] 0 0 := Stand.of_body Bd
  have e0 : s₁.heap = h0 := by rw [← hh, Bd.state]; rfl
  have N0 := Fr.nil n0
  refine own_at (castTop (ef_24 m a1)) ?_
  have sg1 : ∀ t, own_S p e below s₁ (mkF m 1 #[.val (.ref a1)] [(.ref a1)]) t → own_S p e below s₁ (mkF m 0 #[.val (.ref a1)] []) t := by
    intro t k
    show own_S p e below s₁ (mkF m 0 #[.val (.ref a1)] []) _
    refine XS.aloadN X0.here hx rfl (hb hby d24_0) rfl rfl ?_
    exact k
  refine own_by sg1 ?_
  obtain ⟨T1, X1, e1, st1⟩ := getF X0 hx hZ hown (host := "") (Or.inl (hw _ (List.mem_of_getElem? (i := 134) rfl))) Via.refl e0 F_t (g := (mkF m 1 #[.val (.ref a1)] [(.ref a1)])) rfl rfl (hb hby d24_1)
  refine own_by st1 ?_
  obtain ⟨T4, X4, e4, st4⟩ := getF X1 hx hZ hown (host := "") (Or.inl (hw _ (List.mem_of_getElem? (i := 139) rfl))) (Via.of (hw _ (List.mem_of_getElem? (i := 50) rfl))) e1 F_m (g := (mkF m 4 #[.val (.ref a1)] [(.ref a2)])) rfl rfl (hb hby d24_4)
  refine own_by st4 ?_
  have sg8 : ∀ t, own_S p e below T4 (mkF m 8 #[.val (.ref a1)] [(.ref a1), (.int (1 : Int32))]) t → own_S p e below T4 (mkF m 7 #[.val (.ref a1)] [(.int (1 : Int32))]) t := by
    intro t k
    show own_S p e below T4 (mkF m 7 #[.val (.ref a1)] [(.int (1 : Int32))]) _
    refine XS.aloadN X4.here hx rfl (hb hby d24_7) rfl rfl ?_
    exact k
  refine own_by sg8 ?_
  obtain ⟨T8, X8, e8, st8⟩ := getF X4 hx hZ hown (host := "") (Or.inl (hw _ (List.mem_of_getElem? (i := 140) rfl))) Via.refl e4 F_x (g := (mkF m 8 #[.val (.ref a1)] [(.ref a1), (.int (1 : Int32))])) rfl rfl (hb hby d24_8)
  refine own_by st8 ?_
  have sg22 : ∀ t, own_S p e below T8 (mkF m 22 #[.val (.ref a1)] []) t → own_S p e below T8 (mkF m 11 #[.val (.ref a1)] [(.int (1 : Int32)), (.int (1 : Int32))]) t := by
    intro t k
    show own_S p e below T8 (mkF m 11 #[.val (.ref a1)] [(.int (1 : Int32)), (.int (1 : Int32))]) _
    refine XS.icmpYes X8.here hx rfl (pc0 := 11) (pc' := 22) rfl (hb hby d24_11) rfl (teq (by decide : (1 : Int32) = (1 : Int32))).1 (by decide) (by decide) ?_
    exact k
  refine own_by sg22 ?_
  obtain ⟨fs, hr, hrun, hended, hW, hsame⟩ := X8.leave (v := none) (fun _ => rfl)
  refine ⟨_, _, ?_, hrun, hended, _, _, rfl, ?_, ⟨_, rfl⟩, hW, hsame.mono (by decide) (by decide)⟩
  · exact X8.returnOut hx Bd.returns (hb hby d24_22) hr
  · show Q24 Z a1 a2 h0 n0 _ T8.heap _
    rw [e8]
    exact ⟨rfl, N0, rfl⟩
theorem d23_0 : decode jdk_49_method_3_code 0 = .ok (.aload_n 0, 1) := by decide +kernel
theorem d23_1 : decode jdk_49_method_3_code 1 = .ok (.invokevirtual 31, 3) := by decide +kernel
theorem d23_4 : decode jdk_49_method_3_code 4 = .ok (.aload_n 0, 1) := by decide +kernel
theorem d23_5 : decode jdk_49_method_3_code 5 = .ok (.getfield 25, 3) := by decide +kernel
theorem d23_8 : decode jdk_49_method_3_code 8 = .ok (.istore_n 1, 1) := by decide +kernel
theorem d23_9 : decode jdk_49_method_3_code 9 = .ok (.iload_n 1, 1) := by decide +kernel
theorem d23_10 : decode jdk_49_method_3_code 10 = .ok (.aload_n 0, 1) := by decide +kernel
theorem d23_11 : decode jdk_49_method_3_code 11 = .ok (.getfield 1, 3) := by decide +kernel
theorem d23_14 : decode jdk_49_method_3_code 14 = .ok (.getfield 28, 3) := by decide +kernel
theorem d23_17 : decode jdk_49_method_3_code 17 = .ok (.if_icmp .lt 11, 3) := by decide +kernel
theorem d23_28 : decode jdk_49_method_3_code 28 = .ok (.aload_n 0, 1) := by decide +kernel
theorem d23_29 : decode jdk_49_method_3_code 29 = .ok (.getfield 1, 3) := by decide +kernel
theorem d23_32 : decode jdk_49_method_3_code 32 = .ok (.getfield 37, 3) := by decide +kernel
theorem d23_35 : decode jdk_49_method_3_code 35 = .ok (.astore_n 2, 1) := by decide +kernel
theorem d23_36 : decode jdk_49_method_3_code 36 = .ok (.iload_n 1, 1) := by decide +kernel
theorem d23_37 : decode jdk_49_method_3_code 37 = .ok (.aload_n 2, 1) := by decide +kernel
theorem d23_38 : decode jdk_49_method_3_code 38 = .ok (.arraylength, 1) := by decide +kernel
theorem d23_39 : decode jdk_49_method_3_code 39 = .ok (.if_icmp .lt 11, 3) := by decide +kernel
theorem d23_50 : decode jdk_49_method_3_code 50 = .ok (.aload_n 0, 1) := by decide +kernel
theorem d23_51 : decode jdk_49_method_3_code 51 = .ok (.iload_n 1, 1) := by decide +kernel
theorem d23_52 : decode jdk_49_method_3_code 52 = .ok (.iconst 1, 1) := by decide +kernel
theorem d23_53 : decode jdk_49_method_3_code 53 = .ok (.iadd, 1) := by decide +kernel
theorem d23_54 : decode jdk_49_method_3_code 54 = .ok (.putfield 25, 3) := by decide +kernel
theorem d23_57 : decode jdk_49_method_3_code 57 = .ok (.aload_n 2, 1) := by decide +kernel
theorem d23_58 : decode jdk_49_method_3_code 58 = .ok (.aload_n 0, 1) := by decide +kernel
theorem d23_59 : decode jdk_49_method_3_code 59 = .ok (.iload_n 1, 1) := by decide +kernel
theorem d23_60 : decode jdk_49_method_3_code 60 = .ok (.dup_x1, 1) := by decide +kernel
theorem d23_61 : decode jdk_49_method_3_code 61 = .ok (.putfield 13, 3) := by decide +kernel
theorem d23_64 : decode jdk_49_method_3_code 64 = .ok (.aaload, 1) := by decide +kernel
theorem d23_65 : decode jdk_49_method_3_code 65 = .ok (.areturn, 1) := by decide +kernel
theorem pn_23 : plainFor (⟨"java/util/ArrayList$Itr", "next", "()Ljava/lang/Object;"⟩ : MethodName) = true := by first | exact plainFor_of_name (by first | (simp [plainName, overriddenIn]; done) | decide +kernel) | decide +kernel | exact Jvm.Free.JP.mathPlain rfl (by decide +kernel)
theorem pd_23_0 : parseMethodDescriptor "()V" = some ⟨[], none⟩ := by decide +kernel
theorem ef_23 (m : MethodId) (a1 : Addr) : entryFrame m #[(.ref a1)] 3 = mkF m 0 #[.val (.ref a1), .unset, .unset] [] := by first | (simp [entryFrame, mkF, argsToLocals, Value.category]; done) | rfl
def Q23 (Z : State) (a1 : Addr) (a2 : Addr) (ed : Addr) (pp : Addr) (kA : ClassId) (h0 : Heap) (n0 : Nat) (v : Option Value) (h : Heap) (L : List Loc) : Prop := v = some (.ref pp) ∧ Fr n0 L ∧ Keep h0 h [a1] ∧ Exa Z h a1 "java/util/ArrayList$Itr" ∧ Fld Z h a1 "java/util/ArrayList$Itr" "this$0" "Ljava/util/ArrayList;" (.ref a2) ∧ Fld Z h a1 "java/util/ArrayList$Itr" "cursor" "I" (.int (1 : Int32))
set_option maxRecDepth 65536 in
set_option maxHeartbeats 40000000 in
theorem rm23 (l : Launch) (Z : State) (a0 : Array Value) (hw : ∀ d ∈ tables_1, d.before a0 Z = true) (ws : List Jvm.Cond) (a1 : Addr) (a2 : Addr) (ed : Addr) (pp : Addr) (kA : ClassId) (h0 : Heap) (n0 : Nat) (Z0 : n0 ≤ h0.size) (E_a1 : Exa Z h0 a1 "java/util/ArrayList$Itr") (F_t : Fld Z h0 a1 "java/util/ArrayList$Itr" "this$0" "Ljava/util/ArrayList;" (.ref a2)) (F_x : Fld Z h0 a1 "java/util/ArrayList$Itr" "expectedModCount" "I" (.int (1 : Int32))) (F_m : Fld Z h0 a2 "java/util/AbstractList" "modCount" "I" (.int (1 : Int32))) (F_c : Fld Z h0 a1 "java/util/ArrayList$Itr" "cursor" "I" (.int (0 : Int32))) (F_l : Fld Z h0 a1 "java/util/ArrayList$Itr" "lastRet" "I" (.int (-1 : Int32))) (F_s : Fld Z h0 a2 "java/util/ArrayList" "size" "I" (.int (1 : Int32))) (F_e : Fld Z h0 a2 "java/util/ArrayList" "elementData" "[Ljava/lang/Object;" (.ref ed)) (A_e : Arv Z h0 ed kA (.object "java/lang/Object") (10 : Int32) [(.ref pp), .null, .null, .null, .null, .null, .null, .null, .null, .null] .null) (n_21 : a2 ≠ a1) (n_e1 : ed ≠ a1) (g_a1 : n0 ≤ a1) :
    MetFree l (⟨"java/util/ArrayList$Itr", "next", "()Ljava/lang/Object;"⟩ : MethodName) (head1 (Jvm.Cond.code (⟨"java/util/ArrayList$Itr", "next", "()Ljava/lang/Object;"⟩ : MethodName) jdk_49_method_3_code 3 (some (.object "java/lang/Object")) :: ws) ({ frames := 1, cells := 0, slots := 0, locals := 12 } : Room)) (fun a U => a = #[(.ref a1)] ∧ Z.Warmed39 U.vm ∧ U.heap = h0) (fun _ _ _ _ _ => True) (fun _ U o U' => ∃ v L, o = .returned v ∧ Q23 Z a1 a2 ed pp kA h0 n0 v U'.heap L ∧ FrameEnd U o U' L ({ frames := 1, cells := 0, slots := 0, locals := 12 } : Room).cells ({ frames := 1, cells := 0, slots := 0, locals := 12 } : Room).slots) := by
  refine MetFree.of_bodySF pn_23 hisR ?_
  intro p e s m args below meth c s₁ Bd hml0 hP hK
  obtain ⟨rfl, hZ, hh⟩ := hP
  have hx := Bd.exec
  have hby := Bd.bytes
  have hml : c.maxLocals = 3 := hml0
  have hown : s.vm.findClass "java/util/ArrayList$Itr" = some m.cls := findClass_of_methodNamed Bd.named
  have hnm := (name_of_methodNamed Bd.named Bd.method).1
  have X0 : Stand p l e ({ frames := 1, cells := 0, slots := 0, locals := 12 } : Room) s m #[(.ref a1)] below meth c s₁ [] 0 0 := Stand.of_body Bd
  have e0 : s₁.heap = h0 := by rw [← hh, Bd.state]; rfl
  have N0 := Fr.nil n0
  refine own_at (castTop (ef_23 m a1)) ?_
  have K0 := Keep.refl h0 [a1]
  have sg1 : ∀ t, own_S p e below s₁ (mkF m 1 #[.val (.ref a1), .unset, .unset] [(.ref a1)]) t → own_S p e below s₁ (mkF m 0 #[.val (.ref a1), .unset, .unset] []) t := by
    intro t k
    show own_S p e below s₁ (mkF m 0 #[.val (.ref a1), .unset, .unset] []) _
    refine XS.aloadN X0.here hx rfl (hb hby d23_0) rfl rfl ?_
    exact k
  refine own_by sg1 ?_
  obtain ⟨cq1, kq1, q1a, q1b, q1c⟩ := isOf hZ e0 E_a1
  obtain ⟨_, _, ⟨T1, L1, k1, n1⟩, -, X1, ⟨Lc1, hQ1, l1, y1, z1⟩, st1⟩ := X0.virtualBack hx (y := (⟨"java/util/ArrayList$Itr", "checkForComodification", "()V"⟩ : MethodName)) (z := (⟨"java/util/ArrayList$Itr", "checkForComodification", "()V"⟩ : MethodName)) hown (mvT hZ (hw _ (List.mem_of_getElem? (i := 162) rfl))) (mvT hZ (hw _ (List.mem_of_getElem? (i := 163) rfl))) (notFace_of_selects (args := #[]) (mvT hZ (hw _ (List.mem_of_getElem? (i := 165) rfl)))) (mvT hZ (hw _ (List.mem_of_getElem? (i := 165) rfl))) (mvT hZ (hw _ (List.mem_of_getElem? (i := 164) rfl))) (by decide) (backOf (W := 0) (rm24 l Z a0 hw [] a1 a2 h0 n0 Z0 F_t F_x F_m) hZ (hw _ (List.mem_of_getElem? (i := 166) rfl)) (hw _ (List.mem_of_getElem? (i := 129) rfl)) (by decide) (by decide)) q1a q1c (g := (mkF m 1 #[.val (.ref a1), .unset, .unset] [(.ref a1)])) rfl (by rw [hml]; rfl) (Steps.refl _) (argsL := []) (rest := []) (lenOf pd_23_0 rfl) rfl (by show 2 * 0 + _ ≤ _; exact Nat.le_of_eq rfl) (hb hby d23_1) (fun _ _ => ⟨rfl, e0, (by decide : 0 + 0 ≤ _), (by decide : 0 + 0 ≤ _)⟩)
  dsimp only [Pt.U, Pt.locs, Pt.cells, Pt.slots] at X1 l1 y1 z1 st1 hQ1
  subst l1 y1 z1
  obtain ⟨rfl, N1q, hq1⟩ := hQ1
  have N1 := Fr.app N0 N1q
  refine own_by (fun t k => st1.trans k) ?_
  have sg5 : ∀ t, own_S p e below T1 (mkF m 5 #[.val (.ref a1), .unset, .unset] [(.ref a1)]) t → own_S p e below T1 (mkF m 4 #[.val (.ref a1), .unset, .unset] []) t := by
    intro t k
    show own_S p e below T1 (mkF m 4 #[.val (.ref a1), .unset, .unset] []) _
    refine XS.aloadN X1.here hx rfl (hb hby d23_4) rfl rfl ?_
    exact k
  refine own_by sg5 ?_
  obtain ⟨T5, X5, e5, st5⟩ := getF X1 hx hZ hown (host := "") (Or.inl (hw _ (List.mem_of_getElem? (i := 151) rfl))) Via.refl hq1 F_c (g := (mkF m 5 #[.val (.ref a1), .unset, .unset] [(.ref a1)])) rfl rfl (hb hby d23_5)
  refine own_by st5 ?_
  have sg11 : ∀ t, own_S p e below T5 (mkF m 11 #[.val (.ref a1), .val (.int (0 : Int32)), .unset] [(.ref a1), (.int (0 : Int32))]) t → own_S p e below T5 (mkF m 8 #[.val (.ref a1), .unset, .unset] [(.int (0 : Int32))]) t := by
    intro t k
    show own_S p e below T5 (mkF m 8 #[.val (.ref a1), .unset, .unset] [(.int (0 : Int32))]) _
    refine XS.istoreN X5.here hx rfl (hb hby d23_8) rfl (l' := #[.val (.ref a1), .val (.int (0 : Int32)), .unset]) rfl ?_
    show own_S p e below T5 (mkF m 9 #[.val (.ref a1), .val (.int (0 : Int32)), .unset] []) _
    refine XS.iloadN X5.here hx rfl (hb hby d23_9) rfl ?_
    show own_S p e below T5 (mkF m 10 #[.val (.ref a1), .val (.int (0 : Int32)), .unset] [(.int (0 : Int32))]) _
    refine XS.aloadN X5.here hx rfl (hb hby d23_10) rfl rfl ?_
    exact k
  refine own_by sg11 ?_
  obtain ⟨T11, X11, e11, st11⟩ := getF X5 hx hZ hown (host := "") (Or.inl (hw _ (List.mem_of_getElem? (i := 134) rfl))) Via.refl e5 F_t (g := (mkF m 11 #[.val (.ref a1), .val (.int (0 : Int32)), .unset] [(.ref a1), (.int (0 : Int32))])) rfl rfl (hb hby d23_11)
  refine own_by st11 ?_
  obtain ⟨T14, X14, e14, st14⟩ := getF X11 hx hZ hown (Or.inr (hw _ (List.mem_of_getElem? (i := 153) rfl))) Via.refl e11 F_s (g := (mkF m 14 #[.val (.ref a1), .val (.int (0 : Int32)), .unset] [(.ref a2), (.int (0 : Int32))])) rfl rfl (hb hby d23_14)
  refine own_by st14 ?_
  have sg29 : ∀ t, own_S p e below T14 (mkF m 29 #[.val (.ref a1), .val (.int (0 : Int32)), .unset] [(.ref a1)]) t → own_S p e below T14 (mkF m 17 #[.val (.ref a1), .val (.int (0 : Int32)), .unset] [(.int (1 : Int32)), (.int (0 : Int32))]) t := by
    intro t k
    show own_S p e below T14 (mkF m 17 #[.val (.ref a1), .val (.int (0 : Int32)), .unset] [(.int (1 : Int32)), (.int (0 : Int32))]) _
    refine XS.icmpYes X14.here hx rfl (pc0 := 17) (pc' := 28) rfl (hb hby d23_17) rfl (tlt (by decide : (0 : Int32) < (1 : Int32))).1 (by decide) (by decide) ?_
    show own_S p e below T14 (mkF m 28 #[.val (.ref a1), .val (.int (0 : Int32)), .unset] []) _
    refine XS.aloadN X14.here hx rfl (hb hby d23_28) rfl rfl ?_
    exact k
  refine own_by sg29 ?_
  obtain ⟨T29, X29, e29, st29⟩ := getF X14 hx hZ hown (host := "") (Or.inl (hw _ (List.mem_of_getElem? (i := 134) rfl))) Via.refl e14 F_t (g := (mkF m 29 #[.val (.ref a1), .val (.int (0 : Int32)), .unset] [(.ref a1)])) rfl rfl (hb hby d23_29)
  refine own_by st29 ?_
  obtain ⟨T32, X32, e32, st32⟩ := getF X29 hx hZ hown (host := "") (Or.inl (hw _ (List.mem_of_getElem? (i := 167) rfl))) Via.refl e29 F_e (g := (mkF m 32 #[.val (.ref a1), .val (.int (0 : Int32)), .unset] [(.ref a2)])) rfl rfl (hb hby d23_32)
  refine own_by st32 ?_
  have sg38 : ∀ t, own_S p e below T32 (mkF m 38 #[.val (.ref a1), .val (.int (0 : Int32)), .val (.ref ed)] [(.ref ed), (.int (0 : Int32))]) t → own_S p e below T32 (mkF m 35 #[.val (.ref a1), .val (.int (0 : Int32)), .unset] [(.ref ed)]) t := by
    intro t k
    show own_S p e below T32 (mkF m 35 #[.val (.ref a1), .val (.int (0 : Int32)), .unset] [(.ref ed)]) _
    refine XS.astoreN X32.here hx rfl (hb hby d23_35) rfl rfl (l' := #[.val (.ref a1), .val (.int (0 : Int32)), .val (.ref ed)]) rfl ?_
    show own_S p e below T32 (mkF m 36 #[.val (.ref a1), .val (.int (0 : Int32)), .val (.ref ed)] []) _
    refine XS.iloadN X32.here hx rfl (hb hby d23_36) rfl ?_
    show own_S p e below T32 (mkF m 37 #[.val (.ref a1), .val (.int (0 : Int32)), .val (.ref ed)] [(.int (0 : Int32))]) _
    refine XS.aloadN X32.here hx rfl (hb hby d23_37) rfl rfl ?_
    exact k
  refine own_by sg38 ?_
  obtain ⟨cl38, Ar38, qa38, Sa38, Na38, Ha38, Ga38⟩ := id A_e
  have sg54 : ∀ t, own_S p e below T32 (mkF m 54 #[.val (.ref a1), .val (.int (0 : Int32)), .val (.ref ed)] [(.int (1 : Int32)), (.ref a1)]) t → own_S p e below T32 (mkF m 38 #[.val (.ref a1), .val (.int (0 : Int32)), .val (.ref ed)] [(.ref ed), (.int (0 : Int32))]) t := by
    intro t k
    show own_S p e below T32 (mkF m 38 #[.val (.ref a1), .val (.int (0 : Int32)), .val (.ref ed)] [(.ref ed), (.int (0 : Int32))]) _
    refine X32.arraylength hx (by rw [e32]; exact Ar38.1) (State.isArrayOf_alike hZ.alike Ar38.2.1) (g := (mkF m 38 #[.val (.ref a1), .val (.int (0 : Int32)), .val (.ref ed)] [(.ref ed), (.int (0 : Int32))])) rfl rfl (hb hby d23_38) _ ?_
    rw [len_of Sa38 Na38]
    show own_S p e below T32 (mkF m 39 #[.val (.ref a1), .val (.int (0 : Int32)), .val (.ref ed)] [(.int (10 : Int32)), (.int (0 : Int32))]) _
    refine XS.icmpYes X32.here hx rfl (pc0 := 39) (pc' := 50) rfl (hb hby d23_39) rfl (tlt (by decide : (0 : Int32) < (10 : Int32))).1 (by decide) (by decide) ?_
    show own_S p e below T32 (mkF m 50 #[.val (.ref a1), .val (.int (0 : Int32)), .val (.ref ed)] []) _
    refine XS.aloadN X32.here hx rfl (hb hby d23_50) rfl rfl ?_
    show own_S p e below T32 (mkF m 51 #[.val (.ref a1), .val (.int (0 : Int32)), .val (.ref ed)] [(.ref a1)]) _
    refine XS.iloadN X32.here hx rfl (hb hby d23_51) rfl ?_
    show own_S p e below T32 (mkF m 52 #[.val (.ref a1), .val (.int (0 : Int32)), .val (.ref ed)] [(.int (0 : Int32)), (.ref a1)]) _
    refine XS.iconst X32.here hx rfl (hb hby d23_52) ?_
    show own_S p e below T32 (mkF m 53 #[.val (.ref a1), .val (.int (0 : Int32)), .val (.ref ed)] [(.int (1 : Int32)), (.int (0 : Int32)), (.ref a1)]) _
    refine XS.iadd X32.here hx rfl (hb hby d23_53) rfl ?_
    exact k
  refine own_by sg54 ?_
  obtain ⟨T54, h54, X54, e54, W54, st54⟩ := putF X32 hx hZ hown (host := "") (Or.inl (hw _ (List.mem_of_getElem? (i := 151) rfl))) Via.refl e32 F_c E_a1 (Or.inl (hw _ (List.mem_of_getElem? (i := 152) rfl))) (hw _ (List.mem_of_getElem? (i := 128) rfl)) (ty := .int) (by decide) rfl rfl (g := (mkF m 54 #[.val (.ref a1), .val (.int (0 : Int32)), .val (.ref ed)] [(.int (1 : Int32)), (.ref a1)])) rfl rfl (hb hby d23_54)
  have Fw54 := F_c.same W54
  have fc := (F_t.other W54 (Or.inr (slot_ne (Or.inr (hw _ (List.mem_of_getElem? (i := 135) rfl))) (Or.inl (hw _ (List.mem_of_getElem? (i := 152) rfl))) (by decide) (t := (.object "java/util/ArrayList")) (t' := .int) (by decide) (by decide))))
  have fc_2 := (F_x.other W54 (Or.inr (slot_ne (Or.inl (hw _ (List.mem_of_getElem? (i := 141) rfl))) (Or.inl (hw _ (List.mem_of_getElem? (i := 152) rfl))) (by decide) (t := .int) (t' := .int) (by decide) (by decide))))
  have fc_3 := (F_l.other W54 (Or.inr (slot_ne (Or.inl (hw _ (List.mem_of_getElem? (i := 138) rfl))) (Or.inl (hw _ (List.mem_of_getElem? (i := 152) rfl))) (by decide) (t := .int) (t' := .int) (by decide) (by decide))))
  have K54 : Keep h0 h54 [a1] := K0.wr W54 (Or.inl (List.mem_of_getElem? (i := 0) rfl))
  have Z54 : n0 ≤ h54.size := Nat.le_trans Z0 (Keep.of_wr W54).1
  have N54 := Fr.snoc X54 N1 g_a1
  refine own_by st54 ?_
  have sg61 : ∀ t, own_S p e below T54 (mkF m 61 #[.val (.ref a1), .val (.int (0 : Int32)), .val (.ref ed)] [(.int (0 : Int32)), (.ref a1), (.int (0 : Int32)), (.ref ed)]) t → own_S p e below T54 (mkF m 57 #[.val (.ref a1), .val (.int (0 : Int32)), .val (.ref ed)] []) t := by
    intro t k
    show own_S p e below T54 (mkF m 57 #[.val (.ref a1), .val (.int (0 : Int32)), .val (.ref ed)] []) _
    refine XS.aloadN X54.here hx rfl (hb hby d23_57) rfl rfl ?_
    show own_S p e below T54 (mkF m 58 #[.val (.ref a1), .val (.int (0 : Int32)), .val (.ref ed)] [(.ref ed)]) _
    refine XS.aloadN X54.here hx rfl (hb hby d23_58) rfl rfl ?_
    show own_S p e below T54 (mkF m 59 #[.val (.ref a1), .val (.int (0 : Int32)), .val (.ref ed)] [(.ref a1), (.ref ed)]) _
    refine XS.iloadN X54.here hx rfl (hb hby d23_59) rfl ?_
    show own_S p e below T54 (mkF m 60 #[.val (.ref a1), .val (.int (0 : Int32)), .val (.ref ed)] [(.int (0 : Int32)), (.ref a1), (.ref ed)]) _
    refine XT.dupX1 X54.here hx rfl (hb hby d23_60) rfl rfl rfl ?_
    exact k
  refine own_by sg61 ?_
  obtain ⟨T61, h61, X61, e61, W61, st61⟩ := putF X54 hx hZ hown (host := "") (Or.inl (hw _ (List.mem_of_getElem? (i := 137) rfl))) Via.refl e54 fc_3 (E_a1.wr W54) (Or.inl (hw _ (List.mem_of_getElem? (i := 138) rfl))) (hw _ (List.mem_of_getElem? (i := 128) rfl)) (ty := .int) (by decide) rfl rfl (g := (mkF m 61 #[.val (.ref a1), .val (.int (0 : Int32)), .val (.ref ed)] [(.int (0 : Int32)), (.ref a1), (.int (0 : Int32)), (.ref ed)])) rfl rfl (hb hby d23_61)
  have Fw61 := fc_3.same W61
  have fc_4 := (fc.other W61 (Or.inr (slot_ne (Or.inr (hw _ (List.mem_of_getElem? (i := 135) rfl))) (Or.inl (hw _ (List.mem_of_getElem? (i := 138) rfl))) (by decide) (t := (.object "java/util/ArrayList")) (t' := .int) (by decide) (by decide))))
  have fc_5 := (fc_2.other W61 (Or.inr (slot_ne (Or.inl (hw _ (List.mem_of_getElem? (i := 141) rfl))) (Or.inl (hw _ (List.mem_of_getElem? (i := 138) rfl))) (by decide) (t := .int) (t' := .int) (by decide) (by decide))))
  have fc_6 := (Fw54.other W61 (Or.inr (slot_ne (Or.inl (hw _ (List.mem_of_getElem? (i := 152) rfl))) (Or.inl (hw _ (List.mem_of_getElem? (i := 138) rfl))) (by decide) (t := .int) (t' := .int) (by decide) (by decide))))
  have K61 : Keep h0 h61 [a1] := K54.wr W61 (Or.inl (List.mem_of_getElem? (i := 0) rfl))
  have Z61 : n0 ≤ h61.size := Nat.le_trans Z54 (Keep.of_wr W61).1
  have N61 := Fr.snoc X61 N54 g_a1
  refine own_by st61 ?_
  obtain ⟨cl64, Ar64, qa64, Sa64, Na64, Ha64, Ga64⟩ := id ((A_e.other W54 n_e1).other W61 n_e1)
  have sg65 : ∀ t, own_S p e below T61 (mkF m 65 #[.val (.ref a1), .val (.int (0 : Int32)), .val (.ref ed)] [(.ref pp)]) t → own_S p e below T61 (mkF m 64 #[.val (.ref a1), .val (.int (0 : Int32)), .val (.ref ed)] [(.int (0 : Int32)), (.ref ed)]) t := by
    intro t k
    show own_S p e below T61 (mkF m 64 #[.val (.ref a1), .val (.int (0 : Int32)), .val (.ref ed)] [(.int (0 : Int32)), (.ref ed)]) _
    refine X61.aaload hx (j := (0 : Int32)) (v := (.ref pp)) (by rw [e61]; exact Ar64.1) (State.isArrayOf_alike hZ.alike Ar64.2.1) rfl Ar64.2.2 (inb_of Sa64 ⟨by decide, by decide⟩) (Ha64 0 (by rw [Sa64]; decide)) (g := (mkF m 64 #[.val (.ref a1), .val (.int (0 : Int32)), .val (.ref ed)] [(.int (0 : Int32)), (.ref ed)])) rfl rfl (hb hby d23_64) _ ?_
    exact k
  refine own_by sg65 ?_
  obtain ⟨fs, hr, hrun, hended, hW, hsame⟩ := X61.leave (v := some (.ref pp)) (fun h => by rw [Bd.returns] at h; cases h)
  refine ⟨_, _, ?_, hrun, hended, _, _, rfl, ?_, ⟨_, rfl⟩, hW, hsame.mono (by decide) (by decide)⟩
  · show Steps p.tables e below (T61.setTop (mkF m 65 #[.val (.ref a1), .val (.int (0 : Int32)), .val (.ref ed)] [(.ref pp)])) _
    jvm_step X61.here [X61.here.top, hx, (hb hby d23_65), X61.method', Bd.returns, Value.isRef, FieldType.isReference]
    first | (intro acts; rw [hr _ acts rfl rfl rfl]) | rw [hr _ _ rfl rfl rfl]
    exact Steps.refl _
  · show Q23 Z a1 a2 ed pp kA h0 n0 _ T61.heap _
    rw [e61]
    exact ⟨rfl, N61, K61, ((E_a1.wr W54).wr W61), fc_4, fc_6⟩
theorem d25_0 : decode jdk_17_method_59_code 0 = .ok (.aload_n 0, 1) := by decide +kernel
theorem d25_1 : decode jdk_17_method_59_code 1 = .ok (.getfield 17, 3) := by decide +kernel
theorem d25_4 : decode jdk_17_method_59_code 4 = .ok (.ireturn, 1) := by decide +kernel
theorem pn_25 : plainFor (⟨"java/math/BigDecimal", "scale", "()I"⟩ : MethodName) = true := by first | exact plainFor_of_name (by first | (simp [plainName, overriddenIn]; done) | decide +kernel) | decide +kernel | exact Jvm.Free.JP.mathPlain rfl (by decide +kernel)
theorem ef_25 (m : MethodId) (a1 : Addr) : entryFrame m #[(.ref a1)] 1 = mkF m 0 #[.val (.ref a1)] [] := by first | (simp [entryFrame, mkF, argsToLocals, Value.category]; done) | rfl
def Q25 (Z : State) (a1 : Addr) (z : Int32) (h0 : Heap) (n0 : Nat) (v : Option Value) (h : Heap) (L : List Loc) : Prop := v = some (.int z) ∧ Fr n0 L ∧ h = h0
set_option maxRecDepth 65536 in
set_option maxHeartbeats 40000000 in
theorem rm25 (l : Launch) (Z : State) (a0 : Array Value) (hw : ∀ d ∈ tables_1, d.before a0 Z = true) (ws : List Jvm.Cond) (a1 : Addr) (z : Int32) (h0 : Heap) (n0 : Nat) (Z0 : n0 ≤ h0.size) (F : Fld Z h0 a1 "java/math/BigDecimal" "scale" "I" (.int z)) :
    MetFree l (⟨"java/math/BigDecimal", "scale", "()I"⟩ : MethodName) (head1 (Jvm.Cond.code (⟨"java/math/BigDecimal", "scale", "()I"⟩ : MethodName) jdk_17_method_59_code 1 (some .int) :: ws) ({ frames := 0, cells := 0, slots := 0, locals := 0 } : Room)) (fun a U => a = #[(.ref a1)] ∧ Z.Warmed39 U.vm ∧ U.heap = h0) (fun _ _ _ _ _ => True) (fun _ U o U' => ∃ v L, o = .returned v ∧ Q25 Z a1 z h0 n0 v U'.heap L ∧ FrameEnd U o U' L ({ frames := 0, cells := 0, slots := 0, locals := 0 } : Room).cells ({ frames := 0, cells := 0, slots := 0, locals := 0 } : Room).slots) := by
  refine MetFree.of_bodySF pn_25 hisR ?_
  intro p e s m args below meth c s₁ Bd hml0 hP hK
  obtain ⟨rfl, hZ, hh⟩ := hP
  have hx := Bd.exec
  have hby := Bd.bytes
  have hml : c.maxLocals = 1 := hml0
  have hown : s.vm.findClass "java/math/BigDecimal" = some m.cls := findClass_of_methodNamed Bd.named
  have hnm := (name_of_methodNamed Bd.named Bd.method).1
  have X0 : Stand p l e ({ frames := 0, cells := 0, slots := 0, locals := 0 } : Room) s m #[(.ref a1)] below meth c s₁ [] 0 0 := Stand.of_body Bd
  have e0 : s₁.heap = h0 := by rw [← hh, Bd.state]; rfl
  have N0 := Fr.nil n0
  refine own_at (castTop (ef_25 m a1)) ?_
  have sg1 : ∀ t, own_S p e below s₁ (mkF m 1 #[.val (.ref a1)] [(.ref a1)]) t → own_S p e below s₁ (mkF m 0 #[.val (.ref a1)] []) t := by
    intro t k
    show own_S p e below s₁ (mkF m 0 #[.val (.ref a1)] []) _
    refine XS.aloadN X0.here hx rfl (hb hby d25_0) rfl rfl ?_
    exact k
  refine own_by sg1 ?_
  obtain ⟨T1, X1, e1, st1⟩ := getF X0 hx hZ hown (host := "") (Or.inl (hw _ (List.mem_of_getElem? (i := 173) rfl))) Via.refl e0 F (g := (mkF m 1 #[.val (.ref a1)] [(.ref a1)])) rfl rfl (hb hby d25_1)
  refine own_by st1 ?_
  obtain ⟨fs, hr, hrun, hended, hW, hsame⟩ := X1.leave (v := some (.int z)) (fun h => by rw [Bd.returns] at h; cases h)
  refine ⟨_, _, ?_, hrun, hended, _, _, rfl, ?_, ⟨_, rfl⟩, hW, hsame.mono (by decide) (by decide)⟩
  · exact retI X1 hx Bd.returns (hb hby d25_4) hr
  · show Q25 Z a1 z h0 n0 _ T1.heap _
    rw [e1]
    exact ⟨rfl, N0, rfl⟩
theorem d19_0 : decode prog_40_method_12_code 0 = .ok (.iconst 0, 1) := by decide +kernel
theorem d19_1 : decode prog_40_method_12_code 1 = .ok (.istore_n 1, 1) := by decide +kernel
theorem d19_2 : decode prog_40_method_12_code 2 = .ok (.aload_n 0, 1) := by decide +kernel
theorem d19_3 : decode prog_40_method_12_code 3 = .ok (.invokeinterface 144 1, 5) := by decide +kernel
theorem d19_8 : decode prog_40_method_12_code 8 = .ok (.astore_n 2, 1) := by decide +kernel
theorem d19_9 : decode prog_40_method_12_code 9 = .ok (.aload_n 2, 1) := by decide +kernel
theorem d19_10 : decode prog_40_method_12_code 10 = .ok (.invokeinterface 150 1, 5) := by decide +kernel
theorem d19_15 : decode prog_40_method_12_code 15 = .ok (.ifCond .eq 28, 3) := by decide +kernel
theorem d19_18 : decode prog_40_method_12_code 18 = .ok (.aload_n 2, 1) := by decide +kernel
theorem d19_19 : decode prog_40_method_12_code 19 = .ok (.invokeinterface 155 1, 5) := by decide +kernel
theorem d19_24 : decode prog_40_method_12_code 24 = .ok (.checkcast 8, 3) := by decide +kernel
theorem d19_27 : decode prog_40_method_12_code 27 = .ok (.astore_n 3, 1) := by decide +kernel
theorem d19_28 : decode prog_40_method_12_code 28 = .ok (.iload_n 1, 1) := by decide +kernel
theorem d19_29 : decode prog_40_method_12_code 29 = .ok (.aload_n 3, 1) := by decide +kernel
theorem d19_30 : decode prog_40_method_12_code 30 = .ok (.getfield 16, 3) := by decide +kernel
theorem d19_33 : decode prog_40_method_12_code 33 = .ok (.invokevirtual 159, 3) := by decide +kernel
theorem d19_36 : decode prog_40_method_12_code 36 = .ok (.invokestatic 162, 3) := by decide +kernel
theorem d19_39 : decode prog_40_method_12_code 39 = .ok (.istore_n 1, 1) := by decide +kernel
theorem d19_40 : decode prog_40_method_12_code 40 = .ok (.goto (-31), 3) := by decide +kernel
theorem d19_43 : decode prog_40_method_12_code 43 = .ok (.iload_n 1, 1) := by decide +kernel
theorem d19_44 : decode prog_40_method_12_code 44 = .ok (.ireturn, 1) := by decide +kernel
theorem pn_19 : plainFor (⟨"com/example/catchment/catchment/Position", "places", "(Ljava/util/List;)I"⟩ : MethodName) = true := by first | exact plainFor_of_name (by first | (simp [plainName, overriddenIn]; done) | decide +kernel) | decide +kernel | exact Jvm.Free.JP.mathPlain rfl (by decide +kernel)
theorem pd_19_0 : parseMethodDescriptor "()Ljava/util/Iterator;" = some ⟨[], some (.object "java/util/Iterator")⟩ := by decide +kernel
theorem pd_19_1 : parseMethodDescriptor "()Z" = some ⟨[], some .boolean⟩ := by decide +kernel
theorem pd_19_2 : parseMethodDescriptor "()Ljava/lang/Object;" = some ⟨[], some (.object "java/lang/Object")⟩ := by decide +kernel
theorem pd_19_3 : parseMethodDescriptor "()I" = some ⟨[], some .int⟩ := by decide +kernel
theorem pd_19_4 : parseMethodDescriptor "(II)I" = some ⟨[.int, .int], some .int⟩ := by decide +kernel
theorem ef_19 (m : MethodId) (a1 : Addr) : entryFrame m #[(.ref a1)] 4 = mkF m 0 #[.val (.ref a1), .unset, .unset, .unset] [] := by first | (simp [entryFrame, mkF, argsToLocals, Value.category]; done) | rfl
def Q19 (Z : State) (a1 : Addr) (ed : Addr) (pp : Addr) (wZ : Addr) (kA : ClassId) (h0 : Heap) (n0 : Nat) (v : Option Value) (h : Heap) (L : List Loc) : Prop := v = some (.int 0) ∧ Fr n0 L
set_option maxRecDepth 65536 in
set_option maxHeartbeats 40000000 in
theorem rm19 (l : Launch) (Z : State) (a0 : Array Value) (hw : ∀ d ∈ tables_1, d.before a0 Z = true) (ws : List Jvm.Cond) (a1 : Addr) (ed : Addr) (pp : Addr) (wZ : Addr) (kA : ClassId) (h0 : Heap) (n0 : Nat) (Z0 : n0 ≤ h0.size) (O : Old Z n0 h0) (E_Z : Exa Z Z.heap wZ "java/math/BigDecimal") (FS_Z : Fld Z Z.heap wZ "java/math/BigDecimal" "scale" "I" (.int (0 : Int32))) (E_a1 : Exa Z h0 a1 "java/util/ArrayList") (F_m : Fld Z h0 a1 "java/util/AbstractList" "modCount" "I" (.int (1 : Int32))) (F_e : Fld Z h0 a1 "java/util/ArrayList" "elementData" "[Ljava/lang/Object;" (.ref ed)) (F_s : Fld Z h0 a1 "java/util/ArrayList" "size" "I" (.int (1 : Int32))) (A_e : Arv Z h0 ed kA (.object "java/lang/Object") (10 : Int32) [(.ref pp), .null, .null, .null, .null, .null, .null, .null, .null, .null] .null) (E_p : Exa Z h0 pp "com/example/catchment/catchment/Position") (F_d : Fld Z h0 pp "com/example/catchment/catchment/Position" "distance" "Ljava/math/BigDecimal;" (.ref wZ)) :
    MetFree l (⟨"com/example/catchment/catchment/Position", "places", "(Ljava/util/List;)I"⟩ : MethodName) (head1 (Jvm.Cond.code (⟨"com/example/catchment/catchment/Position", "places", "(Ljava/util/List;)I"⟩ : MethodName) prog_40_method_12_code 4 (some .int) :: ws) ({ frames := 3, cells := 1, slots := 4, locals := 38 } : Room)) (fun a U => a = #[(.ref a1)] ∧ Z.Warmed39 U.vm ∧ U.heap = h0) (fun _ _ _ _ _ => True) (fun _ U o U' => ∃ v L, o = .returned v ∧ Q19 Z a1 ed pp wZ kA h0 n0 v U'.heap L ∧ FrameEnd U o U' L ({ frames := 3, cells := 1, slots := 4, locals := 38 } : Room).cells ({ frames := 3, cells := 1, slots := 4, locals := 38 } : Room).slots) := by
  refine MetFree.of_bodySF pn_19 hisR ?_
  intro p e s m args below meth c s₁ Bd hml0 hP hK
  obtain ⟨rfl, hZ, hh⟩ := hP
  have hx := Bd.exec
  have hby := Bd.bytes
  have hml : c.maxLocals = 4 := hml0
  have hown : s.vm.findClass "com/example/catchment/catchment/Position" = some m.cls := findClass_of_methodNamed Bd.named
  have hnm := (name_of_methodNamed Bd.named Bd.method).1
  have X0 : Stand p l e ({ frames := 3, cells := 1, slots := 4, locals := 38 } : Room) s m #[(.ref a1)] below meth c s₁ [] 0 0 := Stand.of_body Bd
  have e0 : s₁.heap = h0 := by rw [← hh, Bd.state]; rfl
  have N0 := Fr.nil n0
  refine own_at (castTop (ef_19 m a1)) ?_
  have K0 := Keep.refl h0 []
  have sg3 : ∀ t, own_S p e below s₁ (mkF m 3 #[.val (.ref a1), .val (.int (0 : Int32)), .unset, .unset] [(.ref a1)]) t → own_S p e below s₁ (mkF m 0 #[.val (.ref a1), .unset, .unset, .unset] []) t := by
    intro t k
    show own_S p e below s₁ (mkF m 0 #[.val (.ref a1), .unset, .unset, .unset] []) _
    refine XS.iconst X0.here hx rfl (hb hby d19_0) ?_
    show own_S p e below s₁ (mkF m 1 #[.val (.ref a1), .unset, .unset, .unset] [(.int (0 : Int32))]) _
    refine XS.istoreN X0.here hx rfl (hb hby d19_1) rfl (l' := #[.val (.ref a1), .val (.int (0 : Int32)), .unset, .unset]) rfl ?_
    show own_S p e below s₁ (mkF m 2 #[.val (.ref a1), .val (.int (0 : Int32)), .unset, .unset] []) _
    refine XS.aloadN X0.here hx rfl (hb hby d19_2) rfl rfl ?_
    exact k
  refine own_by sg3 ?_
  obtain ⟨cq3, kq3, q3a, q3b, q3c⟩ := isOf hZ e0 E_a1
  obtain ⟨_, _, ⟨T3, L3, k3, n3⟩, -, X3, ⟨Lc3, hQ3, l3, y3, z3⟩, st3⟩ := X0.interfaceBack hx (xi := (⟨"java/util/List", "iterator", "()Ljava/util/Iterator;"⟩ : MethodName)) (y := (⟨"java/util/ArrayList", "iterator", "()Ljava/util/Iterator;"⟩ : MethodName)) hown (mvT hZ (hw _ (List.mem_of_getElem? (i := 118) rfl))) (mvT hZ (hw _ (List.mem_of_getElem? (i := 119) rfl))) (mvT hZ (hw _ (List.mem_of_getElem? (i := 120) rfl))) (mvT hZ (hw _ (List.mem_of_getElem? (i := 121) rfl))) (mvT hZ (hw _ (List.mem_of_getElem? (i := 122) rfl))) (mvT hZ (hw _ (List.mem_of_getElem? (i := 123) rfl))) (mvT hZ (hw _ (List.mem_of_getElem? (i := 124) rfl))) (mvT hZ (hw _ (List.mem_of_getElem? (i := 125) rfl))) (by decide) (backOf (W := 0) (rm20 l Z a0 hw [] a1 h0 n0 Z0 F_m) hZ (hw _ (List.mem_of_getElem? (i := 126) rfl)) (hw _ (List.mem_of_getElem? (i := 22) rfl)) (by decide) (by decide)) q3a q3b q3c (g := (mkF m 3 #[.val (.ref a1), .val (.int (0 : Int32)), .unset, .unset] [(.ref a1)])) rfl (by rw [hml]; rfl) (Steps.refl _) (argsL := []) (rest := []) (lenOf pd_19_0 rfl) rfl (by show 2 * 0 + _ ≤ _; exact Nat.le_of_eq rfl) (hb hby d19_3) (fun _ _ => ⟨rfl, e0, (by decide : 0 + 1 ≤ _), (by decide : 0 + 4 ≤ _)⟩)
  dsimp only [Pt.U, Pt.locs, Pt.cells, Pt.slots] at X3 l3 y3 z3 st3 hQ3
  subst l3 y3 z3
  obtain ⟨r3, rfl, ge3, N3q, Kq3, Eq3, Gthis03, Gcursor3, GlastRet3, GexpectedModCount3⟩ := hQ3
  have N3 := Fr.app N0 N3q
  have ne_a1_r3 : a1 ≠ r3 := Nat.ne_of_lt (Nat.lt_of_lt_of_le E_a1.lt ge3)
  have ne_ed_r3 : ed ≠ r3 := Nat.ne_of_lt (Nat.lt_of_lt_of_le A_e.lt ge3)
  have ne_pp_r3 : pp ≠ r3 := Nat.ne_of_lt (Nat.lt_of_lt_of_le E_p.lt ge3)
  have g_r3 : n0 ≤ r3 := Nat.le_trans Z0 ge3
  have sz_r3 : h0.size ≤ r3 := Nat.le_trans K0.1 ge3
  have K3 : Keep h0 T3.heap [] := K0.trans Kq3 (fun x hx => nomatch hx)
  have Z3 : n0 ≤ T3.heap.size := Nat.le_trans Z0 Kq3.1
  refine own_by (fun t k => st3.trans k) ?_
  have sg10 : ∀ t, own_S p e below T3 (mkF m 10 #[.val (.ref a1), .val (.int (0 : Int32)), .val (.ref r3), .unset] [(.ref r3)]) t → own_S p e below T3 (mkF m 8 #[.val (.ref a1), .val (.int (0 : Int32)), .unset, .unset] [(.ref r3)]) t := by
    intro t k
    show own_S p e below T3 (mkF m 8 #[.val (.ref a1), .val (.int (0 : Int32)), .unset, .unset] [(.ref r3)]) _
    refine XS.astoreN X3.here hx rfl (hb hby d19_8) rfl rfl (l' := #[.val (.ref a1), .val (.int (0 : Int32)), .val (.ref r3), .unset]) rfl ?_
    show own_S p e below T3 (mkF m 9 #[.val (.ref a1), .val (.int (0 : Int32)), .val (.ref r3), .unset] []) _
    refine XS.aloadN X3.here hx rfl (hb hby d19_9) rfl rfl ?_
    exact k
  refine own_by sg10 ?_
  obtain ⟨cq10, kq10, q10a, q10b, q10c⟩ := isOf hZ rfl Eq3
  obtain ⟨_, _, ⟨T10, L10, k10, n10⟩, -, X10, ⟨Lc10, hQ10, l10, y10, z10⟩, st10⟩ := X3.interfaceBack hx (xi := (⟨"java/util/Iterator", "hasNext", "()Z"⟩ : MethodName)) (y := (⟨"java/util/ArrayList$Itr", "hasNext", "()Z"⟩ : MethodName)) hown (mvT hZ (hw _ (List.mem_of_getElem? (i := 142) rfl))) (mvT hZ (hw _ (List.mem_of_getElem? (i := 143) rfl))) (mvT hZ (hw _ (List.mem_of_getElem? (i := 144) rfl))) (mvT hZ (hw _ (List.mem_of_getElem? (i := 145) rfl))) (mvT hZ (hw _ (List.mem_of_getElem? (i := 146) rfl))) (mvT hZ (hw _ (List.mem_of_getElem? (i := 147) rfl))) (mvT hZ (hw _ (List.mem_of_getElem? (i := 148) rfl))) (mvT hZ (hw _ (List.mem_of_getElem? (i := 149) rfl))) (by decide) (backOf (W := 0) (rm22z l Z a0 hw [] r3 a1 T3.heap n0 Z3 Gcursor3 Gthis03 (F_s.keep Kq3 List.not_mem_nil)) hZ (hw _ (List.mem_of_getElem? (i := 150) rfl)) (hw _ (List.mem_of_getElem? (i := 129) rfl)) (by decide) (by decide)) q10a q10b q10c (g := (mkF m 10 #[.val (.ref a1), .val (.int (0 : Int32)), .val (.ref r3), .unset] [(.ref r3)])) rfl (by rw [hml]; rfl) (Steps.refl _) (argsL := []) (rest := []) (lenOf pd_19_1 rfl) rfl (by show 2 * 0 + _ ≤ _; exact Nat.le_of_eq rfl) (hb hby d19_10) (fun _ _ => ⟨rfl, rfl, (by decide : 1 + 0 ≤ _), (by decide : 4 + 0 ≤ _)⟩)
  dsimp only [Pt.U, Pt.locs, Pt.cells, Pt.slots] at X10 l10 y10 z10 st10 hQ10
  subst l10 y10 z10
  obtain ⟨rfl, N10q, hq10⟩ := hQ10
  have N10 := Fr.app N3 N10q
  refine own_by (fun t k => st10.trans k) ?_
  have sg19 : ∀ t, own_S p e below T10 (mkF m 19 #[.val (.ref a1), .val (.int (0 : Int32)), .val (.ref r3), .unset] [(.ref r3)]) t → own_S p e below T10 (mkF m 15 #[.val (.ref a1), .val (.int (0 : Int32)), .val (.ref r3), .unset] [(.int (1 : Int32))]) t := by
    intro t k
    show own_S p e below T10 (mkF m 15 #[.val (.ref a1), .val (.int (0 : Int32)), .val (.ref r3), .unset] [(.int (1 : Int32))]) _
    refine XS.ifNo X10.here hx rfl (hb hby d19_15) rfl ((if0 _ _).trans (feq (by decide : ¬ ((1 : Int32) = (0 : Int32)))).1) ?_
    show own_S p e below T10 (mkF m 18 #[.val (.ref a1), .val (.int (0 : Int32)), .val (.ref r3), .unset] []) _
    refine XS.aloadN X10.here hx rfl (hb hby d19_18) rfl rfl ?_
    exact k
  refine own_by sg19 ?_
  obtain ⟨cq19, kq19, q19a, q19b, q19c⟩ := isOf hZ hq10 Eq3
  obtain ⟨_, _, ⟨T19, L19, k19, n19⟩, -, X19, ⟨Lc19, hQ19, l19, y19, z19⟩, st19⟩ := X10.interfaceBack hx (xi := (⟨"java/util/Iterator", "next", "()Ljava/lang/Object;"⟩ : MethodName)) (y := (⟨"java/util/ArrayList$Itr", "next", "()Ljava/lang/Object;"⟩ : MethodName)) hown (mvT hZ (hw _ (List.mem_of_getElem? (i := 154) rfl))) (mvT hZ (hw _ (List.mem_of_getElem? (i := 155) rfl))) (mvT hZ (hw _ (List.mem_of_getElem? (i := 156) rfl))) (mvT hZ (hw _ (List.mem_of_getElem? (i := 157) rfl))) (mvT hZ (hw _ (List.mem_of_getElem? (i := 158) rfl))) (mvT hZ (hw _ (List.mem_of_getElem? (i := 159) rfl))) (mvT hZ (hw _ (List.mem_of_getElem? (i := 160) rfl))) (mvT hZ (hw _ (List.mem_of_getElem? (i := 149) rfl))) (by decide) (backOf (W := 0) (rm23 l Z a0 hw [] r3 a1 ed pp kA T3.heap n0 Z3 Eq3 Gthis03 GexpectedModCount3 (F_m.keep Kq3 List.not_mem_nil) Gcursor3 GlastRet3 (F_s.keep Kq3 List.not_mem_nil) (F_e.keep Kq3 List.not_mem_nil) (A_e.keep Kq3 List.not_mem_nil) ne_a1_r3 ne_ed_r3 g_r3) hZ (hw _ (List.mem_of_getElem? (i := 161) rfl)) (hw _ (List.mem_of_getElem? (i := 129) rfl)) (by decide) (by decide)) q19a q19b q19c (g := (mkF m 19 #[.val (.ref a1), .val (.int (0 : Int32)), .val (.ref r3), .unset] [(.ref r3)])) rfl (by rw [hml]; rfl) (Steps.refl _) (argsL := []) (rest := []) (lenOf pd_19_2 rfl) rfl (by show 2 * 0 + _ ≤ _; exact Nat.le_of_eq rfl) (hb hby d19_19) (fun _ _ => ⟨rfl, hq10, (by decide : 1 + 0 ≤ _), (by decide : 4 + 0 ≤ _)⟩)
  dsimp only [Pt.U, Pt.locs, Pt.cells, Pt.slots] at X19 l19 y19 z19 st19 hQ19
  subst l19 y19 z19
  obtain ⟨rfl, N19q, Kq19, Eq19, Gt19, Gc19⟩ := hQ19
  have N19 := Fr.app N10 N19q
  have fc := ((F_m.keep Kq3 List.not_mem_nil).keep Kq19 (fun h => ne_a1_r3 (List.mem_singleton.mp h)))
  have fc_2 := ((F_e.keep Kq3 List.not_mem_nil).keep Kq19 (fun h => ne_a1_r3 (List.mem_singleton.mp h)))
  have fc_3 := ((F_s.keep Kq3 List.not_mem_nil).keep Kq19 (fun h => ne_a1_r3 (List.mem_singleton.mp h)))
  have fc_4 := ((A_e.keep Kq3 List.not_mem_nil).keep Kq19 (fun h => ne_ed_r3 (List.mem_singleton.mp h)))
  have fc_5 := ((F_d.keep Kq3 List.not_mem_nil).keep Kq19 (fun h => ne_pp_r3 (List.mem_singleton.mp h)))
  have K19 : Keep h0 T19.heap [] := K3.trans Kq19 (fun x hx => by cases List.mem_singleton.mp hx; exact Or.inr sz_r3)
  have Z19 : n0 ≤ T19.heap.size := Nat.le_trans Z3 Kq19.1
  refine own_by (fun t k => st19.trans k) ?_
  obtain ⟨T24, X24, e24, st24⟩ := castY X19 hx hZ hown (hw _ (List.mem_of_getElem? (i := 4) rfl)) rfl (Ins.self ((E_p.keep Kq3).keep Kq19)) (g := (mkF m 24 #[.val (.ref a1), .val (.int (0 : Int32)), .val (.ref r3), .unset] [(.ref pp)])) rfl rfl (hb hby d19_24)
  refine own_by st24 ?_
  have sg30 : ∀ t, own_S p e below T24 (mkF m 30 #[.val (.ref a1), .val (.int (0 : Int32)), .val (.ref r3), .val (.ref pp)] [(.ref pp), (.int (0 : Int32))]) t → own_S p e below T24 (mkF m 27 #[.val (.ref a1), .val (.int (0 : Int32)), .val (.ref r3), .unset] [(.ref pp)]) t := by
    intro t k
    show own_S p e below T24 (mkF m 27 #[.val (.ref a1), .val (.int (0 : Int32)), .val (.ref r3), .unset] [(.ref pp)]) _
    refine XS.astoreN X24.here hx rfl (hb hby d19_27) rfl rfl (l' := #[.val (.ref a1), .val (.int (0 : Int32)), .val (.ref r3), .val (.ref pp)]) rfl ?_
    show own_S p e below T24 (mkF m 28 #[.val (.ref a1), .val (.int (0 : Int32)), .val (.ref r3), .val (.ref pp)] []) _
    refine XS.iloadN X24.here hx rfl (hb hby d19_28) rfl ?_
    show own_S p e below T24 (mkF m 29 #[.val (.ref a1), .val (.int (0 : Int32)), .val (.ref r3), .val (.ref pp)] [(.int (0 : Int32))]) _
    refine XS.aloadN X24.here hx rfl (hb hby d19_29) rfl rfl ?_
    exact k
  refine own_by sg30 ?_
  obtain ⟨T30, X30, e30, st30⟩ := getF X24 hx hZ hown (host := "") (Or.inl (hw _ (List.mem_of_getElem? (i := 18) rfl))) Via.refl e24 fc_5 (g := (mkF m 30 #[.val (.ref a1), .val (.int (0 : Int32)), .val (.ref r3), .val (.ref pp)] [(.ref pp), (.int (0 : Int32))])) rfl rfl (hb hby d19_30)
  refine own_by st30 ?_
  obtain ⟨cq33, kq33, q33a, q33b, q33c⟩ := isOf hZ e30 (E_Z.ext ((O.keep Kq3 all0).keep Kq19 (allS g_r3 all0)).2)
  obtain ⟨_, _, ⟨T33, L33, k33, n33⟩, -, X33, ⟨Lc33, hQ33, l33, y33, z33⟩, st33⟩ := X30.virtualBack hx (y := (⟨"java/math/BigDecimal", "scale", "()I"⟩ : MethodName)) (z := (⟨"java/math/BigDecimal", "scale", "()I"⟩ : MethodName)) hown (mvT hZ (hw _ (List.mem_of_getElem? (i := 168) rfl))) (mvT hZ (hw _ (List.mem_of_getElem? (i := 169) rfl))) (notFace_of_selects (args := #[]) (mvT hZ (hw _ (List.mem_of_getElem? (i := 171) rfl)))) (mvT hZ (hw _ (List.mem_of_getElem? (i := 171) rfl))) (mvT hZ (hw _ (List.mem_of_getElem? (i := 170) rfl))) (by decide) (backOf (W := 1) (rm25 l Z a0 hw [] wZ (0 : Int32) T19.heap n0 Z19 (FS_Z.ext ((O.keep Kq3 all0).keep Kq19 (allS g_r3 all0)).2)) hZ (hw _ (List.mem_of_getElem? (i := 172) rfl)) (hw _ (List.mem_of_getElem? (i := 7) rfl)) (by decide) (by decide)) q33a q33c (g := (mkF m 33 #[.val (.ref a1), .val (.int (0 : Int32)), .val (.ref r3), .val (.ref pp)] [(.ref wZ), (.int (0 : Int32))])) rfl (by rw [hml]; rfl) (Steps.refl _) (argsL := []) (rest := [(.int (0 : Int32))]) (lenOf pd_19_3 rfl) rfl (by show 2 * 0 + _ ≤ _; exact Nat.le_of_eq rfl) (hb hby d19_33) (fun _ _ => ⟨rfl, e30, (by decide : 1 + 0 ≤ _), (by decide : 4 + 0 ≤ _)⟩)
  dsimp only [Pt.U, Pt.locs, Pt.cells, Pt.slots] at X33 l33 y33 z33 st33 hQ33
  subst l33 y33 z33
  obtain ⟨rfl, N33q, hq33⟩ := hQ33
  have N33 := Fr.app N19 N33q
  refine own_by (fun t k => st33.trans k) ?_
  obtain ⟨_, _, ⟨T36, L36, k36, n36⟩, -, X36, ⟨Lc36, hQ36, l36, y36, z36⟩, st36⟩ := Jvm.LawKit.callS X33 hx (y := (⟨"java/lang/Math", "max", "(II)I"⟩ : MethodName)) hown (mvT hZ (hw _ (List.mem_of_getElem? (i := 175) rfl))) (mvT hZ (hw _ (List.mem_of_getElem? (i := 69) rfl))) (mvT hZ (hw _ (List.mem_of_getElem? (i := 70) rfl))) (mvT hZ (hw _ (List.mem_of_getElem? (i := 71) rfl))) (by decide) (backOf (W := 0) (rm11z l Z a0 hw []  T19.heap n0 Z19) hZ (hw _ (List.mem_of_getElem? (i := 71) rfl)) (hw _ (List.mem_of_getElem? (i := 70) rfl)) (by decide) (by decide)) (g := (mkF m 36 #[.val (.ref a1), .val (.int (0 : Int32)), .val (.ref r3), .val (.ref pp)] [(.int (0 : Int32)), (.int (0 : Int32))])) rfl (by rw [hml]; rfl) (argsL := [(.int (0 : Int32)), (.int (0 : Int32))]) (rest := []) (lenOf pd_19_4 rfl) rfl (by show 2 * 0 + _ ≤ _; exact Nat.le_of_eq rfl) (hb hby d19_36) (fun _ _ => ⟨rfl, hq33, (by decide : 1 + 0 ≤ _), (by decide : 4 + 0 ≤ _)⟩)
  dsimp only [Pt.U, Pt.locs, Pt.cells, Pt.slots] at X36 l36 y36 z36 st36 hQ36
  subst l36 y36 z36
  obtain ⟨rfl, N36q, hq36⟩ := hQ36
  have N36 := Fr.app N33 N36q
  refine own_by st36 ?_
  have sg10_2 : ∀ t, own_S p e below T36 (mkF m 10 #[.val (.ref a1), .val (.int (0 : Int32)), .val (.ref r3), .val (.ref pp)] [(.ref r3)]) t → own_S p e below T36 (mkF m 39 #[.val (.ref a1), .val (.int (0 : Int32)), .val (.ref r3), .val (.ref pp)] [(.int (0 : Int32))]) t := by
    intro t k
    show own_S p e below T36 (mkF m 39 #[.val (.ref a1), .val (.int (0 : Int32)), .val (.ref r3), .val (.ref pp)] [(.int (0 : Int32))]) _
    refine XS.istoreN X36.here hx rfl (hb hby d19_39) rfl (l' := #[.val (.ref a1), .val (.int (0 : Int32)), .val (.ref r3), .val (.ref pp)]) rfl ?_
    show own_S p e below T36 (mkF m 40 #[.val (.ref a1), .val (.int (0 : Int32)), .val (.ref r3), .val (.ref pp)] []) _
    refine XS.goto X36.here hx rfl (pc0 := 40) (pc' := 9) rfl (hb hby d19_40) (by decide) (by decide) ?_
    show own_S p e below T36 (mkF m 9 #[.val (.ref a1), .val (.int (0 : Int32)), .val (.ref r3), .val (.ref pp)] []) _
    refine XS.aloadN X36.here hx rfl (hb hby d19_9) rfl rfl ?_
    exact k
  refine own_by sg10_2 ?_
  obtain ⟨cq10_2, kq10_2, q10_2a, q10_2b, q10_2c⟩ := isOf hZ hq36 Eq19
  obtain ⟨_, _, ⟨T10_2, L10_2, k10_2, n10_2⟩, -, X10_2, ⟨Lc10_2, hQ10_2, l10_2, y10_2, z10_2⟩, st10_2⟩ := X36.interfaceBack hx (xi := (⟨"java/util/Iterator", "hasNext", "()Z"⟩ : MethodName)) (y := (⟨"java/util/ArrayList$Itr", "hasNext", "()Z"⟩ : MethodName)) hown (mvT hZ (hw _ (List.mem_of_getElem? (i := 142) rfl))) (mvT hZ (hw _ (List.mem_of_getElem? (i := 143) rfl))) (mvT hZ (hw _ (List.mem_of_getElem? (i := 144) rfl))) (mvT hZ (hw _ (List.mem_of_getElem? (i := 145) rfl))) (mvT hZ (hw _ (List.mem_of_getElem? (i := 146) rfl))) (mvT hZ (hw _ (List.mem_of_getElem? (i := 147) rfl))) (mvT hZ (hw _ (List.mem_of_getElem? (i := 148) rfl))) (mvT hZ (hw _ (List.mem_of_getElem? (i := 149) rfl))) (by decide) (backOf (W := 0) (rm22o l Z a0 hw [] r3 a1 T19.heap n0 Z19 Gc19 Gt19 fc_3) hZ (hw _ (List.mem_of_getElem? (i := 150) rfl)) (hw _ (List.mem_of_getElem? (i := 129) rfl)) (by decide) (by decide)) q10_2a q10_2b q10_2c (g := (mkF m 10 #[.val (.ref a1), .val (.int (0 : Int32)), .val (.ref r3), .val (.ref pp)] [(.ref r3)])) rfl (by rw [hml]; rfl) (Steps.refl _) (argsL := []) (rest := []) (lenOf pd_19_1 rfl) rfl (by show 2 * 0 + _ ≤ _; exact Nat.le_of_eq rfl) (hb hby d19_10) (fun _ _ => ⟨rfl, hq36, (by decide : 1 + 0 ≤ _), (by decide : 4 + 0 ≤ _)⟩)
  dsimp only [Pt.U, Pt.locs, Pt.cells, Pt.slots] at X10_2 l10_2 y10_2 z10_2 st10_2 hQ10_2
  subst l10_2 y10_2 z10_2
  obtain ⟨rfl, N10_2q, hq10_2⟩ := hQ10_2
  have N10_2 := Fr.app N36 N10_2q
  refine own_by (fun t k => st10_2.trans k) ?_
  have sg44 : ∀ t, own_S p e below T10_2 (mkF m 44 #[.val (.ref a1), .val (.int (0 : Int32)), .val (.ref r3), .val (.ref pp)] [(.int (0 : Int32))]) t → own_S p e below T10_2 (mkF m 15 #[.val (.ref a1), .val (.int (0 : Int32)), .val (.ref r3), .val (.ref pp)] [(.int (0 : Int32))]) t := by
    intro t k
    show own_S p e below T10_2 (mkF m 15 #[.val (.ref a1), .val (.int (0 : Int32)), .val (.ref r3), .val (.ref pp)] [(.int (0 : Int32))]) _
    refine XS.ifYes X10_2.here hx rfl (pc0 := 15) (pc' := 43) rfl (hb hby d19_15) rfl ((if0 _ _).trans (teq (by decide : (0 : Int32) = (0 : Int32))).1) (by decide) (by decide) ?_
    show own_S p e below T10_2 (mkF m 43 #[.val (.ref a1), .val (.int (0 : Int32)), .val (.ref r3), .val (.ref pp)] []) _
    refine XS.iloadN X10_2.here hx rfl (hb hby d19_43) rfl ?_
    exact k
  refine own_by sg44 ?_
  obtain ⟨fs, hr, hrun, hended, hW, hsame⟩ := X10_2.leave (v := some (.int (0 : Int32))) (fun h => by rw [Bd.returns] at h; cases h)
  refine ⟨_, _, ?_, hrun, hended, _, _, rfl, ?_, ⟨_, rfl⟩, hW, hsame.mono (by decide) (by decide)⟩
  · exact retI X10_2 hx Bd.returns (hb hby d19_44) hr
  · show Q19 Z a1 ed pp wZ kA h0 n0 _ T10_2.heap _
    rw [hq10_2]
    exact ⟨rfl, N10_2⟩
theorem d14_0 : decode jdk_35_method_57_code 0 = .ok (.lload_n 0, 1) := by decide +kernel
theorem d14_1 : decode jdk_35_method_57_code 1 = .ok (.bipush 63, 2) := by decide +kernel
theorem d14_3 : decode jdk_35_method_57_code 3 = .ok (.lshr, 1) := by decide +kernel
theorem d14_4 : decode jdk_35_method_57_code 4 = .ok (.lload_n 0, 1) := by decide +kernel
theorem d14_5 : decode jdk_35_method_57_code 5 = .ok (.lneg, 1) := by decide +kernel
theorem d14_6 : decode jdk_35_method_57_code 6 = .ok (.bipush 63, 2) := by decide +kernel
theorem d14_8 : decode jdk_35_method_57_code 8 = .ok (.lushr, 1) := by decide +kernel
theorem d14_9 : decode jdk_35_method_57_code 9 = .ok (.lor, 1) := by decide +kernel
theorem d14_10 : decode jdk_35_method_57_code 10 = .ok (.l2i, 1) := by decide +kernel
theorem d14_11 : decode jdk_35_method_57_code 11 = .ok (.ireturn, 1) := by decide +kernel
theorem pn_14 : plainFor (⟨"java/lang/Long", "signum", "(J)I"⟩ : MethodName) = true := by first | exact plainFor_of_name (by first | (simp [plainName, overriddenIn]; done) | decide +kernel) | decide +kernel | exact Jvm.Free.JP.mathPlain rfl (by decide +kernel)
theorem ef_14 (m : MethodId)  : entryFrame m #[(.long (0 : Int64))] 2 = mkF m 0 #[.val (.long (0 : Int64)), .second] [] := by first | (simp [entryFrame, mkF, argsToLocals, Value.category]; done) | rfl
def Q14 (Z : State)  (h0 : Heap) (n0 : Nat) (v : Option Value) (h : Heap) (L : List Loc) : Prop := v = some (.int 0) ∧ Fr n0 L ∧ h = h0
set_option maxRecDepth 65536 in
set_option maxHeartbeats 40000000 in
theorem rm14 (l : Launch) (Z : State) (a0 : Array Value) (hw : ∀ d ∈ tables_1, d.before a0 Z = true) (ws : List Jvm.Cond)  (h0 : Heap) (n0 : Nat) (Z0 : n0 ≤ h0.size) :
    MetFree l (⟨"java/lang/Long", "signum", "(J)I"⟩ : MethodName) (head1 (Jvm.Cond.code (⟨"java/lang/Long", "signum", "(J)I"⟩ : MethodName) jdk_35_method_57_code 2 (some .int) :: ws) ({ frames := 0, cells := 0, slots := 0, locals := 0 } : Room)) (fun a U => a = #[(.long (0 : Int64))] ∧ Z.Warmed39 U.vm ∧ U.heap = h0) (fun _ _ _ _ _ => True) (fun _ U o U' => ∃ v L, o = .returned v ∧ Q14 Z  h0 n0 v U'.heap L ∧ FrameEnd U o U' L ({ frames := 0, cells := 0, slots := 0, locals := 0 } : Room).cells ({ frames := 0, cells := 0, slots := 0, locals := 0 } : Room).slots) := by
  refine MetFree.of_bodySF pn_14 hisR ?_
  intro p e s m args below meth c s₁ Bd hml0 hP hK
  obtain ⟨rfl, hZ, hh⟩ := hP
  have hx := Bd.exec
  have hby := Bd.bytes
  have hml : c.maxLocals = 2 := hml0
  have hown : s.vm.findClass "java/lang/Long" = some m.cls := findClass_of_methodNamed Bd.named
  have hnm := (name_of_methodNamed Bd.named Bd.method).1
  have X0 : Stand p l e ({ frames := 0, cells := 0, slots := 0, locals := 0 } : Room) s m #[(.long (0 : Int64))] below meth c s₁ [] 0 0 := Stand.of_body Bd
  have e0 : s₁.heap = h0 := by rw [← hh, Bd.state]; rfl
  have N0 := Fr.nil n0
  refine own_at (castTop (ef_14 m )) ?_
  have sg11 : ∀ t, own_S p e below s₁ (mkF m 11 #[.val (.long (0 : Int64)), .second] [(.int ((((0 : Int64) >>> ((63 : Int32) &&& 0x3f).toInt64) ||| (((-(0 : Int64)).toUInt64 >>> ((63 : Int32) &&& 0x3f).toInt64.toUInt64).toInt64)).toInt32))]) t → own_S p e below s₁ (mkF m 0 #[.val (.long (0 : Int64)), .second] []) t := by
    intro t k
    show own_S p e below s₁ (mkF m 0 #[.val (.long (0 : Int64)), .second] []) _
    refine XS.lloadN X0.here hx rfl (hb hby d14_0) rfl ?_
    show own_S p e below s₁ (mkF m 1 #[.val (.long (0 : Int64)), .second] [(.long (0 : Int64))]) _
    refine XS.bipush X0.here hx rfl (hb hby d14_1) ?_
    show own_S p e below s₁ (mkF m 3 #[.val (.long (0 : Int64)), .second] [(.int (63 : Int32)), (.long (0 : Int64))]) _
    refine XS.lshr X0.here hx rfl (hb hby d14_3) rfl ?_
    show own_S p e below s₁ (mkF m 4 #[.val (.long (0 : Int64)), .second] [(.long ((0 : Int64) >>> ((63 : Int32) &&& 0x3f).toInt64))]) _
    refine XS.lloadN X0.here hx rfl (hb hby d14_4) rfl ?_
    show own_S p e below s₁ (mkF m 5 #[.val (.long (0 : Int64)), .second] [(.long (0 : Int64)), (.long ((0 : Int64) >>> ((63 : Int32) &&& 0x3f).toInt64))]) _
    refine XS.lneg X0.here hx rfl (hb hby d14_5) rfl ?_
    show own_S p e below s₁ (mkF m 6 #[.val (.long (0 : Int64)), .second] [(.long (-(0 : Int64))), (.long ((0 : Int64) >>> ((63 : Int32) &&& 0x3f).toInt64))]) _
    refine XS.bipush X0.here hx rfl (hb hby d14_6) ?_
    show own_S p e below s₁ (mkF m 8 #[.val (.long (0 : Int64)), .second] [(.int (63 : Int32)), (.long (-(0 : Int64))), (.long ((0 : Int64) >>> ((63 : Int32) &&& 0x3f).toInt64))]) _
    refine XS.lushr X0.here hx rfl (hb hby d14_8) rfl ?_
    show own_S p e below s₁ (mkF m 9 #[.val (.long (0 : Int64)), .second] [(.long (((-(0 : Int64)).toUInt64 >>> ((63 : Int32) &&& 0x3f).toInt64.toUInt64).toInt64)), (.long ((0 : Int64) >>> ((63 : Int32) &&& 0x3f).toInt64))]) _
    refine XS.lor X0.here hx rfl (hb hby d14_9) rfl ?_
    show own_S p e below s₁ (mkF m 10 #[.val (.long (0 : Int64)), .second] [(.long (((0 : Int64) >>> ((63 : Int32) &&& 0x3f).toInt64) ||| (((-(0 : Int64)).toUInt64 >>> ((63 : Int32) &&& 0x3f).toInt64.toUInt64).toInt64)))]) _
    refine XS.l2i X0.here hx rfl (hb hby d14_10) rfl ?_
    exact k
  refine own_by sg11 ?_
  obtain ⟨fs, hr, hrun, hended, hW, hsame⟩ := X0.leave (v := some (.int ((((0 : Int64) >>> ((63 : Int32) &&& 0x3f).toInt64) ||| (((-(0 : Int64)).toUInt64 >>> ((63 : Int32) &&& 0x3f).toInt64.toUInt64).toInt64)).toInt32))) (fun h => by rw [Bd.returns] at h; cases h)
  refine ⟨_, _, ?_, hrun, hended, _, _, rfl, ?_, ⟨_, rfl⟩, hW, hsame.mono (by decide) (by decide)⟩
  · exact retI X0 hx Bd.returns (hb hby d14_11) hr
  · show Q14 Z  h0 n0 _ s₁.heap _
    rw [e0]
    exact ⟨congrArg (fun z => some (Value.int z)) (by decide : ((((0 : Int64) >>> ((63 : Int32) &&& 0x3f).toInt64) ||| (((-(0 : Int64)).toUInt64 >>> ((63 : Int32) &&& 0x3f).toInt64.toUInt64).toInt64)).toInt32) = (0 : Int32)), N0, rfl⟩
theorem d13_0 : decode jdk_17_method_58_code 0 = .ok (.aload_n 0, 1) := by decide +kernel
theorem d13_1 : decode jdk_17_method_58_code 1 = .ok (.getfield 24, 3) := by decide +kernel
theorem d13_4 : decode jdk_17_method_58_code 4 = .ok (.ldc2_w 125, 3) := by decide +kernel
theorem d13_7 : decode jdk_17_method_58_code 7 = .ok (.lcmp, 1) := by decide +kernel
theorem d13_8 : decode jdk_17_method_58_code 8 = .ok (.ifCond .eq 13, 3) := by decide +kernel
theorem d13_11 : decode jdk_17_method_58_code 11 = .ok (.aload_n 0, 1) := by decide +kernel
theorem d13_12 : decode jdk_17_method_58_code 12 = .ok (.getfield 24, 3) := by decide +kernel
theorem d13_15 : decode jdk_17_method_58_code 15 = .ok (.invokestatic 596, 3) := by decide +kernel
theorem d13_18 : decode jdk_17_method_58_code 18 = .ok (.goto 10, 3) := by decide +kernel
theorem d13_28 : decode jdk_17_method_58_code 28 = .ok (.ireturn, 1) := by decide +kernel
theorem pn_13 : plainFor (⟨"java/math/BigDecimal", "signum", "()I"⟩ : MethodName) = true := by first | exact plainFor_of_name (by first | (simp [plainName, overriddenIn]; done) | decide +kernel) | decide +kernel | exact Jvm.Free.JP.mathPlain rfl (by decide +kernel)
theorem pd_13_0 : parseMethodDescriptor "(J)I" = some ⟨[.long], some .int⟩ := by decide +kernel
theorem ef_13 (m : MethodId) (a1 : Addr) : entryFrame m #[(.ref a1)] 1 = mkF m 0 #[.val (.ref a1)] [] := by first | (simp [entryFrame, mkF, argsToLocals, Value.category]; done) | rfl
def Q13 (Z : State) (a1 : Addr) (h0 : Heap) (n0 : Nat) (v : Option Value) (h : Heap) (L : List Loc) : Prop := v = some (.int 0) ∧ Fr n0 L ∧ h = h0
set_option maxRecDepth 65536 in
set_option maxHeartbeats 40000000 in
theorem rm13 (l : Launch) (Z : State) (a0 : Array Value) (hw : ∀ d ∈ tables_1, d.before a0 Z = true) (ws : List Jvm.Cond) (a1 : Addr) (h0 : Heap) (n0 : Nat) (Z0 : n0 ≤ h0.size) (F_i : Fld Z h0 a1 "java/math/BigDecimal" "intCompact" "J" (.long (0 : Int64))) :
    MetFree l (⟨"java/math/BigDecimal", "signum", "()I"⟩ : MethodName) (head1 (Jvm.Cond.code (⟨"java/math/BigDecimal", "signum", "()I"⟩ : MethodName) jdk_17_method_58_code 1 (some .int) :: ws) ({ frames := 1, cells := 0, slots := 0, locals := 13 } : Room)) (fun a U => a = #[(.ref a1)] ∧ Z.Warmed39 U.vm ∧ U.heap = h0) (fun _ _ _ _ _ => True) (fun _ U o U' => ∃ v L, o = .returned v ∧ Q13 Z a1 h0 n0 v U'.heap L ∧ FrameEnd U o U' L ({ frames := 1, cells := 0, slots := 0, locals := 13 } : Room).cells ({ frames := 1, cells := 0, slots := 0, locals := 13 } : Room).slots) := by
  refine MetFree.of_bodySF pn_13 hisR ?_
  intro p e s m args below meth c s₁ Bd hml0 hP hK
  obtain ⟨rfl, hZ, hh⟩ := hP
  have hx := Bd.exec
  have hby := Bd.bytes
  have hml : c.maxLocals = 1 := hml0
  have hown : s.vm.findClass "java/math/BigDecimal" = some m.cls := findClass_of_methodNamed Bd.named
  have hnm := (name_of_methodNamed Bd.named Bd.method).1
  have X0 : Stand p l e ({ frames := 1, cells := 0, slots := 0, locals := 13 } : Room) s m #[(.ref a1)] below meth c s₁ [] 0 0 := Stand.of_body Bd
  have e0 : s₁.heap = h0 := by rw [← hh, Bd.state]; rfl
  have N0 := Fr.nil n0
  refine own_at (castTop (ef_13 m a1)) ?_
  have sg1 : ∀ t, own_S p e below s₁ (mkF m 1 #[.val (.ref a1)] [(.ref a1)]) t → own_S p e below s₁ (mkF m 0 #[.val (.ref a1)] []) t := by
    intro t k
    show own_S p e below s₁ (mkF m 0 #[.val (.ref a1)] []) _
    refine XS.aloadN X0.here hx rfl (hb hby d13_0) rfl rfl ?_
    exact k
  refine own_by sg1 ?_
  obtain ⟨T1, X1, e1, st1⟩ := getF X0 hx hZ hown (host := "") (Or.inl (hw _ (List.mem_of_getElem? (i := 85) rfl))) Via.refl e0 F_i (g := (mkF m 1 #[.val (.ref a1)] [(.ref a1)])) rfl rfl (hb hby d13_1)
  refine own_by st1 ?_
  have sg12 : ∀ t, own_S p e below T1 (mkF m 12 #[.val (.ref a1)] [(.ref a1)]) t → own_S p e below T1 (mkF m 4 #[.val (.ref a1)] [(.long (0 : Int64))]) t := by
    intro t k
    show own_S p e below T1 (mkF m 4 #[.val (.ref a1)] [(.long (0 : Int64))]) _
    refine X1.ldc2Long hx hown (mvT hZ (hw _ (List.mem_of_getElem? (i := 87) rfl))) (g := (mkF m 4 #[.val (.ref a1)] [(.long (0 : Int64))])) rfl (hb hby d13_4) _ ?_
    show own_S p e below T1 (mkF m 7 #[.val (.ref a1)] [(.long (-9223372036854775808 : Int64)), (.long (0 : Int64))]) _
    refine XS.lcmp X1.here hx rfl (hb hby d13_7) rfl ?_
    show own_S p e below T1 (mkF m 8 #[.val (.ref a1)] [(.int (lcmpW (0 : Int64) (-9223372036854775808 : Int64)))]) _
    refine XS.ifNo X1.here hx rfl (hb hby d13_8) rfl ((if0 _ _).trans (feq (by decide : ¬ ((lcmpW (0 : Int64) (-9223372036854775808 : Int64)) = (0 : Int32)))).1) ?_
    show own_S p e below T1 (mkF m 11 #[.val (.ref a1)] []) _
    refine XS.aloadN X1.here hx rfl (hb hby d13_11) rfl rfl ?_
    exact k
  refine own_by sg12 ?_
  obtain ⟨T12, X12, e12, st12⟩ := getF X1 hx hZ hown (host := "") (Or.inl (hw _ (List.mem_of_getElem? (i := 85) rfl))) Via.refl e1 F_i (g := (mkF m 12 #[.val (.ref a1)] [(.ref a1)])) rfl rfl (hb hby d13_12)
  refine own_by st12 ?_
  obtain ⟨_, _, ⟨T15, L15, k15, n15⟩, -, X15, ⟨Lc15, hQ15, l15, y15, z15⟩, st15⟩ := Jvm.LawKit.callS X12 hx (y := (⟨"java/lang/Long", "signum", "(J)I"⟩ : MethodName)) hown (mvT hZ (hw _ (List.mem_of_getElem? (i := 88) rfl))) (mvT hZ (hw _ (List.mem_of_getElem? (i := 89) rfl))) (mvT hZ (hw _ (List.mem_of_getElem? (i := 90) rfl))) (mvT hZ (hw _ (List.mem_of_getElem? (i := 91) rfl))) (by decide) (backOf (W := 0) (rm14 l Z a0 hw []  h0 n0 Z0) hZ (hw _ (List.mem_of_getElem? (i := 91) rfl)) (hw _ (List.mem_of_getElem? (i := 90) rfl)) (by decide) (by decide)) (g := (mkF m 15 #[.val (.ref a1)] [(.long (0 : Int64))])) rfl (by rw [hml]; rfl) (argsL := [(.long (0 : Int64))]) (rest := []) (lenOf pd_13_0 rfl) rfl (by show 2 * 0 + _ ≤ _; exact Nat.le_of_eq rfl) (hb hby d13_15) (fun _ _ => ⟨rfl, e12, (by decide : 0 + 0 ≤ _), (by decide : 0 + 0 ≤ _)⟩)
  dsimp only [Pt.U, Pt.locs, Pt.cells, Pt.slots] at X15 l15 y15 z15 st15 hQ15
  subst l15 y15 z15
  obtain ⟨rfl, N15q, hq15⟩ := hQ15
  have N15 := Fr.app N0 N15q
  refine own_by st15 ?_
  have sg28 : ∀ t, own_S p e below T15 (mkF m 28 #[.val (.ref a1)] [(.int (0 : Int32))]) t → own_S p e below T15 (mkF m 18 #[.val (.ref a1)] [(.int (0 : Int32))]) t := by
    intro t k
    show own_S p e below T15 (mkF m 18 #[.val (.ref a1)] [(.int (0 : Int32))]) _
    refine XS.goto X15.here hx rfl (pc0 := 18) (pc' := 28) rfl (hb hby d13_18) (by decide) (by decide) ?_
    exact k
  refine own_by sg28 ?_
  obtain ⟨fs, hr, hrun, hended, hW, hsame⟩ := X15.leave (v := some (.int (0 : Int32))) (fun h => by rw [Bd.returns] at h; cases h)
  refine ⟨_, _, ?_, hrun, hended, _, _, rfl, ?_, ⟨_, rfl⟩, hW, hsame.mono (by decide) (by decide)⟩
  · exact retI X15 hx Bd.returns (hb hby d13_28) hr
  · show Q13 Z a1 h0 n0 _ T15.heap _
    rw [hq15]
    exact ⟨rfl, N15, rfl⟩
theorem d12_0 : decode prog_40_method_5_code 0 = .ok (.aload_n 0, 1) := by decide +kernel
theorem d12_1 : decode prog_40_method_5_code 1 = .ok (.getfield 16, 3) := by decide +kernel
theorem d12_4 : decode prog_40_method_5_code 4 = .ok (.invokevirtual 47, 3) := by decide +kernel
theorem d12_7 : decode prog_40_method_5_code 7 = .ok (.ifCond .ne 7, 3) := by decide +kernel
theorem d12_10 : decode prog_40_method_5_code 10 = .ok (.iconst 1, 1) := by decide +kernel
theorem d12_11 : decode prog_40_method_5_code 11 = .ok (.goto 4, 3) := by decide +kernel
theorem d12_15 : decode prog_40_method_5_code 15 = .ok (.ireturn, 1) := by decide +kernel
theorem pn_12 : plainFor (⟨"com/example/catchment/catchment/Position", "isNode", "()Z"⟩ : MethodName) = true := by first | exact plainFor_of_name (by first | (simp [plainName, overriddenIn]; done) | decide +kernel) | decide +kernel | exact Jvm.Free.JP.mathPlain rfl (by decide +kernel)
theorem pd_12_0 : parseMethodDescriptor "()I" = some ⟨[], some .int⟩ := by decide +kernel
theorem ef_12 (m : MethodId) (a1 : Addr) : entryFrame m #[(.ref a1)] 1 = mkF m 0 #[.val (.ref a1)] [] := by first | (simp [entryFrame, mkF, argsToLocals, Value.category]; done) | rfl
def Q12 (Z : State) (a1 : Addr) (wZ : Addr) (h0 : Heap) (n0 : Nat) (v : Option Value) (h : Heap) (L : List Loc) : Prop := v = some (.int 1) ∧ Fr n0 L ∧ h = h0
set_option maxRecDepth 65536 in
set_option maxHeartbeats 40000000 in
theorem rm12 (l : Launch) (Z : State) (a0 : Array Value) (hw : ∀ d ∈ tables_1, d.before a0 Z = true) (ws : List Jvm.Cond) (a1 : Addr) (wZ : Addr) (h0 : Heap) (n0 : Nat) (Z0 : n0 ≤ h0.size) (F_d : Fld Z h0 a1 "com/example/catchment/catchment/Position" "distance" "Ljava/math/BigDecimal;" (.ref wZ)) (E_Z : Exa Z h0 wZ "java/math/BigDecimal") (F_i : Fld Z h0 wZ "java/math/BigDecimal" "intCompact" "J" (.long (0 : Int64))) :
    MetFree l (⟨"com/example/catchment/catchment/Position", "isNode", "()Z"⟩ : MethodName) (head1 (Jvm.Cond.code (⟨"com/example/catchment/catchment/Position", "isNode", "()Z"⟩ : MethodName) prog_40_method_5_code 1 (some .boolean) :: ws) ({ frames := 2, cells := 0, slots := 0, locals := 25 } : Room)) (fun a U => a = #[(.ref a1)] ∧ Z.Warmed39 U.vm ∧ U.heap = h0) (fun _ _ _ _ _ => True) (fun _ U o U' => ∃ v L, o = .returned v ∧ Q12 Z a1 wZ h0 n0 v U'.heap L ∧ FrameEnd U o U' L ({ frames := 2, cells := 0, slots := 0, locals := 25 } : Room).cells ({ frames := 2, cells := 0, slots := 0, locals := 25 } : Room).slots) := by
  refine MetFree.of_bodySF pn_12 hisR ?_
  intro p e s m args below meth c s₁ Bd hml0 hP hK
  obtain ⟨rfl, hZ, hh⟩ := hP
  have hx := Bd.exec
  have hby := Bd.bytes
  have hml : c.maxLocals = 1 := hml0
  have hown : s.vm.findClass "com/example/catchment/catchment/Position" = some m.cls := findClass_of_methodNamed Bd.named
  have hnm := (name_of_methodNamed Bd.named Bd.method).1
  have X0 : Stand p l e ({ frames := 2, cells := 0, slots := 0, locals := 25 } : Room) s m #[(.ref a1)] below meth c s₁ [] 0 0 := Stand.of_body Bd
  have e0 : s₁.heap = h0 := by rw [← hh, Bd.state]; rfl
  have N0 := Fr.nil n0
  refine own_at (castTop (ef_12 m a1)) ?_
  have sg1 : ∀ t, own_S p e below s₁ (mkF m 1 #[.val (.ref a1)] [(.ref a1)]) t → own_S p e below s₁ (mkF m 0 #[.val (.ref a1)] []) t := by
    intro t k
    show own_S p e below s₁ (mkF m 0 #[.val (.ref a1)] []) _
    refine XS.aloadN X0.here hx rfl (hb hby d12_0) rfl rfl ?_
    exact k
  refine own_by sg1 ?_
  obtain ⟨T1, X1, e1, st1⟩ := getF X0 hx hZ hown (host := "") (Or.inl (hw _ (List.mem_of_getElem? (i := 18) rfl))) Via.refl e0 F_d (g := (mkF m 1 #[.val (.ref a1)] [(.ref a1)])) rfl rfl (hb hby d12_1)
  refine own_by st1 ?_
  obtain ⟨cq4, kq4, q4a, q4b, q4c⟩ := isOf hZ e1 E_Z
  obtain ⟨_, _, ⟨T4, L4, k4, n4⟩, -, X4, ⟨Lc4, hQ4, l4, y4, z4⟩, st4⟩ := X1.virtualBack hx (y := (⟨"java/math/BigDecimal", "signum", "()I"⟩ : MethodName)) (z := (⟨"java/math/BigDecimal", "signum", "()I"⟩ : MethodName)) hown (mvT hZ (hw _ (List.mem_of_getElem? (i := 80) rfl))) (mvT hZ (hw _ (List.mem_of_getElem? (i := 81) rfl))) (notFace_of_selects (args := #[]) (mvT hZ (hw _ (List.mem_of_getElem? (i := 83) rfl)))) (mvT hZ (hw _ (List.mem_of_getElem? (i := 83) rfl))) (mvT hZ (hw _ (List.mem_of_getElem? (i := 82) rfl))) (by decide) (backOf (W := 0) (rm13 l Z a0 hw [] wZ h0 n0 Z0 F_i) hZ (hw _ (List.mem_of_getElem? (i := 84) rfl)) (hw _ (List.mem_of_getElem? (i := 7) rfl)) (by decide) (by decide)) q4a q4c (g := (mkF m 4 #[.val (.ref a1)] [(.ref wZ)])) rfl (by rw [hml]; rfl) (Steps.refl _) (argsL := []) (rest := []) (lenOf pd_12_0 rfl) rfl (by show 2 * 0 + _ ≤ _; exact Nat.le_of_eq rfl) (hb hby d12_4) (fun _ _ => ⟨rfl, e1, (by decide : 0 + 0 ≤ _), (by decide : 0 + 0 ≤ _)⟩)
  dsimp only [Pt.U, Pt.locs, Pt.cells, Pt.slots] at X4 l4 y4 z4 st4 hQ4
  subst l4 y4 z4
  obtain ⟨rfl, N4q, hq4⟩ := hQ4
  have N4 := Fr.app N0 N4q
  refine own_by (fun t k => st4.trans k) ?_
  have sg15 : ∀ t, own_S p e below T4 (mkF m 15 #[.val (.ref a1)] [(.int (1 : Int32))]) t → own_S p e below T4 (mkF m 7 #[.val (.ref a1)] [(.int (0 : Int32))]) t := by
    intro t k
    show own_S p e below T4 (mkF m 7 #[.val (.ref a1)] [(.int (0 : Int32))]) _
    refine XS.ifNo X4.here hx rfl (hb hby d12_7) rfl ((if0 _ _).trans (teq (by decide : (0 : Int32) = (0 : Int32))).2) ?_
    show own_S p e below T4 (mkF m 10 #[.val (.ref a1)] []) _
    refine XS.iconst X4.here hx rfl (hb hby d12_10) ?_
    show own_S p e below T4 (mkF m 11 #[.val (.ref a1)] [(.int (1 : Int32))]) _
    refine XS.goto X4.here hx rfl (pc0 := 11) (pc' := 15) rfl (hb hby d12_11) (by decide) (by decide) ?_
    exact k
  refine own_by sg15 ?_
  obtain ⟨fs, hr, hrun, hended, hW, hsame⟩ := X4.leave (v := some (.int (1 : Int32))) (fun h => by rw [Bd.returns] at h; cases h)
  refine ⟨_, _, ?_, hrun, hended, _, _, rfl, ?_, ⟨_, rfl⟩, hW, hsame.mono (by decide) (by decide)⟩
  · exact retN X4 hx (t := .boolean) Bd.returns (by simp) (hb hby d12_15) hr
  · show Q12 Z a1 wZ h0 n0 _ T4.heap _
    rw [hq4]
    exact ⟨rfl, N4, rfl⟩
theorem d15_0 : decode prog_40_method_6_code 0 = .ok (.aload_n 0, 1) := by decide +kernel
theorem d15_1 : decode prog_40_method_6_code 1 = .ok (.getfield 7, 3) := by decide +kernel
theorem d15_4 : decode prog_40_method_6_code 4 = .ok (.ireturn, 1) := by decide +kernel
theorem pn_15 : plainFor (⟨"com/example/catchment/catchment/Position", "from", "()I"⟩ : MethodName) = true := by first | exact plainFor_of_name (by first | (simp [plainName, overriddenIn]; done) | decide +kernel) | decide +kernel | exact Jvm.Free.JP.mathPlain rfl (by decide +kernel)
theorem ef_15 (m : MethodId) (a1 : Addr) : entryFrame m #[(.ref a1)] 1 = mkF m 0 #[.val (.ref a1)] [] := by first | (simp [entryFrame, mkF, argsToLocals, Value.category]; done) | rfl
def Q15 (Z : State) (a1 : Addr) (z : Int32) (h0 : Heap) (n0 : Nat) (v : Option Value) (h : Heap) (L : List Loc) : Prop := v = some (.int z) ∧ Fr n0 L ∧ h = h0
set_option maxRecDepth 65536 in
set_option maxHeartbeats 40000000 in
theorem rm15 (l : Launch) (Z : State) (a0 : Array Value) (hw : ∀ d ∈ tables_1, d.before a0 Z = true) (ws : List Jvm.Cond) (a1 : Addr) (z : Int32) (h0 : Heap) (n0 : Nat) (Z0 : n0 ≤ h0.size) (F : Fld Z h0 a1 "com/example/catchment/catchment/Position" "from" "I" (.int z)) :
    MetFree l (⟨"com/example/catchment/catchment/Position", "from", "()I"⟩ : MethodName) (head1 (Jvm.Cond.code (⟨"com/example/catchment/catchment/Position", "from", "()I"⟩ : MethodName) prog_40_method_6_code 1 (some .int) :: ws) ({ frames := 0, cells := 0, slots := 0, locals := 0 } : Room)) (fun a U => a = #[(.ref a1)] ∧ Z.Warmed39 U.vm ∧ U.heap = h0) (fun _ _ _ _ _ => True) (fun _ U o U' => ∃ v L, o = .returned v ∧ Q15 Z a1 z h0 n0 v U'.heap L ∧ FrameEnd U o U' L ({ frames := 0, cells := 0, slots := 0, locals := 0 } : Room).cells ({ frames := 0, cells := 0, slots := 0, locals := 0 } : Room).slots) := by
  refine MetFree.of_bodySF pn_15 hisR ?_
  intro p e s m args below meth c s₁ Bd hml0 hP hK
  obtain ⟨rfl, hZ, hh⟩ := hP
  have hx := Bd.exec
  have hby := Bd.bytes
  have hml : c.maxLocals = 1 := hml0
  have hown : s.vm.findClass "com/example/catchment/catchment/Position" = some m.cls := findClass_of_methodNamed Bd.named
  have hnm := (name_of_methodNamed Bd.named Bd.method).1
  have X0 : Stand p l e ({ frames := 0, cells := 0, slots := 0, locals := 0 } : Room) s m #[(.ref a1)] below meth c s₁ [] 0 0 := Stand.of_body Bd
  have e0 : s₁.heap = h0 := by rw [← hh, Bd.state]; rfl
  have N0 := Fr.nil n0
  refine own_at (castTop (ef_15 m a1)) ?_
  have sg1 : ∀ t, own_S p e below s₁ (mkF m 1 #[.val (.ref a1)] [(.ref a1)]) t → own_S p e below s₁ (mkF m 0 #[.val (.ref a1)] []) t := by
    intro t k
    show own_S p e below s₁ (mkF m 0 #[.val (.ref a1)] []) _
    refine XS.aloadN X0.here hx rfl (hb hby d15_0) rfl rfl ?_
    exact k
  refine own_by sg1 ?_
  obtain ⟨T1, X1, e1, st1⟩ := getF X0 hx hZ hown (host := "") (Or.inl (hw _ (List.mem_of_getElem? (i := 14) rfl))) Via.refl e0 F (g := (mkF m 1 #[.val (.ref a1)] [(.ref a1)])) rfl rfl (hb hby d15_1)
  refine own_by st1 ?_
  obtain ⟨fs, hr, hrun, hended, hW, hsame⟩ := X1.leave (v := some (.int z)) (fun h => by rw [Bd.returns] at h; cases h)
  refine ⟨_, _, ?_, hrun, hended, _, _, rfl, ?_, ⟨_, rfl⟩, hW, hsame.mono (by decide) (by decide)⟩
  · exact retI X1 hx Bd.returns (hb hby d15_4) hr
  · show Q15 Z a1 z h0 n0 _ T1.heap _
    rw [e1]
    exact ⟨rfl, N0, rfl⟩
theorem d16_0 : decode prog_40_method_7_code 0 = .ok (.aload_n 0, 1) := by decide +kernel
theorem d16_1 : decode prog_40_method_7_code 1 = .ok (.getfield 13, 3) := by decide +kernel
theorem d16_4 : decode prog_40_method_7_code 4 = .ok (.ireturn, 1) := by decide +kernel
theorem pn_16 : plainFor (⟨"com/example/catchment/catchment/Position", "to", "()I"⟩ : MethodName) = true := by first | exact plainFor_of_name (by first | (simp [plainName, overriddenIn]; done) | decide +kernel) | decide +kernel | exact Jvm.Free.JP.mathPlain rfl (by decide +kernel)
theorem ef_16 (m : MethodId) (a1 : Addr) : entryFrame m #[(.ref a1)] 1 = mkF m 0 #[.val (.ref a1)] [] := by first | (simp [entryFrame, mkF, argsToLocals, Value.category]; done) | rfl
def Q16 (Z : State) (a1 : Addr) (z : Int32) (h0 : Heap) (n0 : Nat) (v : Option Value) (h : Heap) (L : List Loc) : Prop := v = some (.int z) ∧ Fr n0 L ∧ h = h0
set_option maxRecDepth 65536 in
set_option maxHeartbeats 40000000 in
theorem rm16 (l : Launch) (Z : State) (a0 : Array Value) (hw : ∀ d ∈ tables_1, d.before a0 Z = true) (ws : List Jvm.Cond) (a1 : Addr) (z : Int32) (h0 : Heap) (n0 : Nat) (Z0 : n0 ≤ h0.size) (F : Fld Z h0 a1 "com/example/catchment/catchment/Position" "to" "I" (.int z)) :
    MetFree l (⟨"com/example/catchment/catchment/Position", "to", "()I"⟩ : MethodName) (head1 (Jvm.Cond.code (⟨"com/example/catchment/catchment/Position", "to", "()I"⟩ : MethodName) prog_40_method_7_code 1 (some .int) :: ws) ({ frames := 0, cells := 0, slots := 0, locals := 0 } : Room)) (fun a U => a = #[(.ref a1)] ∧ Z.Warmed39 U.vm ∧ U.heap = h0) (fun _ _ _ _ _ => True) (fun _ U o U' => ∃ v L, o = .returned v ∧ Q16 Z a1 z h0 n0 v U'.heap L ∧ FrameEnd U o U' L ({ frames := 0, cells := 0, slots := 0, locals := 0 } : Room).cells ({ frames := 0, cells := 0, slots := 0, locals := 0 } : Room).slots) := by
  refine MetFree.of_bodySF pn_16 hisR ?_
  intro p e s m args below meth c s₁ Bd hml0 hP hK
  obtain ⟨rfl, hZ, hh⟩ := hP
  have hx := Bd.exec
  have hby := Bd.bytes
  have hml : c.maxLocals = 1 := hml0
  have hown : s.vm.findClass "com/example/catchment/catchment/Position" = some m.cls := findClass_of_methodNamed Bd.named
  have hnm := (name_of_methodNamed Bd.named Bd.method).1
  have X0 : Stand p l e ({ frames := 0, cells := 0, slots := 0, locals := 0 } : Room) s m #[(.ref a1)] below meth c s₁ [] 0 0 := Stand.of_body Bd
  have e0 : s₁.heap = h0 := by rw [← hh, Bd.state]; rfl
  have N0 := Fr.nil n0
  refine own_at (castTop (ef_16 m a1)) ?_
  have sg1 : ∀ t, own_S p e below s₁ (mkF m 1 #[.val (.ref a1)] [(.ref a1)]) t → own_S p e below s₁ (mkF m 0 #[.val (.ref a1)] []) t := by
    intro t k
    show own_S p e below s₁ (mkF m 0 #[.val (.ref a1)] []) _
    refine XS.aloadN X0.here hx rfl (hb hby d16_0) rfl rfl ?_
    exact k
  refine own_by sg1 ?_
  obtain ⟨T1, X1, e1, st1⟩ := getF X0 hx hZ hown (host := "") (Or.inl (hw _ (List.mem_of_getElem? (i := 16) rfl))) Via.refl e0 F (g := (mkF m 1 #[.val (.ref a1)] [(.ref a1)])) rfl rfl (hb hby d16_1)
  refine own_by st1 ?_
  obtain ⟨fs, hr, hrun, hended, hW, hsame⟩ := X1.leave (v := some (.int z)) (fun h => by rw [Bd.returns] at h; cases h)
  refine ⟨_, _, ?_, hrun, hended, _, _, rfl, ?_, ⟨_, rfl⟩, hW, hsame.mono (by decide) (by decide)⟩
  · exact retI X1 hx Bd.returns (hb hby d16_4) hr
  · show Q16 Z a1 z h0 n0 _ T1.heap _
    rw [e1]
    exact ⟨rfl, N0, rfl⟩
theorem d18_0 : decode jdk_17_method_72_code 0 = .ok (.aload_n 1, 1) := by decide +kernel
theorem d18_1 : decode jdk_17_method_72_code 1 = .ok (.instanceof 3, 3) := by decide +kernel
theorem d18_4 : decode jdk_17_method_72_code 4 = .ok (.ifCond .eq 11, 3) := by decide +kernel
theorem d18_7 : decode jdk_17_method_72_code 7 = .ok (.aload_n 1, 1) := by decide +kernel
theorem d18_8 : decode jdk_17_method_72_code 8 = .ok (.checkcast 3, 3) := by decide +kernel
theorem d18_11 : decode jdk_17_method_72_code 11 = .ok (.astore_n 2, 1) := by decide +kernel
theorem d18_12 : decode jdk_17_method_72_code 12 = .ok (.goto 5, 3) := by decide +kernel
theorem d18_17 : decode jdk_17_method_72_code 17 = .ok (.aload_n 1, 1) := by decide +kernel
theorem d18_18 : decode jdk_17_method_72_code 18 = .ok (.aload_n 0, 1) := by decide +kernel
theorem d18_19 : decode jdk_17_method_72_code 19 = .ok (.if_acmp .ne 5, 3) := by decide +kernel
theorem d18_22 : decode jdk_17_method_72_code 22 = .ok (.iconst 1, 1) := by decide +kernel
theorem d18_23 : decode jdk_17_method_72_code 23 = .ok (.ireturn, 1) := by decide +kernel
theorem pn_18 : plainFor (⟨"java/math/BigDecimal", "equals", "(Ljava/lang/Object;)Z"⟩ : MethodName) = true := by first | exact plainFor_of_name (by first | (simp [plainName, overriddenIn]; done) | decide +kernel) | decide +kernel | exact Jvm.Free.JP.mathPlain rfl (by decide +kernel)
theorem ef_18 (m : MethodId) (a1 : Addr) : entryFrame m #[(.ref a1), (.ref a1)] 7 = mkF m 0 #[.val (.ref a1), .val (.ref a1), .unset, .unset, .unset, .unset, .unset] [] := by first | (simp [entryFrame, mkF, argsToLocals, Value.category]; done) | rfl
def Q18 (Z : State) (a1 : Addr) (h0 : Heap) (n0 : Nat) (v : Option Value) (h : Heap) (L : List Loc) : Prop := v = some (.int 1) ∧ Fr n0 L ∧ h = h0
set_option maxRecDepth 65536 in
set_option maxHeartbeats 40000000 in
theorem rm18 (l : Launch) (Z : State) (a0 : Array Value) (hw : ∀ d ∈ tables_1, d.before a0 Z = true) (ws : List Jvm.Cond) (a1 : Addr) (h0 : Heap) (n0 : Nat) (Z0 : n0 ≤ h0.size) (E_a1 : Exa Z h0 a1 "java/math/BigDecimal") :
    MetFree l (⟨"java/math/BigDecimal", "equals", "(Ljava/lang/Object;)Z"⟩ : MethodName) (head1 (Jvm.Cond.code (⟨"java/math/BigDecimal", "equals", "(Ljava/lang/Object;)Z"⟩ : MethodName) jdk_17_method_72_code 7 (some .boolean) :: ws) ({ frames := 0, cells := 0, slots := 0, locals := 0 } : Room)) (fun a U => a = #[(.ref a1), (.ref a1)] ∧ Z.Warmed39 U.vm ∧ U.heap = h0) (fun _ _ _ _ _ => True) (fun _ U o U' => ∃ v L, o = .returned v ∧ Q18 Z a1 h0 n0 v U'.heap L ∧ FrameEnd U o U' L ({ frames := 0, cells := 0, slots := 0, locals := 0 } : Room).cells ({ frames := 0, cells := 0, slots := 0, locals := 0 } : Room).slots) := by
  refine MetFree.of_bodySF pn_18 hisR ?_
  intro p e s m args below meth c s₁ Bd hml0 hP hK
  obtain ⟨rfl, hZ, hh⟩ := hP
  have hx := Bd.exec
  have hby := Bd.bytes
  have hml : c.maxLocals = 7 := hml0
  have hown : s.vm.findClass "java/math/BigDecimal" = some m.cls := findClass_of_methodNamed Bd.named
  have hnm := (name_of_methodNamed Bd.named Bd.method).1
  have X0 : Stand p l e ({ frames := 0, cells := 0, slots := 0, locals := 0 } : Room) s m #[(.ref a1), (.ref a1)] below meth c s₁ [] 0 0 := Stand.of_body Bd
  have e0 : s₁.heap = h0 := by rw [← hh, Bd.state]; rfl
  have N0 := Fr.nil n0
  refine own_at (castTop (ef_18 m a1)) ?_
  have sg1 : ∀ t, own_S p e below s₁ (mkF m 1 (own_ARRUUUUU a1 a1) [(.ref a1)]) t → own_S p e below s₁ (mkF m 0 (own_ARRUUUUU a1 a1) []) t := by
    intro t k
    show own_S p e below s₁ (mkF m 0 (own_ARRUUUUU a1 a1) []) _
    refine XS.aloadN X0.here hx rfl (hb hby d18_0) rfl rfl ?_
    exact k
  refine own_by sg1 ?_
  obtain ⟨T1, X1, e1, st1⟩ := instY X0 hx hZ hown (hw _ (List.mem_of_getElem? (i := 113) rfl)) e0 (Ins.self E_a1) (g := (mkF m 1 (own_ARRUUUUU a1 a1) [(.ref a1)])) rfl rfl (hb hby d18_1)
  refine own_by st1 ?_
  have sg8 : ∀ t, own_S p e below T1 (mkF m 8 (own_ARRUUUUU a1 a1) [(.ref a1)]) t → own_S p e below T1 (mkF m 4 (own_ARRUUUUU a1 a1) [(.int (1 : Int32))]) t := by
    intro t k
    show own_S p e below T1 (mkF m 4 (own_ARRUUUUU a1 a1) [(.int (1 : Int32))]) _
    refine XS.ifNo X1.here hx rfl (hb hby d18_4) rfl ((if0 _ _).trans (feq (by decide : ¬ ((1 : Int32) = (0 : Int32)))).1) ?_
    show own_S p e below T1 (mkF m 7 (own_ARRUUUUU a1 a1) []) _
    refine XS.aloadN X1.here hx rfl (hb hby d18_7) rfl rfl ?_
    exact k
  refine own_by sg8 ?_
  obtain ⟨T8, X8, e8, st8⟩ := castY X1 hx hZ hown (hw _ (List.mem_of_getElem? (i := 113) rfl)) e1 (Ins.self E_a1) (g := (mkF m 8 (own_ARRUUUUU a1 a1) [(.ref a1)])) rfl rfl (hb hby d18_8)
  refine own_by st8 ?_
  have sg23 : ∀ t, own_S p e below T8 (mkF m 23 (own_ARRRUUUU a1 a1 a1) [(.int (1 : Int32))]) t → own_S p e below T8 (mkF m 11 (own_ARRUUUUU a1 a1) [(.ref a1)]) t := by
    intro t k
    show own_S p e below T8 (mkF m 11 (own_ARRUUUUU a1 a1) [(.ref a1)]) _
    refine XS.astoreN X8.here hx rfl (hb hby d18_11) rfl rfl (l' := (own_ARRRUUUU a1 a1 a1)) rfl ?_
    show own_S p e below T8 (mkF m 12 (own_ARRRUUUU a1 a1 a1) []) _
    refine XS.goto X8.here hx rfl (pc0 := 12) (pc' := 17) rfl (hb hby d18_12) (by decide) (by decide) ?_
    show own_S p e below T8 (mkF m 17 (own_ARRRUUUU a1 a1 a1) []) _
    refine XS.aloadN X8.here hx rfl (hb hby d18_17) rfl rfl ?_
    show own_S p e below T8 (mkF m 18 (own_ARRRUUUU a1 a1 a1) [(.ref a1)]) _
    refine XS.aloadN X8.here hx rfl (hb hby d18_18) rfl rfl ?_
    show own_S p e below T8 (mkF m 19 (own_ARRRUUUU a1 a1 a1) [(.ref a1), (.ref a1)]) _
    refine Jvm.RoadKit.acmp (g := (mkF m 19 (own_ARRRUUUU a1 a1 a1) [(.ref a1), (.ref a1)])) X8 hx rfl rfl rfl (pc0 := 19) (pc' := 22) (same := true) rfl (hb hby d18_19) rfl (decide_eq_true (congrArg Value.ref (rfl : a1 = a1))) (by decide) (by decide) ?_
    show own_S p e below T8 (mkF m 22 (own_ARRRUUUU a1 a1 a1) []) _
    refine XS.iconst X8.here hx rfl (hb hby d18_22) ?_
    exact k
  refine own_by sg23 ?_
  obtain ⟨fs, hr, hrun, hended, hW, hsame⟩ := X8.leave (v := some (.int (1 : Int32))) (fun h => by rw [Bd.returns] at h; cases h)
  refine ⟨_, _, ?_, hrun, hended, _, _, rfl, ?_, ⟨_, rfl⟩, hW, hsame.mono (by decide) (by decide)⟩
  · exact retN X8 hx (t := .boolean) Bd.returns (by simp) (hb hby d18_23) hr
  · show Q18 Z a1 h0 n0 _ T8.heap _
    rw [e8]
    exact ⟨rfl, N0, rfl⟩
theorem d17_0 : decode prog_40_method_13_code 0 = .ok (.aload_n 1, 1) := by decide +kernel
theorem d17_1 : decode prog_40_method_13_code 1 = .ok (.instanceof 8, 3) := by decide +kernel
theorem d17_4 : decode prog_40_method_13_code 4 = .ok (.ifCond .eq 48, 3) := by decide +kernel
theorem d17_7 : decode prog_40_method_13_code 7 = .ok (.aload_n 1, 1) := by decide +kernel
theorem d17_8 : decode prog_40_method_13_code 8 = .ok (.checkcast 8, 3) := by decide +kernel
theorem d17_11 : decode prog_40_method_13_code 11 = .ok (.astore_n 2, 1) := by decide +kernel
theorem d17_12 : decode prog_40_method_13_code 12 = .ok (.aload_n 2, 1) := by decide +kernel
theorem d17_13 : decode prog_40_method_13_code 13 = .ok (.getfield 7, 3) := by decide +kernel
theorem d17_16 : decode prog_40_method_13_code 16 = .ok (.aload_n 0, 1) := by decide +kernel
theorem d17_17 : decode prog_40_method_13_code 17 = .ok (.getfield 7, 3) := by decide +kernel
theorem d17_20 : decode prog_40_method_13_code 20 = .ok (.if_icmp .ne 32, 3) := by decide +kernel
theorem d17_23 : decode prog_40_method_13_code 23 = .ok (.aload_n 2, 1) := by decide +kernel
theorem d17_24 : decode prog_40_method_13_code 24 = .ok (.getfield 13, 3) := by decide +kernel
theorem d17_27 : decode prog_40_method_13_code 27 = .ok (.aload_n 0, 1) := by decide +kernel
theorem d17_28 : decode prog_40_method_13_code 28 = .ok (.getfield 13, 3) := by decide +kernel
theorem d17_31 : decode prog_40_method_13_code 31 = .ok (.if_icmp .ne 21, 3) := by decide +kernel
theorem d17_34 : decode prog_40_method_13_code 34 = .ok (.aload_n 2, 1) := by decide +kernel
theorem d17_35 : decode prog_40_method_13_code 35 = .ok (.getfield 16, 3) := by decide +kernel
theorem d17_38 : decode prog_40_method_13_code 38 = .ok (.aload_n 0, 1) := by decide +kernel
theorem d17_39 : decode prog_40_method_13_code 39 = .ok (.getfield 16, 3) := by decide +kernel
theorem d17_42 : decode prog_40_method_13_code 42 = .ok (.invokevirtual 167, 3) := by decide +kernel
theorem d17_45 : decode prog_40_method_13_code 45 = .ok (.ifCond .eq 7, 3) := by decide +kernel
theorem d17_48 : decode prog_40_method_13_code 48 = .ok (.iconst 1, 1) := by decide +kernel
theorem d17_49 : decode prog_40_method_13_code 49 = .ok (.goto 4, 3) := by decide +kernel
theorem d17_52 : decode prog_40_method_13_code 52 = .ok (.iconst 0, 1) := by decide +kernel
theorem d17_53 : decode prog_40_method_13_code 53 = .ok (.ireturn, 1) := by decide +kernel
theorem pn_17 : plainFor (⟨"com/example/catchment/catchment/Position", "equals", "(Ljava/lang/Object;)Z"⟩ : MethodName) = true := by first | exact plainFor_of_name (by first | (simp [plainName, overriddenIn]; done) | decide +kernel) | decide +kernel | exact Jvm.Free.JP.mathPlain rfl (by decide +kernel)
theorem pd_17_0 : parseMethodDescriptor "(Ljava/lang/Object;)Z" = some ⟨[(.object "java/lang/Object")], some .boolean⟩ := by decide +kernel
theorem ef_17 (m : MethodId) (a1 : Addr) (a2 : Addr) : entryFrame m #[(.ref a1), (.ref a2)] 3 = mkF m 0 #[.val (.ref a1), .val (.ref a2), .unset] [] := by first | (simp [entryFrame, mkF, argsToLocals, Value.category]; done) | rfl
def Q17 (Z : State) (a1 : Addr) (a2 : Addr) (px : Int32) (py : Int32) (wZ : Addr) (h0 : Heap) (n0 : Nat) (v : Option Value) (h : Heap) (L : List Loc) : Prop := v = some (.int (if py = px then (1 : Int32) else (0 : Int32))) ∧ Fr n0 L ∧ h = h0
set_option maxRecDepth 65536 in
set_option maxHeartbeats 40000000 in
theorem rm17 (l : Launch) (Z : State) (a0 : Array Value) (hw : ∀ d ∈ tables_1, d.before a0 Z = true) (ws : List Jvm.Cond) (a1 : Addr) (a2 : Addr) (px : Int32) (py : Int32) (wZ : Addr) (h0 : Heap) (n0 : Nat) (Z0 : n0 ≤ h0.size) (E_a2 : Exa Z h0 a2 "com/example/catchment/catchment/Position") (from_a1 : Fld Z h0 a1 "com/example/catchment/catchment/Position" "from" "I" (.int px)) (to_a1 : Fld Z h0 a1 "com/example/catchment/catchment/Position" "to" "I" (.int px)) (distance_a1 : Fld Z h0 a1 "com/example/catchment/catchment/Position" "distance" "Ljava/math/BigDecimal;" (.ref wZ)) (from_a2 : Fld Z h0 a2 "com/example/catchment/catchment/Position" "from" "I" (.int py)) (to_a2 : Fld Z h0 a2 "com/example/catchment/catchment/Position" "to" "I" (.int py)) (distance_a2 : Fld Z h0 a2 "com/example/catchment/catchment/Position" "distance" "Ljava/math/BigDecimal;" (.ref wZ)) (E_Z : Exa Z h0 wZ "java/math/BigDecimal") :
    MetFree l (⟨"com/example/catchment/catchment/Position", "equals", "(Ljava/lang/Object;)Z"⟩ : MethodName) (head1 (Jvm.Cond.code (⟨"com/example/catchment/catchment/Position", "equals", "(Ljava/lang/Object;)Z"⟩ : MethodName) prog_40_method_13_code 3 (some .boolean) :: ws) ({ frames := 1, cells := 0, slots := 0, locals := 18 } : Room)) (fun a U => a = #[(.ref a1), (.ref a2)] ∧ Z.Warmed39 U.vm ∧ U.heap = h0) (fun _ _ _ _ _ => True) (fun _ U o U' => ∃ v L, o = .returned v ∧ Q17 Z a1 a2 px py wZ h0 n0 v U'.heap L ∧ FrameEnd U o U' L ({ frames := 1, cells := 0, slots := 0, locals := 18 } : Room).cells ({ frames := 1, cells := 0, slots := 0, locals := 18 } : Room).slots) := by
  refine MetFree.of_bodySF pn_17 hisR ?_
  intro p e s m args below meth c s₁ Bd hml0 hP hK
  obtain ⟨rfl, hZ, hh⟩ := hP
  have hx := Bd.exec
  have hby := Bd.bytes
  have hml : c.maxLocals = 3 := hml0
  have hown : s.vm.findClass "com/example/catchment/catchment/Position" = some m.cls := findClass_of_methodNamed Bd.named
  have hnm := (name_of_methodNamed Bd.named Bd.method).1
  have X0 : Stand p l e ({ frames := 1, cells := 0, slots := 0, locals := 18 } : Room) s m #[(.ref a1), (.ref a2)] below meth c s₁ [] 0 0 := Stand.of_body Bd
  have e0 : s₁.heap = h0 := by rw [← hh, Bd.state]; rfl
  have N0 := Fr.nil n0
  refine own_at (castTop (ef_17 m a1 a2)) ?_
  have sg1 : ∀ t, own_S p e below s₁ (mkF m 1 #[.val (.ref a1), .val (.ref a2), .unset] [(.ref a2)]) t → own_S p e below s₁ (mkF m 0 #[.val (.ref a1), .val (.ref a2), .unset] []) t := by
    intro t k
    show own_S p e below s₁ (mkF m 0 #[.val (.ref a1), .val (.ref a2), .unset] []) _
    refine XS.aloadN X0.here hx rfl (hb hby d17_0) rfl rfl ?_
    exact k
  refine own_by sg1 ?_
  obtain ⟨T1, X1, e1, st1⟩ := instY X0 hx hZ hown (hw _ (List.mem_of_getElem? (i := 4) rfl)) e0 (Ins.self E_a2) (g := (mkF m 1 #[.val (.ref a1), .val (.ref a2), .unset] [(.ref a2)])) rfl rfl (hb hby d17_1)
  refine own_by st1 ?_
  have sg8 : ∀ t, own_S p e below T1 (mkF m 8 #[.val (.ref a1), .val (.ref a2), .unset] [(.ref a2)]) t → own_S p e below T1 (mkF m 4 #[.val (.ref a1), .val (.ref a2), .unset] [(.int (1 : Int32))]) t := by
    intro t k
    show own_S p e below T1 (mkF m 4 #[.val (.ref a1), .val (.ref a2), .unset] [(.int (1 : Int32))]) _
    refine XS.ifNo X1.here hx rfl (hb hby d17_4) rfl ((if0 _ _).trans (feq (by decide : ¬ ((1 : Int32) = (0 : Int32)))).1) ?_
    show own_S p e below T1 (mkF m 7 #[.val (.ref a1), .val (.ref a2), .unset] []) _
    refine XS.aloadN X1.here hx rfl (hb hby d17_7) rfl rfl ?_
    exact k
  refine own_by sg8 ?_
  obtain ⟨T8, X8, e8, st8⟩ := castY X1 hx hZ hown (hw _ (List.mem_of_getElem? (i := 4) rfl)) e1 (Ins.self E_a2) (g := (mkF m 8 #[.val (.ref a1), .val (.ref a2), .unset] [(.ref a2)])) rfl rfl (hb hby d17_8)
  refine own_by st8 ?_
  have sg13 : ∀ t, own_S p e below T8 (mkF m 13 #[.val (.ref a1), .val (.ref a2), .val (.ref a2)] [(.ref a2)]) t → own_S p e below T8 (mkF m 11 #[.val (.ref a1), .val (.ref a2), .unset] [(.ref a2)]) t := by
    intro t k
    show own_S p e below T8 (mkF m 11 #[.val (.ref a1), .val (.ref a2), .unset] [(.ref a2)]) _
    refine XS.astoreN X8.here hx rfl (hb hby d17_11) rfl rfl (l' := #[.val (.ref a1), .val (.ref a2), .val (.ref a2)]) rfl ?_
    show own_S p e below T8 (mkF m 12 #[.val (.ref a1), .val (.ref a2), .val (.ref a2)] []) _
    refine XS.aloadN X8.here hx rfl (hb hby d17_12) rfl rfl ?_
    exact k
  refine own_by sg13 ?_
  obtain ⟨T13, X13, e13, st13⟩ := getF X8 hx hZ hown (host := "") (Or.inl (hw _ (List.mem_of_getElem? (i := 14) rfl))) Via.refl e8 from_a2 (g := (mkF m 13 #[.val (.ref a1), .val (.ref a2), .val (.ref a2)] [(.ref a2)])) rfl rfl (hb hby d17_13)
  refine own_by st13 ?_
  have sg17 : ∀ t, own_S p e below T13 (mkF m 17 #[.val (.ref a1), .val (.ref a2), .val (.ref a2)] [(.ref a1), (.int py)]) t → own_S p e below T13 (mkF m 16 #[.val (.ref a1), .val (.ref a2), .val (.ref a2)] [(.int py)]) t := by
    intro t k
    show own_S p e below T13 (mkF m 16 #[.val (.ref a1), .val (.ref a2), .val (.ref a2)] [(.int py)]) _
    refine XS.aloadN X13.here hx rfl (hb hby d17_16) rfl rfl ?_
    exact k
  refine own_by sg17 ?_
  obtain ⟨T17, X17, e17, st17⟩ := getF X13 hx hZ hown (host := "") (Or.inl (hw _ (List.mem_of_getElem? (i := 14) rfl))) Via.refl e13 from_a1 (g := (mkF m 17 #[.val (.ref a1), .val (.ref a2), .val (.ref a2)] [(.ref a1), (.int py)])) rfl rfl (hb hby d17_17)
  refine own_by st17 ?_
  by_cases hc20 : py = px
  · have sg24 : ∀ t, own_S p e below T17 (mkF m 24 #[.val (.ref a1), .val (.ref a2), .val (.ref a2)] [(.ref a2)]) t → own_S p e below T17 (mkF m 20 #[.val (.ref a1), .val (.ref a2), .val (.ref a2)] [(.int px), (.int py)]) t := by
      intro t k
      show own_S p e below T17 (mkF m 20 #[.val (.ref a1), .val (.ref a2), .val (.ref a2)] [(.int px), (.int py)]) _
      refine XS.icmpNo X17.here hx rfl (hb hby d17_20) rfl (teq hc20).2 ?_
      show own_S p e below T17 (mkF m 23 #[.val (.ref a1), .val (.ref a2), .val (.ref a2)] []) _
      refine XS.aloadN X17.here hx rfl (hb hby d17_23) rfl rfl ?_
      exact k
    refine own_by sg24 ?_
    obtain ⟨T24, X24, e24, st24⟩ := getF X17 hx hZ hown (host := "") (Or.inl (hw _ (List.mem_of_getElem? (i := 16) rfl))) Via.refl e17 to_a2 (g := (mkF m 24 #[.val (.ref a1), .val (.ref a2), .val (.ref a2)] [(.ref a2)])) rfl rfl (hb hby d17_24)
    refine own_by st24 ?_
    have sg28 : ∀ t, own_S p e below T24 (mkF m 28 #[.val (.ref a1), .val (.ref a2), .val (.ref a2)] [(.ref a1), (.int py)]) t → own_S p e below T24 (mkF m 27 #[.val (.ref a1), .val (.ref a2), .val (.ref a2)] [(.int py)]) t := by
      intro t k
      show own_S p e below T24 (mkF m 27 #[.val (.ref a1), .val (.ref a2), .val (.ref a2)] [(.int py)]) _
      refine XS.aloadN X24.here hx rfl (hb hby d17_27) rfl rfl ?_
      exact k
    refine own_by sg28 ?_
    obtain ⟨T28, X28, e28, st28⟩ := getF X24 hx hZ hown (host := "") (Or.inl (hw _ (List.mem_of_getElem? (i := 16) rfl))) Via.refl e24 to_a1 (g := (mkF m 28 #[.val (.ref a1), .val (.ref a2), .val (.ref a2)] [(.ref a1), (.int py)])) rfl rfl (hb hby d17_28)
    refine own_by st28 ?_
    have sg35 : ∀ t, own_S p e below T28 (mkF m 35 #[.val (.ref a1), .val (.ref a2), .val (.ref a2)] [(.ref a2)]) t → own_S p e below T28 (mkF m 31 #[.val (.ref a1), .val (.ref a2), .val (.ref a2)] [(.int px), (.int py)]) t := by
      intro t k
      show own_S p e below T28 (mkF m 31 #[.val (.ref a1), .val (.ref a2), .val (.ref a2)] [(.int px), (.int py)]) _
      refine XS.icmpNo X28.here hx rfl (hb hby d17_31) rfl (teq hc20).2 ?_
      show own_S p e below T28 (mkF m 34 #[.val (.ref a1), .val (.ref a2), .val (.ref a2)] []) _
      refine XS.aloadN X28.here hx rfl (hb hby d17_34) rfl rfl ?_
      exact k
    refine own_by sg35 ?_
    obtain ⟨T35, X35, e35, st35⟩ := getF X28 hx hZ hown (host := "") (Or.inl (hw _ (List.mem_of_getElem? (i := 18) rfl))) Via.refl e28 distance_a2 (g := (mkF m 35 #[.val (.ref a1), .val (.ref a2), .val (.ref a2)] [(.ref a2)])) rfl rfl (hb hby d17_35)
    refine own_by st35 ?_
    have sg39 : ∀ t, own_S p e below T35 (mkF m 39 #[.val (.ref a1), .val (.ref a2), .val (.ref a2)] [(.ref a1), (.ref wZ)]) t → own_S p e below T35 (mkF m 38 #[.val (.ref a1), .val (.ref a2), .val (.ref a2)] [(.ref wZ)]) t := by
      intro t k
      show own_S p e below T35 (mkF m 38 #[.val (.ref a1), .val (.ref a2), .val (.ref a2)] [(.ref wZ)]) _
      refine XS.aloadN X35.here hx rfl (hb hby d17_38) rfl rfl ?_
      exact k
    refine own_by sg39 ?_
    obtain ⟨T39, X39, e39, st39⟩ := getF X35 hx hZ hown (host := "") (Or.inl (hw _ (List.mem_of_getElem? (i := 18) rfl))) Via.refl e35 distance_a1 (g := (mkF m 39 #[.val (.ref a1), .val (.ref a2), .val (.ref a2)] [(.ref a1), (.ref wZ)])) rfl rfl (hb hby d17_39)
    refine own_by st39 ?_
    obtain ⟨cq42, kq42, q42a, q42b, q42c⟩ := isOf hZ e39 E_Z
    obtain ⟨_, _, ⟨T42, L42, k42, n42⟩, -, X42, ⟨Lc42, hQ42, l42, y42, z42⟩, st42⟩ := X39.virtualBack hx (y := (⟨"java/math/BigDecimal", "equals", "(Ljava/lang/Object;)Z"⟩ : MethodName)) (z := (⟨"java/math/BigDecimal", "equals", "(Ljava/lang/Object;)Z"⟩ : MethodName)) hown (mvT hZ (hw _ (List.mem_of_getElem? (i := 108) rfl))) (mvT hZ (hw _ (List.mem_of_getElem? (i := 109) rfl))) (notFace_of_selects (args := #[]) (mvT hZ (hw _ (List.mem_of_getElem? (i := 111) rfl)))) (mvT hZ (hw _ (List.mem_of_getElem? (i := 111) rfl))) (mvT hZ (hw _ (List.mem_of_getElem? (i := 110) rfl))) (by decide) (backOf (W := 0) (rm18 l Z a0 hw [] wZ h0 n0 Z0 E_Z) hZ (hw _ (List.mem_of_getElem? (i := 112) rfl)) (hw _ (List.mem_of_getElem? (i := 7) rfl)) (by decide) (by decide)) q42a q42c (g := (mkF m 42 #[.val (.ref a1), .val (.ref a2), .val (.ref a2)] [(.ref wZ), (.ref wZ)])) rfl (by rw [hml]; rfl) (Steps.refl _) (argsL := [(.ref wZ)]) (rest := []) (lenOf pd_17_0 rfl) rfl (by show 2 * 0 + _ ≤ _; exact Nat.le_of_eq rfl) (hb hby d17_42) (fun _ _ => ⟨rfl, e39, (by decide : 0 + 0 ≤ _), (by decide : 0 + 0 ≤ _)⟩)
    dsimp only [Pt.U, Pt.locs, Pt.cells, Pt.slots] at X42 l42 y42 z42 st42 hQ42
    subst l42 y42 z42
    obtain ⟨rfl, N42q, hq42⟩ := hQ42
    have N42 := Fr.app N0 N42q
    refine own_by (fun t k => st42.trans k) ?_
    have sg53 : ∀ t, own_S p e below T42 (mkF m 53 #[.val (.ref a1), .val (.ref a2), .val (.ref a2)] [(.int (1 : Int32))]) t → own_S p e below T42 (mkF m 45 #[.val (.ref a1), .val (.ref a2), .val (.ref a2)] [(.int (1 : Int32))]) t := by
      intro t k
      show own_S p e below T42 (mkF m 45 #[.val (.ref a1), .val (.ref a2), .val (.ref a2)] [(.int (1 : Int32))]) _
      refine XS.ifNo X42.here hx rfl (hb hby d17_45) rfl ((if0 _ _).trans (feq (by decide : ¬ ((1 : Int32) = (0 : Int32)))).1) ?_
      show own_S p e below T42 (mkF m 48 #[.val (.ref a1), .val (.ref a2), .val (.ref a2)] []) _
      refine XS.iconst X42.here hx rfl (hb hby d17_48) ?_
      show own_S p e below T42 (mkF m 49 #[.val (.ref a1), .val (.ref a2), .val (.ref a2)] [(.int (1 : Int32))]) _
      refine XS.goto X42.here hx rfl (pc0 := 49) (pc' := 53) rfl (hb hby d17_49) (by decide) (by decide) ?_
      exact k
    refine own_by sg53 ?_
    obtain ⟨fs, hr, hrun, hended, hW, hsame⟩ := X42.leave (v := some (.int (1 : Int32))) (fun h => by rw [Bd.returns] at h; cases h)
    refine ⟨_, _, ?_, hrun, hended, _, _, rfl, ?_, ⟨_, rfl⟩, hW, hsame.mono (by decide) (by decide)⟩
    · exact retN X42 hx (t := .boolean) Bd.returns (by simp) (hb hby d17_53) hr
    · show Q17 Z a1 a2 px py wZ h0 n0 _ T42.heap _
      rw [hq42]
      exact ⟨by rw [if_pos hc20], N42, rfl⟩
  · have sg53 : ∀ t, own_S p e below T17 (mkF m 53 #[.val (.ref a1), .val (.ref a2), .val (.ref a2)] [(.int (0 : Int32))]) t → own_S p e below T17 (mkF m 20 #[.val (.ref a1), .val (.ref a2), .val (.ref a2)] [(.int px), (.int py)]) t := by
      intro t k
      show own_S p e below T17 (mkF m 20 #[.val (.ref a1), .val (.ref a2), .val (.ref a2)] [(.int px), (.int py)]) _
      refine XS.icmpYes X17.here hx rfl (pc0 := 20) (pc' := 52) rfl (hb hby d17_20) rfl (feq hc20).2 (by decide) (by decide) ?_
      show own_S p e below T17 (mkF m 52 #[.val (.ref a1), .val (.ref a2), .val (.ref a2)] []) _
      refine XS.iconst X17.here hx rfl (hb hby d17_52) ?_
      exact k
    refine own_by sg53 ?_
    obtain ⟨fs, hr, hrun, hended, hW, hsame⟩ := X17.leave (v := some (.int (0 : Int32))) (fun h => by rw [Bd.returns] at h; cases h)
    refine ⟨_, _, ?_, hrun, hended, _, _, rfl, ?_, ⟨_, rfl⟩, hW, hsame.mono (by decide) (by decide)⟩
    · exact retN X17 hx (t := .boolean) Bd.returns (by simp) (hb hby d17_53) hr
    · show Q17 Z a1 a2 px py wZ h0 n0 _ T17.heap _
      rw [e17]
      exact ⟨by rw [if_neg hc20], N0, rfl⟩
theorem pn_0 : plainFor x = true := by first | exact plainFor_of_name (by first | (simp [plainName, overriddenIn]; done) | decide +kernel) | decide +kernel | exact Jvm.Free.JP.mathPlain rfl (by decide +kernel)
theorem pd_0_0 : parseMethodDescriptor "(I)Lcom/example/catchment/catchment/Position;" = some ⟨[.int], some (.object "com/example/catchment/catchment/Position")⟩ := by decide +kernel
theorem pd_0_1 : parseMethodDescriptor "()V" = some ⟨[], none⟩ := by decide +kernel
theorem pd_0_2 : parseMethodDescriptor "(Ljava/lang/Object;)Z" = some ⟨[(.object "java/lang/Object")], some .boolean⟩ := by decide +kernel
theorem pd_0_3 : parseMethodDescriptor "()Z" = some ⟨[], some .boolean⟩ := by decide +kernel
theorem pd_0_4 : parseMethodDescriptor "()I" = some ⟨[], some .int⟩ := by decide +kernel
theorem pd_0_5 : parseMethodDescriptor "(Ljava/util/List;)I" = some ⟨[(.object "java/util/List")], some .int⟩ := by decide +kernel
theorem ef_0 (m : MethodId) (p0 : Int32) (p1 : Int32) : entryFrame m #[(.int p0), (.int p1)] maxLocals = mkF m 0 #[.val (.int p0), .val (.int p1), .unset, .unset, .unset, .unset, .unset] [] := by first | (simp [entryFrame, mkF, argsToLocals, Value.category, maxLocals]; done) | rfl
def Q0 (Z : State) (p0 : Int32) (p1 : Int32) (wZ : Addr) (wD : Addr) (cl : Cell) (h0 : Heap) (n0 : Nat) (v : Option Value) (h : Heap) (L : List Loc) : Prop := v = some (.int 1) ∧ Fr n0 L
set_option maxRecDepth 65536 in
set_option maxHeartbeats 40000000 in
theorem rm0 (l : Launch) (Z : State) (a0 : Array Value) (hw : ∀ d ∈ tables_1, d.before a0 Z = true) (ws : List Jvm.Cond) (p0 : Int32) (p1 : Int32) (wZ : Addr) (wD : Addr) (cl : Cell) (h0 : Heap) (n0 : Nat) (Z0 : n0 ≤ h0.size) (O : Old Z n0 h0) (S_D : Sta Z Z.heap "java/util/ArrayList" "DEFAULTCAPACITY_EMPTY_ELEMENTDATA" "[Ljava/lang/Object;" (.ref wD)) (Ar_D : Arr Z Z.heap wD cl (.object "java/lang/Object")) (hsz : cl.slots.size = 0) (S_Z : Sta Z Z.heap "java/math/BigDecimal" "ZERO" "Ljava/math/BigDecimal;" (.ref wZ)) (E_Z : Exa Z Z.heap wZ "java/math/BigDecimal") (FS_Z : Fld Z Z.heap wZ "java/math/BigDecimal" "scale" "I" (.int (0 : Int32))) (FI_Z : Fld Z Z.heap wZ "java/math/BigDecimal" "intCompact" "J" (.long (0 : Int64))) :
    MetFree l x (head1 (Jvm.Cond.code x code maxLocals ret :: ws) room_1) (fun a U => a = #[(.int p0), (.int p1)] ∧ Z.Warmed39 U.vm ∧ U.heap = h0) (fun _ _ _ _ _ => True) (fun _ U o U' => ∃ v L, o = .returned v ∧ Q0 Z p0 p1 wZ wD cl h0 n0 v U'.heap L ∧ FrameEnd U o U' L room_1.cells room_1.slots) := by
  refine MetFree.of_bodySF pn_0 hisR ?_
  intro p e s m args below meth c s₁ Bd hml0 hP hK
  obtain ⟨rfl, hZ, hh⟩ := hP
  have hx := Bd.exec
  have hby := Bd.bytes
  have hml : c.maxLocals = 7 := hml0
  have hown : s.vm.findClass "com/example/catchment/catchment/PositionNodePinLaw" = some m.cls := findClass_of_methodNamed Bd.named
  have hnm := (name_of_methodNamed Bd.named Bd.method).1
  have X0 : Stand p l e room_1 s m #[(.int p0), (.int p1)] below meth c s₁ [] 0 0 := Stand.of_body Bd
  have e0 : s₁.heap = h0 := by rw [← hh, Bd.state]; rfl
  have N0 := Fr.nil n0
  refine own_at (castTop (ef_0 m p0 p1)) ?_
  have K0 := Keep.refl h0 []
  have sg1 : ∀ t, own_S p e below s₁ (mkF m 1 (own_AIIUUUUU p0 p1) [(.int p0)]) t → own_S p e below s₁ (mkF m 0 (own_AIIUUUUU p0 p1) []) t := by
    intro t k
    show own_S p e below s₁ (mkF m 0 (own_AIIUUUUU p0 p1) []) _
    refine XS.iloadN X0.here hx rfl (hb hby at_0) rfl ?_
    exact k
  refine own_by sg1 ?_
  obtain ⟨_, _, ⟨T1, L1, k1, n1⟩, -, X1, ⟨Lc1, hQ1, l1, y1, z1⟩, st1⟩ := Jvm.LawKit.callS X0 hx (y := (⟨"com/example/catchment/catchment/Position", "node", "(I)Lcom/example/catchment/catchment/Position;"⟩ : MethodName)) hown (mvT hZ (hw _ (List.mem_of_getElem? (i := 0) rfl))) (mvT hZ (hw _ (List.mem_of_getElem? (i := 1) rfl))) (mvT hZ (hw _ (List.mem_of_getElem? (i := 2) rfl))) (mvT hZ (hw _ (List.mem_of_getElem? (i := 3) rfl))) (by decide) (backOf (W := 0) (rm1 l Z a0 hw [] p0 wZ h0 n0 Z0 (S_Z.ext O.2)) hZ (hw _ (List.mem_of_getElem? (i := 3) rfl)) (hw _ (List.mem_of_getElem? (i := 2) rfl)) (by decide) (by decide)) (g := (mkF m 1 (own_AIIUUUUU p0 p1) [(.int p0)])) rfl (by rw [hml]; rfl) (argsL := [(.int p0)]) (rest := []) (lenOf pd_0_0 rfl) rfl (by show 2 * 0 + _ ≤ _; exact Nat.le_of_eq rfl) (hb hby at_1) (fun _ _ => ⟨rfl, e0, (by decide : 0 + 1 ≤ _), (by decide : 0 + 3 ≤ _)⟩)
  dsimp only [Pt.U, Pt.locs, Pt.cells, Pt.slots] at X1 l1 y1 z1 st1 hQ1
  subst l1 y1 z1
  obtain ⟨r1, rfl, ge1, N1q, Kq1, Eq1, Ffrom_1, Fto_1, Fdistance_1⟩ := hQ1
  have N1 := Fr.app N0 N1q
  have g_r1 : n0 ≤ r1 := Nat.le_trans Z0 ge1
  have sz_r1 : h0.size ≤ r1 := Nat.le_trans K0.1 ge1
  have K1 : Keep h0 T1.heap [] := K0.trans Kq1 (fun x hx => nomatch hx)
  have Z1 : n0 ≤ T1.heap.size := Nat.le_trans Z0 Kq1.1
  refine own_by st1 ?_
  have sg6 : ∀ t, own_S p e below T1 (mkF m 6 (own_AIIRUUUU p0 p1 r1) [(.int p1)]) t → own_S p e below T1 (mkF m 4 (own_AIIUUUUU p0 p1) [(.ref r1)]) t := by
    intro t k
    show own_S p e below T1 (mkF m 4 (own_AIIUUUUU p0 p1) [(.ref r1)]) _
    refine XS.astoreN X1.here hx rfl (hb hby at_4) rfl rfl (l' := (own_AIIRUUUU p0 p1 r1)) rfl ?_
    show own_S p e below T1 (mkF m 5 (own_AIIRUUUU p0 p1 r1) []) _
    refine XS.iloadN X1.here hx rfl (hb hby at_5) rfl ?_
    exact k
  refine own_by sg6 ?_
  obtain ⟨_, _, ⟨T6, L6, k6, n6⟩, -, X6, ⟨Lc6, hQ6, l6, y6, z6⟩, st6⟩ := Jvm.LawKit.callS X1 hx (y := (⟨"com/example/catchment/catchment/Position", "node", "(I)Lcom/example/catchment/catchment/Position;"⟩ : MethodName)) hown (mvT hZ (hw _ (List.mem_of_getElem? (i := 0) rfl))) (mvT hZ (hw _ (List.mem_of_getElem? (i := 1) rfl))) (mvT hZ (hw _ (List.mem_of_getElem? (i := 2) rfl))) (mvT hZ (hw _ (List.mem_of_getElem? (i := 3) rfl))) (by decide) (backOf (W := 0) (rm1 l Z a0 hw [] p1 wZ T1.heap n0 Z1 (S_Z.ext (O.keep Kq1 all0).2)) hZ (hw _ (List.mem_of_getElem? (i := 3) rfl)) (hw _ (List.mem_of_getElem? (i := 2) rfl)) (by decide) (by decide)) (g := (mkF m 6 (own_AIIRUUUU p0 p1 r1) [(.int p1)])) rfl (by rw [hml]; rfl) (argsL := [(.int p1)]) (rest := []) (lenOf pd_0_0 rfl) rfl (by show 2 * 0 + _ ≤ _; exact Nat.le_of_eq rfl) (hb hby at_6) (fun _ _ => ⟨rfl, rfl, (by decide : 1 + 1 ≤ _), (by decide : 3 + 3 ≤ _)⟩)
  dsimp only [Pt.U, Pt.locs, Pt.cells, Pt.slots] at X6 l6 y6 z6 st6 hQ6
  subst l6 y6 z6
  obtain ⟨r6, rfl, ge6, N6q, Kq6, Eq6, Ffrom_6, Fto_6, Fdistance_6⟩ := hQ6
  have N6 := Fr.app N1 N6q
  have ne_r1_r6 : r1 ≠ r6 := Nat.ne_of_lt (Nat.lt_of_lt_of_le Eq1.lt ge6)
  have g_r6 : n0 ≤ r6 := Nat.le_trans Z1 ge6
  have sz_r6 : h0.size ≤ r6 := Nat.le_trans K1.1 ge6
  have K6 : Keep h0 T6.heap [] := K1.trans Kq6 (fun x hx => nomatch hx)
  have Z6 : n0 ≤ T6.heap.size := Nat.le_trans Z1 Kq6.1
  refine own_by st6 ?_
  have sg11 : ∀ t, own_S p e below T6 (mkF m 11 (own_AIIRRUUU p0 p1 r1 r6) [(.int p0)]) t → own_S p e below T6 (mkF m 9 (own_AIIRUUUU p0 p1 r1) [(.ref r6)]) t := by
    intro t k
    show own_S p e below T6 (mkF m 9 (own_AIIRUUUU p0 p1 r1) [(.ref r6)]) _
    refine XS.astoreN X6.here hx rfl (hb hby at_9) rfl rfl (l' := (own_AIIRRUUU p0 p1 r1 r6)) rfl ?_
    show own_S p e below T6 (mkF m 10 (own_AIIRRUUU p0 p1 r1 r6) []) _
    refine XS.iloadN X6.here hx rfl (hb hby at_10) rfl ?_
    exact k
  refine own_by sg11 ?_
  obtain ⟨_, _, ⟨T11, L11, k11, n11⟩, -, X11, ⟨Lc11, hQ11, l11, y11, z11⟩, st11⟩ := Jvm.LawKit.callS X6 hx (y := (⟨"com/example/catchment/catchment/Position", "node", "(I)Lcom/example/catchment/catchment/Position;"⟩ : MethodName)) hown (mvT hZ (hw _ (List.mem_of_getElem? (i := 0) rfl))) (mvT hZ (hw _ (List.mem_of_getElem? (i := 1) rfl))) (mvT hZ (hw _ (List.mem_of_getElem? (i := 2) rfl))) (mvT hZ (hw _ (List.mem_of_getElem? (i := 3) rfl))) (by decide) (backOf (W := 0) (rm1 l Z a0 hw [] p0 wZ T6.heap n0 Z6 (S_Z.ext ((O.keep Kq1 all0).keep Kq6 all0).2)) hZ (hw _ (List.mem_of_getElem? (i := 3) rfl)) (hw _ (List.mem_of_getElem? (i := 2) rfl)) (by decide) (by decide)) (g := (mkF m 11 (own_AIIRRUUU p0 p1 r1 r6) [(.int p0)])) rfl (by rw [hml]; rfl) (argsL := [(.int p0)]) (rest := []) (lenOf pd_0_0 rfl) rfl (by show 2 * 0 + _ ≤ _; exact Nat.le_of_eq rfl) (hb hby at_11) (fun _ _ => ⟨rfl, rfl, (by decide : 2 + 1 ≤ _), (by decide : 6 + 3 ≤ _)⟩)
  dsimp only [Pt.U, Pt.locs, Pt.cells, Pt.slots] at X11 l11 y11 z11 st11 hQ11
  subst l11 y11 z11
  obtain ⟨r11, rfl, ge11, N11q, Kq11, Eq11, Ffrom_11, Fto_11, Fdistance_11⟩ := hQ11
  have N11 := Fr.app N6 N11q
  have ne_r1_r11 : r1 ≠ r11 := Nat.ne_of_lt (Nat.lt_of_lt_of_le (Eq1.keep Kq6).lt ge11)
  have ne_r6_r11 : r6 ≠ r11 := Nat.ne_of_lt (Nat.lt_of_lt_of_le Eq6.lt ge11)
  have g_r11 : n0 ≤ r11 := Nat.le_trans Z6 ge11
  have sz_r11 : h0.size ≤ r11 := Nat.le_trans K6.1 ge11
  have fc := ((Ffrom_1.keep Kq6 List.not_mem_nil).keep Kq11 List.not_mem_nil)
  have fc_2 := ((Fto_1.keep Kq6 List.not_mem_nil).keep Kq11 List.not_mem_nil)
  have fc_3 := ((Fdistance_1.keep Kq6 List.not_mem_nil).keep Kq11 List.not_mem_nil)
  have K11 : Keep h0 T11.heap [] := K6.trans Kq11 (fun x hx => nomatch hx)
  have Z11 : n0 ≤ T11.heap.size := Nat.le_trans Z6 Kq11.1
  refine own_by st11 ?_
  have sg16 : ∀ t, own_S p e below T11 (mkF m 16 (own_AIIRRRUU p0 p1 r1 r6 r11) []) t → own_S p e below T11 (mkF m 14 (own_AIIRRUUU p0 p1 r1 r6) [(.ref r11)]) t := by
    intro t k
    show own_S p e below T11 (mkF m 14 (own_AIIRRUUU p0 p1 r1 r6) [(.ref r11)]) _
    refine XS.astore X11.here hx rfl (hb hby at_14) rfl rfl (l' := (own_AIIRRRUU p0 p1 r1 r6 r11)) rfl ?_
    exact k
  refine own_by sg16 ?_
  obtain ⟨T16, h16, X16, e16, E16, A16, D16, -, st16⟩ := newO X11 hx hZ hown (hw _ (List.mem_of_getElem? (i := 20) rfl)) (hw _ (List.mem_of_getElem? (i := 21) rfl)) (hw _ (List.mem_of_getElem? (i := 22) rfl)) rfl (g := (mkF m 16 (own_AIIRRRUU p0 p1 r1 r6 r11) [])) rfl (hb hby at_16) (by decide) (by decide)
  obtain ⟨b16, g16⟩ : ∃ z, z = T11.heap.size := ⟨_, rfl⟩
  rw [← g16] at A16 D16 st16
  have ne_r1_b16 : r1 ≠ b16 := Nat.ne_of_lt (Nat.lt_of_lt_of_le ((Eq1.keep Kq6).keep Kq11).lt (Nat.le_of_eq g16.symm))
  have ne_r6_b16 : r6 ≠ b16 := Nat.ne_of_lt (Nat.lt_of_lt_of_le (Eq6.keep Kq11).lt (Nat.le_of_eq g16.symm))
  have ne_r11_b16 : r11 ≠ b16 := Nat.ne_of_lt (Nat.lt_of_lt_of_le Eq11.lt (Nat.le_of_eq g16.symm))
  have g_b16 : n0 ≤ b16 := Nat.le_trans Z11 (Nat.le_of_eq g16.symm)
  have sz_b16 : h0.size ≤ b16 := Nat.le_trans K11.1 (Nat.le_of_eq g16.symm)
  have K16 := K11.ext E16
  have Z16 : n0 ≤ h16.size := Nat.le_trans Z11 E16.1
  have F_modCount_b16 : Fld Z h16 b16 "java/util/AbstractList" "modCount" "I" (.int (0 : Int32)) := D16 (Or.inl (hw _ (List.mem_of_getElem? (i := 40) rfl))) (ty := .int) (by decide)
  have F_elementData_b16 : Fld Z h16 b16 "java/util/ArrayList" "elementData" "[Ljava/lang/Object;" .null := D16 (Or.inl (hw _ (List.mem_of_getElem? (i := 43) rfl))) (ty := (.array (.object "java/lang/Object"))) (by decide)
  have F_size_b16 : Fld Z h16 b16 "java/util/ArrayList" "size" "I" (.int (0 : Int32)) := D16 (Or.inl (hw _ (List.mem_of_getElem? (i := 52) rfl))) (ty := .int) (by decide)
  refine own_by st16 ?_
  have sg20 : ∀ t, own_S p e below T16 (mkF m 20 (own_AIIRRRUU p0 p1 r1 r6 r11) [(.ref b16), (.ref b16)]) t → own_S p e below T16 (mkF m 19 (own_AIIRRRUU p0 p1 r1 r6 r11) [(.ref b16)]) t := by
    intro t k
    show own_S p e below T16 (mkF m 19 (own_AIIRRRUU p0 p1 r1 r6 r11) [(.ref b16)]) _
    refine XS.dup X16.here hx rfl (hb hby at_19) rfl rfl ?_
    exact k
  refine own_by sg20 ?_
  obtain ⟨_, _, ⟨T20, L20, k20, n20⟩, -, X20, ⟨Lc20, hQ20, l20, y20, z20⟩, st20⟩ := X16.specialBack hx (y := (⟨"java/util/ArrayList", "<init>", "()V"⟩ : MethodName)) rfl hown (mvT hZ (hw _ (List.mem_of_getElem? (i := 23) rfl))) (mvT hZ (hw _ (List.mem_of_getElem? (i := 24) rfl))) (mvT hZ (hw _ (List.mem_of_getElem? (i := 25) rfl))) (by decide) (backOf (W := 1) (rm4 l Z a0 hw [] b16 wD cl h16 n0 Z16 ((((O.keep Kq1 all0).keep Kq6 all0).keep Kq11 all0).ext E16) S_D Ar_D hsz A16 F_modCount_b16 F_elementData_b16 F_size_b16 g_b16) hZ (hw _ (List.mem_of_getElem? (i := 25) rfl)) (hw _ (List.mem_of_getElem? (i := 22) rfl)) (by decide) (by decide)) (g := (mkF m 20 (own_AIIRRRUU p0 p1 r1 r6 r11) [(.ref b16), (.ref b16)])) rfl (by rw [hml]; rfl) (Steps.refl _) (a := b16) (argsL := []) (rest := [(.ref b16)]) (lenOf pd_0_1 rfl) rfl (by show 2 * 0 + _ ≤ _; exact Nat.le_of_eq rfl) (hb hby at_20) (fun _ _ => ⟨rfl, e16, (by decide : 4 + 0 ≤ _), (by decide : 12 + 0 ≤ _)⟩)
  dsimp only [Pt.U, Pt.locs, Pt.cells, Pt.slots] at X20 l20 y20 z20 st20 hQ20
  subst l20 y20 z20
  obtain ⟨rfl, N20q, Kq20, Eq20, FM20, FD20, FS20⟩ := hQ20
  have N20 := Fr.app N11 N20q
  have fc_4 := ((fc.ext E16).keep Kq20 (fun h => ne_r1_b16 (List.mem_singleton.mp h)))
  have fc_5 := ((fc_2.ext E16).keep Kq20 (fun h => ne_r1_b16 (List.mem_singleton.mp h)))
  have fc_6 := ((fc_3.ext E16).keep Kq20 (fun h => ne_r1_b16 (List.mem_singleton.mp h)))
  have fc_7 := (((Ffrom_6.keep Kq11 List.not_mem_nil).ext E16).keep Kq20 (fun h => ne_r6_b16 (List.mem_singleton.mp h)))
  have fc_8 := (((Fto_6.keep Kq11 List.not_mem_nil).ext E16).keep Kq20 (fun h => ne_r6_b16 (List.mem_singleton.mp h)))
  have fc_9 := (((Fdistance_6.keep Kq11 List.not_mem_nil).ext E16).keep Kq20 (fun h => ne_r6_b16 (List.mem_singleton.mp h)))
  have fc_10 := ((Ffrom_11.ext E16).keep Kq20 (fun h => ne_r11_b16 (List.mem_singleton.mp h)))
  have fc_11 := ((Fto_11.ext E16).keep Kq20 (fun h => ne_r11_b16 (List.mem_singleton.mp h)))
  have fc_12 := ((Fdistance_11.ext E16).keep Kq20 (fun h => ne_r11_b16 (List.mem_singleton.mp h)))
  have K20 : Keep h0 T20.heap [] := K16.trans Kq20 (fun x hx => by cases List.mem_singleton.mp hx; exact Or.inr sz_b16)
  have Z20 : n0 ≤ T20.heap.size := Nat.le_trans Z16 Kq20.1
  refine own_by (fun t k => st20.trans k) ?_
  have sg28 : ∀ t, own_S p e below T20 (mkF m 28 (own_AIIRRRRU p0 p1 r1 r6 r11 b16) [(.ref r1), (.ref b16)]) t → own_S p e below T20 (mkF m 23 (own_AIIRRRUU p0 p1 r1 r6 r11) [(.ref b16)]) t := by
    intro t k
    show own_S p e below T20 (mkF m 23 (own_AIIRRRUU p0 p1 r1 r6 r11) [(.ref b16)]) _
    refine XS.astore X20.here hx rfl (hb hby at_23) rfl rfl (l' := (own_AIIRRRRU p0 p1 r1 r6 r11 b16)) rfl ?_
    show own_S p e below T20 (mkF m 25 (own_AIIRRRRU p0 p1 r1 r6 r11 b16) []) _
    refine XS.aload X20.here hx rfl (hb hby at_25) rfl rfl ?_
    show own_S p e below T20 (mkF m 27 (own_AIIRRRRU p0 p1 r1 r6 r11 b16) [(.ref b16)]) _
    refine XS.aloadN X20.here hx rfl (hb hby at_27) rfl rfl ?_
    exact k
  refine own_by sg28 ?_
  obtain ⟨cq28, kq28, q28a, q28b, q28c⟩ := isOf hZ rfl Eq20
  obtain ⟨_, _, ⟨T28, L28, k28, n28⟩, -, X28, ⟨Lc28, hQ28, l28, y28, z28⟩, st28⟩ := X20.virtualBack hx (y := (⟨"java/util/ArrayList", "add", "(Ljava/lang/Object;)Z"⟩ : MethodName)) (z := (⟨"java/util/ArrayList", "add", "(Ljava/lang/Object;)Z"⟩ : MethodName)) hown (mvT hZ (hw _ (List.mem_of_getElem? (i := 44) rfl))) (mvT hZ (hw _ (List.mem_of_getElem? (i := 45) rfl))) (notFace_of_selects (args := #[]) (mvT hZ (hw _ (List.mem_of_getElem? (i := 47) rfl)))) (mvT hZ (hw _ (List.mem_of_getElem? (i := 47) rfl))) (mvT hZ (hw _ (List.mem_of_getElem? (i := 46) rfl))) (by decide) (backOf (W := 0) (rm7 l Z a0 hw [] b16 r1 wD cl T20.heap n0 Z20 (((((O.keep Kq1 all0).keep Kq6 all0).keep Kq11 all0).ext E16).keep Kq20 (allS g_b16 all0)) S_D Ar_D hsz Eq20 FM20 FD20 FS20 g_b16 ((((Eq1.keep Kq6).keep Kq11).ext E16).keep Kq20)) hZ (hw _ (List.mem_of_getElem? (i := 48) rfl)) (hw _ (List.mem_of_getElem? (i := 22) rfl)) (by decide) (by decide)) q28a q28c (g := (mkF m 28 (own_AIIRRRRU p0 p1 r1 r6 r11 b16) [(.ref r1), (.ref b16)])) rfl (by rw [hml]; rfl) (Steps.refl _) (argsL := [(.ref r1)]) (rest := []) (lenOf pd_0_2 rfl) rfl (by show 2 * 0 + _ ≤ _; exact Nat.le_of_eq rfl) (hb hby at_28) (fun _ _ => ⟨rfl, rfl, (by decide : 4 + 1 ≤ _), (by decide : 12 + 10 ≤ _)⟩)
  dsimp only [Pt.U, Pt.locs, Pt.cells, Pt.slots] at X28 l28 y28 z28 st28 hQ28
  subst l28 y28 z28
  obtain ⟨r28, kA28, rfl, ge28, N28q, Kq28, Eq28, FM28, FD28, FS28, Aq28⟩ := hQ28
  have N28 := Fr.app N20 N28q
  have ne_r1_r28 : r1 ≠ r28 := Nat.ne_of_lt (Nat.lt_of_lt_of_le ((((Eq1.keep Kq6).keep Kq11).ext E16).keep Kq20).lt ge28)
  have ne_r6_r28 : r6 ≠ r28 := Nat.ne_of_lt (Nat.lt_of_lt_of_le (((Eq6.keep Kq11).ext E16).keep Kq20).lt ge28)
  have ne_r11_r28 : r11 ≠ r28 := Nat.ne_of_lt (Nat.lt_of_lt_of_le ((Eq11.ext E16).keep Kq20).lt ge28)
  have ne_b16_r28 : b16 ≠ r28 := Nat.ne_of_lt (Nat.lt_of_lt_of_le Eq20.lt ge28)
  have g_r28 : n0 ≤ r28 := Nat.le_trans Z20 ge28
  have sz_r28 : h0.size ≤ r28 := Nat.le_trans K20.1 ge28
  have fc_13 := (fc_4.keep Kq28 (fun h => ne_r1_b16 (List.mem_singleton.mp h)))
  have fc_14 := (fc_5.keep Kq28 (fun h => ne_r1_b16 (List.mem_singleton.mp h)))
  have fc_15 := (fc_6.keep Kq28 (fun h => ne_r1_b16 (List.mem_singleton.mp h)))
  have fc_16 := (fc_7.keep Kq28 (fun h => ne_r6_b16 (List.mem_singleton.mp h)))
  have fc_17 := (fc_8.keep Kq28 (fun h => ne_r6_b16 (List.mem_singleton.mp h)))
  have fc_18 := (fc_9.keep Kq28 (fun h => ne_r6_b16 (List.mem_singleton.mp h)))
  have fc_19 := (fc_10.keep Kq28 (fun h => ne_r11_b16 (List.mem_singleton.mp h)))
  have fc_20 := (fc_11.keep Kq28 (fun h => ne_r11_b16 (List.mem_singleton.mp h)))
  have fc_21 := (fc_12.keep Kq28 (fun h => ne_r11_b16 (List.mem_singleton.mp h)))
  have K28 : Keep h0 T28.heap [] := K20.trans Kq28 (fun x hx => by cases List.mem_singleton.mp hx; exact Or.inr sz_b16)
  have Z28 : n0 ≤ T28.heap.size := Nat.le_trans Z20 Kq28.1
  refine own_by (fun t k => st28.trans k) ?_
  have sg33 : ∀ t, own_S p e below T28 (mkF m 33 (own_AIIRRRRU p0 p1 r1 r6 r11 b16) [(.ref r1)]) t → own_S p e below T28 (mkF m 31 (own_AIIRRRRU p0 p1 r1 r6 r11 b16) [(.int (1 : Int32))]) t := by
    intro t k
    show own_S p e below T28 (mkF m 31 (own_AIIRRRRU p0 p1 r1 r6 r11 b16) [(.int (1 : Int32))]) _
    refine XS.pop X28.here hx rfl (hb hby at_31) rfl rfl ?_
    show own_S p e below T28 (mkF m 32 (own_AIIRRRRU p0 p1 r1 r6 r11 b16) []) _
    refine XS.aloadN X28.here hx rfl (hb hby at_32) rfl rfl ?_
    exact k
  refine own_by sg33 ?_
  obtain ⟨cq33, kq33, q33a, q33b, q33c⟩ := isOf hZ rfl (((((Eq1.keep Kq6).keep Kq11).ext E16).keep Kq20).keep Kq28)
  obtain ⟨_, _, ⟨T33, L33, k33, n33⟩, -, X33, ⟨Lc33, hQ33, l33, y33, z33⟩, st33⟩ := X28.virtualBack hx (y := (⟨"com/example/catchment/catchment/Position", "isNode", "()Z"⟩ : MethodName)) (z := (⟨"com/example/catchment/catchment/Position", "isNode", "()Z"⟩ : MethodName)) hown (mvT hZ (hw _ (List.mem_of_getElem? (i := 75) rfl))) (mvT hZ (hw _ (List.mem_of_getElem? (i := 76) rfl))) (notFace_of_selects (args := #[]) (mvT hZ (hw _ (List.mem_of_getElem? (i := 78) rfl)))) (mvT hZ (hw _ (List.mem_of_getElem? (i := 78) rfl))) (mvT hZ (hw _ (List.mem_of_getElem? (i := 77) rfl))) (by decide) (backOf (W := 0) (rm12 l Z a0 hw [] r1 wZ T28.heap n0 Z28 fc_15 (E_Z.ext ((((((O.keep Kq1 all0).keep Kq6 all0).keep Kq11 all0).ext E16).keep Kq20 (allS g_b16 all0)).keep Kq28 (allS g_b16 all0)).2) (FI_Z.ext ((((((O.keep Kq1 all0).keep Kq6 all0).keep Kq11 all0).ext E16).keep Kq20 (allS g_b16 all0)).keep Kq28 (allS g_b16 all0)).2)) hZ (hw _ (List.mem_of_getElem? (i := 79) rfl)) (hw _ (List.mem_of_getElem? (i := 2) rfl)) (by decide) (by decide)) q33a q33c (g := (mkF m 33 (own_AIIRRRRU p0 p1 r1 r6 r11 b16) [(.ref r1)])) rfl (by rw [hml]; rfl) (Steps.refl _) (argsL := []) (rest := []) (lenOf pd_0_3 rfl) rfl (by show 2 * 0 + _ ≤ _; exact Nat.le_of_eq rfl) (hb hby at_33) (fun _ _ => ⟨rfl, rfl, (by decide : 5 + 0 ≤ _), (by decide : 22 + 0 ≤ _)⟩)
  dsimp only [Pt.U, Pt.locs, Pt.cells, Pt.slots] at X33 l33 y33 z33 st33 hQ33
  subst l33 y33 z33
  obtain ⟨rfl, N33q, hq33⟩ := hQ33
  have N33 := Fr.app N28 N33q
  refine own_by (fun t k => st33.trans k) ?_
  have sg44 : ∀ t, own_S p e below T33 (mkF m 44 (own_AIIRRRRI p0 p1 r1 r6 r11 b16 (1 : Int32)) [(.ref r1)]) t → own_S p e below T33 (mkF m 36 (own_AIIRRRRU p0 p1 r1 r6 r11 b16) [(.int (1 : Int32))]) t := by
    intro t k
    show own_S p e below T33 (mkF m 36 (own_AIIRRRRU p0 p1 r1 r6 r11 b16) [(.int (1 : Int32))]) _
    refine XS.istore X33.here hx rfl (hb hby at_36) rfl (l' := (own_AIIRRRRI p0 p1 r1 r6 r11 b16 (1 : Int32))) rfl ?_
    show own_S p e below T33 (mkF m 38 (own_AIIRRRRI p0 p1 r1 r6 r11 b16 (1 : Int32)) []) _
    refine XS.iload X33.here hx rfl (hb hby at_38) rfl ?_
    show own_S p e below T33 (mkF m 40 (own_AIIRRRRI p0 p1 r1 r6 r11 b16 (1 : Int32)) [(.int (1 : Int32))]) _
    refine XS.ifNo X33.here hx rfl (hb hby at_40) rfl ((if0 _ _).trans (feq (by decide : ¬ ((1 : Int32) = (0 : Int32)))).1) ?_
    show own_S p e below T33 (mkF m 43 (own_AIIRRRRI p0 p1 r1 r6 r11 b16 (1 : Int32)) []) _
    refine XS.aloadN X33.here hx rfl (hb hby at_43) rfl rfl ?_
    exact k
  refine own_by sg44 ?_
  obtain ⟨cq44, kq44, q44a, q44b, q44c⟩ := isOf hZ hq33 (((((Eq1.keep Kq6).keep Kq11).ext E16).keep Kq20).keep Kq28)
  obtain ⟨_, _, ⟨T44, L44, k44, n44⟩, -, X44, ⟨Lc44, hQ44, l44, y44, z44⟩, st44⟩ := X33.virtualBack hx (y := (⟨"com/example/catchment/catchment/Position", "from", "()I"⟩ : MethodName)) (z := (⟨"com/example/catchment/catchment/Position", "from", "()I"⟩ : MethodName)) hown (mvT hZ (hw _ (List.mem_of_getElem? (i := 92) rfl))) (mvT hZ (hw _ (List.mem_of_getElem? (i := 93) rfl))) (notFace_of_selects (args := #[]) (mvT hZ (hw _ (List.mem_of_getElem? (i := 95) rfl)))) (mvT hZ (hw _ (List.mem_of_getElem? (i := 95) rfl))) (mvT hZ (hw _ (List.mem_of_getElem? (i := 94) rfl))) (by decide) (backOf (W := 0) (rm15 l Z a0 hw [] r1 p0 T28.heap n0 Z28 fc_13) hZ (hw _ (List.mem_of_getElem? (i := 96) rfl)) (hw _ (List.mem_of_getElem? (i := 2) rfl)) (by decide) (by decide)) q44a q44c (g := (mkF m 44 (own_AIIRRRRI p0 p1 r1 r6 r11 b16 (1 : Int32)) [(.ref r1)])) rfl (by rw [hml]; rfl) (Steps.refl _) (argsL := []) (rest := []) (lenOf pd_0_4 rfl) rfl (by show 2 * 0 + _ ≤ _; exact Nat.le_of_eq rfl) (hb hby at_44) (fun _ _ => ⟨rfl, hq33, (by decide : 5 + 0 ≤ _), (by decide : 22 + 0 ≤ _)⟩)
  dsimp only [Pt.U, Pt.locs, Pt.cells, Pt.slots] at X44 l44 y44 z44 st44 hQ44
  subst l44 y44 z44
  obtain ⟨rfl, N44q, hq44⟩ := hQ44
  have N44 := Fr.app N33 N44q
  refine own_by (fun t k => st44.trans k) ?_
  have sg64 : ∀ t, own_S p e below T44 (mkF m 64 (own_AIIRRRRI p0 p1 r1 r6 r11 b16 (1 : Int32)) [(.ref r1)]) t → own_S p e below T44 (mkF m 47 (own_AIIRRRRI p0 p1 r1 r6 r11 b16 (1 : Int32)) [(.int p0)]) t := by
    intro t k
    show own_S p e below T44 (mkF m 47 (own_AIIRRRRI p0 p1 r1 r6 r11 b16 (1 : Int32)) [(.int p0)]) _
    refine XS.iloadN X44.here hx rfl (hb hby at_47) rfl ?_
    show own_S p e below T44 (mkF m 48 (own_AIIRRRRI p0 p1 r1 r6 r11 b16 (1 : Int32)) [(.int p0), (.int p0)]) _
    refine XS.icmpNo X44.here hx rfl (hb hby at_48) rfl (teq (rfl : p0 = p0)).2 ?_
    show own_S p e below T44 (mkF m 51 (own_AIIRRRRI p0 p1 r1 r6 r11 b16 (1 : Int32)) []) _
    refine XS.iconst X44.here hx rfl (hb hby at_51) ?_
    show own_S p e below T44 (mkF m 52 (own_AIIRRRRI p0 p1 r1 r6 r11 b16 (1 : Int32)) [(.int (1 : Int32))]) _
    refine XS.goto X44.here hx rfl (pc0 := 52) (pc' := 56) rfl (hb hby at_52) (by decide) (by decide) ?_
    show own_S p e below T44 (mkF m 56 (own_AIIRRRRI p0 p1 r1 r6 r11 b16 (1 : Int32)) [(.int (1 : Int32))]) _
    refine XS.istore X44.here hx rfl (hb hby at_56) rfl (l' := (own_AIIRRRRI p0 p1 r1 r6 r11 b16 (1 : Int32))) rfl ?_
    show own_S p e below T44 (mkF m 58 (own_AIIRRRRI p0 p1 r1 r6 r11 b16 (1 : Int32)) []) _
    refine XS.iload X44.here hx rfl (hb hby at_58) rfl ?_
    show own_S p e below T44 (mkF m 60 (own_AIIRRRRI p0 p1 r1 r6 r11 b16 (1 : Int32)) [(.int (1 : Int32))]) _
    refine XS.ifNo X44.here hx rfl (hb hby at_60) rfl ((if0 _ _).trans (feq (by decide : ¬ ((1 : Int32) = (0 : Int32)))).1) ?_
    show own_S p e below T44 (mkF m 63 (own_AIIRRRRI p0 p1 r1 r6 r11 b16 (1 : Int32)) []) _
    refine XS.aloadN X44.here hx rfl (hb hby at_63) rfl rfl ?_
    exact k
  refine own_by sg64 ?_
  obtain ⟨cq64, kq64, q64a, q64b, q64c⟩ := isOf hZ hq44 (((((Eq1.keep Kq6).keep Kq11).ext E16).keep Kq20).keep Kq28)
  obtain ⟨_, _, ⟨T64, L64, k64, n64⟩, -, X64, ⟨Lc64, hQ64, l64, y64, z64⟩, st64⟩ := X44.virtualBack hx (y := (⟨"com/example/catchment/catchment/Position", "to", "()I"⟩ : MethodName)) (z := (⟨"com/example/catchment/catchment/Position", "to", "()I"⟩ : MethodName)) hown (mvT hZ (hw _ (List.mem_of_getElem? (i := 97) rfl))) (mvT hZ (hw _ (List.mem_of_getElem? (i := 98) rfl))) (notFace_of_selects (args := #[]) (mvT hZ (hw _ (List.mem_of_getElem? (i := 100) rfl)))) (mvT hZ (hw _ (List.mem_of_getElem? (i := 100) rfl))) (mvT hZ (hw _ (List.mem_of_getElem? (i := 99) rfl))) (by decide) (backOf (W := 0) (rm16 l Z a0 hw [] r1 p0 T28.heap n0 Z28 fc_14) hZ (hw _ (List.mem_of_getElem? (i := 101) rfl)) (hw _ (List.mem_of_getElem? (i := 2) rfl)) (by decide) (by decide)) q64a q64c (g := (mkF m 64 (own_AIIRRRRI p0 p1 r1 r6 r11 b16 (1 : Int32)) [(.ref r1)])) rfl (by rw [hml]; rfl) (Steps.refl _) (argsL := []) (rest := []) (lenOf pd_0_4 rfl) rfl (by show 2 * 0 + _ ≤ _; exact Nat.le_of_eq rfl) (hb hby at_64) (fun _ _ => ⟨rfl, hq44, (by decide : 5 + 0 ≤ _), (by decide : 22 + 0 ≤ _)⟩)
  dsimp only [Pt.U, Pt.locs, Pt.cells, Pt.slots] at X64 l64 y64 z64 st64 hQ64
  subst l64 y64 z64
  obtain ⟨rfl, N64q, hq64⟩ := hQ64
  have N64 := Fr.app N44 N64q
  refine own_by (fun t k => st64.trans k) ?_
  have sg84 : ∀ t, own_S p e below T64 (mkF m 84 (own_AIIRRRRI p0 p1 r1 r6 r11 b16 (1 : Int32)) [(.ref r6)]) t → own_S p e below T64 (mkF m 67 (own_AIIRRRRI p0 p1 r1 r6 r11 b16 (1 : Int32)) [(.int p0)]) t := by
    intro t k
    show own_S p e below T64 (mkF m 67 (own_AIIRRRRI p0 p1 r1 r6 r11 b16 (1 : Int32)) [(.int p0)]) _
    refine XS.iloadN X64.here hx rfl (hb hby at_67) rfl ?_
    show own_S p e below T64 (mkF m 68 (own_AIIRRRRI p0 p1 r1 r6 r11 b16 (1 : Int32)) [(.int p0), (.int p0)]) _
    refine XS.icmpNo X64.here hx rfl (hb hby at_68) rfl (teq (rfl : p0 = p0)).2 ?_
    show own_S p e below T64 (mkF m 71 (own_AIIRRRRI p0 p1 r1 r6 r11 b16 (1 : Int32)) []) _
    refine XS.iconst X64.here hx rfl (hb hby at_71) ?_
    show own_S p e below T64 (mkF m 72 (own_AIIRRRRI p0 p1 r1 r6 r11 b16 (1 : Int32)) [(.int (1 : Int32))]) _
    refine XS.goto X64.here hx rfl (pc0 := 72) (pc' := 76) rfl (hb hby at_72) (by decide) (by decide) ?_
    show own_S p e below T64 (mkF m 76 (own_AIIRRRRI p0 p1 r1 r6 r11 b16 (1 : Int32)) [(.int (1 : Int32))]) _
    refine XS.istore X64.here hx rfl (hb hby at_76) rfl (l' := (own_AIIRRRRI p0 p1 r1 r6 r11 b16 (1 : Int32))) rfl ?_
    show own_S p e below T64 (mkF m 78 (own_AIIRRRRI p0 p1 r1 r6 r11 b16 (1 : Int32)) []) _
    refine XS.iload X64.here hx rfl (hb hby at_78) rfl ?_
    show own_S p e below T64 (mkF m 80 (own_AIIRRRRI p0 p1 r1 r6 r11 b16 (1 : Int32)) [(.int (1 : Int32))]) _
    refine XS.ifNo X64.here hx rfl (hb hby at_80) rfl ((if0 _ _).trans (feq (by decide : ¬ ((1 : Int32) = (0 : Int32)))).1) ?_
    show own_S p e below T64 (mkF m 83 (own_AIIRRRRI p0 p1 r1 r6 r11 b16 (1 : Int32)) []) _
    refine XS.aloadN X64.here hx rfl (hb hby at_83) rfl rfl ?_
    exact k
  refine own_by sg84 ?_
  obtain ⟨cq84, kq84, q84a, q84b, q84c⟩ := isOf hZ hq64 ((((Eq6.keep Kq11).ext E16).keep Kq20).keep Kq28)
  obtain ⟨_, _, ⟨T84, L84, k84, n84⟩, -, X84, ⟨Lc84, hQ84, l84, y84, z84⟩, st84⟩ := X64.virtualBack hx (y := (⟨"com/example/catchment/catchment/Position", "from", "()I"⟩ : MethodName)) (z := (⟨"com/example/catchment/catchment/Position", "from", "()I"⟩ : MethodName)) hown (mvT hZ (hw _ (List.mem_of_getElem? (i := 92) rfl))) (mvT hZ (hw _ (List.mem_of_getElem? (i := 93) rfl))) (notFace_of_selects (args := #[]) (mvT hZ (hw _ (List.mem_of_getElem? (i := 95) rfl)))) (mvT hZ (hw _ (List.mem_of_getElem? (i := 95) rfl))) (mvT hZ (hw _ (List.mem_of_getElem? (i := 94) rfl))) (by decide) (backOf (W := 0) (rm15 l Z a0 hw [] r6 p1 T28.heap n0 Z28 fc_16) hZ (hw _ (List.mem_of_getElem? (i := 96) rfl)) (hw _ (List.mem_of_getElem? (i := 2) rfl)) (by decide) (by decide)) q84a q84c (g := (mkF m 84 (own_AIIRRRRI p0 p1 r1 r6 r11 b16 (1 : Int32)) [(.ref r6)])) rfl (by rw [hml]; rfl) (Steps.refl _) (argsL := []) (rest := []) (lenOf pd_0_4 rfl) rfl (by show 2 * 0 + _ ≤ _; exact Nat.le_of_eq rfl) (hb hby at_84) (fun _ _ => ⟨rfl, hq64, (by decide : 5 + 0 ≤ _), (by decide : 22 + 0 ≤ _)⟩)
  dsimp only [Pt.U, Pt.locs, Pt.cells, Pt.slots] at X84 l84 y84 z84 st84 hQ84
  subst l84 y84 z84
  obtain ⟨rfl, N84q, hq84⟩ := hQ84
  have N84 := Fr.app N64 N84q
  refine own_by (fun t k => st84.trans k) ?_
  have sg104 : ∀ t, own_S p e below T84 (mkF m 104 (own_AIIRRRRI p0 p1 r1 r6 r11 b16 (1 : Int32)) [(.ref r6)]) t → own_S p e below T84 (mkF m 87 (own_AIIRRRRI p0 p1 r1 r6 r11 b16 (1 : Int32)) [(.int p1)]) t := by
    intro t k
    show own_S p e below T84 (mkF m 87 (own_AIIRRRRI p0 p1 r1 r6 r11 b16 (1 : Int32)) [(.int p1)]) _
    refine XS.iloadN X84.here hx rfl (hb hby at_87) rfl ?_
    show own_S p e below T84 (mkF m 88 (own_AIIRRRRI p0 p1 r1 r6 r11 b16 (1 : Int32)) [(.int p1), (.int p1)]) _
    refine XS.icmpNo X84.here hx rfl (hb hby at_88) rfl (teq (rfl : p1 = p1)).2 ?_
    show own_S p e below T84 (mkF m 91 (own_AIIRRRRI p0 p1 r1 r6 r11 b16 (1 : Int32)) []) _
    refine XS.iconst X84.here hx rfl (hb hby at_91) ?_
    show own_S p e below T84 (mkF m 92 (own_AIIRRRRI p0 p1 r1 r6 r11 b16 (1 : Int32)) [(.int (1 : Int32))]) _
    refine XS.goto X84.here hx rfl (pc0 := 92) (pc' := 96) rfl (hb hby at_92) (by decide) (by decide) ?_
    show own_S p e below T84 (mkF m 96 (own_AIIRRRRI p0 p1 r1 r6 r11 b16 (1 : Int32)) [(.int (1 : Int32))]) _
    refine XS.istore X84.here hx rfl (hb hby at_96) rfl (l' := (own_AIIRRRRI p0 p1 r1 r6 r11 b16 (1 : Int32))) rfl ?_
    show own_S p e below T84 (mkF m 98 (own_AIIRRRRI p0 p1 r1 r6 r11 b16 (1 : Int32)) []) _
    refine XS.iload X84.here hx rfl (hb hby at_98) rfl ?_
    show own_S p e below T84 (mkF m 100 (own_AIIRRRRI p0 p1 r1 r6 r11 b16 (1 : Int32)) [(.int (1 : Int32))]) _
    refine XS.ifNo X84.here hx rfl (hb hby at_100) rfl ((if0 _ _).trans (feq (by decide : ¬ ((1 : Int32) = (0 : Int32)))).1) ?_
    show own_S p e below T84 (mkF m 103 (own_AIIRRRRI p0 p1 r1 r6 r11 b16 (1 : Int32)) []) _
    refine XS.aloadN X84.here hx rfl (hb hby at_103) rfl rfl ?_
    exact k
  refine own_by sg104 ?_
  obtain ⟨cq104, kq104, q104a, q104b, q104c⟩ := isOf hZ hq84 ((((Eq6.keep Kq11).ext E16).keep Kq20).keep Kq28)
  obtain ⟨_, _, ⟨T104, L104, k104, n104⟩, -, X104, ⟨Lc104, hQ104, l104, y104, z104⟩, st104⟩ := X84.virtualBack hx (y := (⟨"com/example/catchment/catchment/Position", "to", "()I"⟩ : MethodName)) (z := (⟨"com/example/catchment/catchment/Position", "to", "()I"⟩ : MethodName)) hown (mvT hZ (hw _ (List.mem_of_getElem? (i := 97) rfl))) (mvT hZ (hw _ (List.mem_of_getElem? (i := 98) rfl))) (notFace_of_selects (args := #[]) (mvT hZ (hw _ (List.mem_of_getElem? (i := 100) rfl)))) (mvT hZ (hw _ (List.mem_of_getElem? (i := 100) rfl))) (mvT hZ (hw _ (List.mem_of_getElem? (i := 99) rfl))) (by decide) (backOf (W := 0) (rm16 l Z a0 hw [] r6 p1 T28.heap n0 Z28 fc_17) hZ (hw _ (List.mem_of_getElem? (i := 101) rfl)) (hw _ (List.mem_of_getElem? (i := 2) rfl)) (by decide) (by decide)) q104a q104c (g := (mkF m 104 (own_AIIRRRRI p0 p1 r1 r6 r11 b16 (1 : Int32)) [(.ref r6)])) rfl (by rw [hml]; rfl) (Steps.refl _) (argsL := []) (rest := []) (lenOf pd_0_4 rfl) rfl (by show 2 * 0 + _ ≤ _; exact Nat.le_of_eq rfl) (hb hby at_104) (fun _ _ => ⟨rfl, hq84, (by decide : 5 + 0 ≤ _), (by decide : 22 + 0 ≤ _)⟩)
  dsimp only [Pt.U, Pt.locs, Pt.cells, Pt.slots] at X104 l104 y104 z104 st104 hQ104
  subst l104 y104 z104
  obtain ⟨rfl, N104q, hq104⟩ := hQ104
  have N104 := Fr.app N84 N104q
  refine own_by (fun t k => st104.trans k) ?_
  have sg126 : ∀ t, own_S p e below T104 (mkF m 126 (own_AIIRRRRI p0 p1 r1 r6 r11 b16 (1 : Int32)) [(.ref r11), (.ref r1)]) t → own_S p e below T104 (mkF m 107 (own_AIIRRRRI p0 p1 r1 r6 r11 b16 (1 : Int32)) [(.int p1)]) t := by
    intro t k
    show own_S p e below T104 (mkF m 107 (own_AIIRRRRI p0 p1 r1 r6 r11 b16 (1 : Int32)) [(.int p1)]) _
    refine XS.iloadN X104.here hx rfl (hb hby at_107) rfl ?_
    show own_S p e below T104 (mkF m 108 (own_AIIRRRRI p0 p1 r1 r6 r11 b16 (1 : Int32)) [(.int p1), (.int p1)]) _
    refine XS.icmpNo X104.here hx rfl (hb hby at_108) rfl (teq (rfl : p1 = p1)).2 ?_
    show own_S p e below T104 (mkF m 111 (own_AIIRRRRI p0 p1 r1 r6 r11 b16 (1 : Int32)) []) _
    refine XS.iconst X104.here hx rfl (hb hby at_111) ?_
    show own_S p e below T104 (mkF m 112 (own_AIIRRRRI p0 p1 r1 r6 r11 b16 (1 : Int32)) [(.int (1 : Int32))]) _
    refine XS.goto X104.here hx rfl (pc0 := 112) (pc' := 116) rfl (hb hby at_112) (by decide) (by decide) ?_
    show own_S p e below T104 (mkF m 116 (own_AIIRRRRI p0 p1 r1 r6 r11 b16 (1 : Int32)) [(.int (1 : Int32))]) _
    refine XS.istore X104.here hx rfl (hb hby at_116) rfl (l' := (own_AIIRRRRI p0 p1 r1 r6 r11 b16 (1 : Int32))) rfl ?_
    show own_S p e below T104 (mkF m 118 (own_AIIRRRRI p0 p1 r1 r6 r11 b16 (1 : Int32)) []) _
    refine XS.iload X104.here hx rfl (hb hby at_118) rfl ?_
    show own_S p e below T104 (mkF m 120 (own_AIIRRRRI p0 p1 r1 r6 r11 b16 (1 : Int32)) [(.int (1 : Int32))]) _
    refine XS.ifNo X104.here hx rfl (hb hby at_120) rfl ((if0 _ _).trans (feq (by decide : ¬ ((1 : Int32) = (0 : Int32)))).1) ?_
    show own_S p e below T104 (mkF m 123 (own_AIIRRRRI p0 p1 r1 r6 r11 b16 (1 : Int32)) []) _
    refine XS.aloadN X104.here hx rfl (hb hby at_123) rfl rfl ?_
    show own_S p e below T104 (mkF m 124 (own_AIIRRRRI p0 p1 r1 r6 r11 b16 (1 : Int32)) [(.ref r1)]) _
    refine XS.aload X104.here hx rfl (hb hby at_124) rfl rfl ?_
    exact k
  refine own_by sg126 ?_
  obtain ⟨cq126, kq126, q126a, q126b, q126c⟩ := isOf hZ hq104 (((((Eq1.keep Kq6).keep Kq11).ext E16).keep Kq20).keep Kq28)
  obtain ⟨_, _, ⟨T126, L126, k126, n126⟩, -, X126, ⟨Lc126, hQ126, l126, y126, z126⟩, st126⟩ := X104.virtualBack hx (y := (⟨"com/example/catchment/catchment/Position", "equals", "(Ljava/lang/Object;)Z"⟩ : MethodName)) (z := (⟨"com/example/catchment/catchment/Position", "equals", "(Ljava/lang/Object;)Z"⟩ : MethodName)) hown (mvT hZ (hw _ (List.mem_of_getElem? (i := 102) rfl))) (mvT hZ (hw _ (List.mem_of_getElem? (i := 103) rfl))) (notFace_of_selects (args := #[]) (mvT hZ (hw _ (List.mem_of_getElem? (i := 105) rfl)))) (mvT hZ (hw _ (List.mem_of_getElem? (i := 105) rfl))) (mvT hZ (hw _ (List.mem_of_getElem? (i := 104) rfl))) (by decide) (backOf (W := 0) (rm17 l Z a0 hw [] r1 r11 p0 p0 wZ T28.heap n0 Z28 (((Eq11.ext E16).keep Kq20).keep Kq28) fc_13 fc_14 fc_15 fc_19 fc_20 fc_21 (E_Z.ext ((((((O.keep Kq1 all0).keep Kq6 all0).keep Kq11 all0).ext E16).keep Kq20 (allS g_b16 all0)).keep Kq28 (allS g_b16 all0)).2)) hZ (hw _ (List.mem_of_getElem? (i := 106) rfl)) (hw _ (List.mem_of_getElem? (i := 2) rfl)) (by decide) (by decide)) q126a q126c (g := (mkF m 126 (own_AIIRRRRI p0 p1 r1 r6 r11 b16 (1 : Int32)) [(.ref r11), (.ref r1)])) rfl (by rw [hml]; rfl) (Steps.refl _) (argsL := [(.ref r11)]) (rest := []) (lenOf pd_0_2 rfl) rfl (by show 2 * 0 + _ ≤ _; exact Nat.le_of_eq rfl) (hb hby at_126) (fun _ _ => ⟨rfl, hq104, (by decide : 5 + 0 ≤ _), (by decide : 22 + 0 ≤ _)⟩)
  dsimp only [Pt.U, Pt.locs, Pt.cells, Pt.slots] at X126 l126 y126 z126 st126 hQ126
  subst l126 y126 z126
  obtain ⟨rfl, N126q, hq126⟩ := hQ126
  have N126 := Fr.app N104 N126q
  obtain ⟨c126, hc126⟩ : ∃ z : Int32, z = (if p0 = p0 then (1 : Int32) else (0 : Int32)) := ⟨_, rfl⟩
  rw [← hc126] at st126
  refine own_by (fun t k => st126.trans k) ?_
  have sg146 : ∀ t, own_S p e below T126 (mkF m 146 (own_AIIRRRRI p0 p1 r1 r6 r11 b16 (1 : Int32)) [(.ref r6), (.ref r1)]) t → own_S p e below T126 (mkF m 129 (own_AIIRRRRI p0 p1 r1 r6 r11 b16 (1 : Int32)) [(.int c126)]) t := by
    intro t k
    show own_S p e below T126 (mkF m 129 (own_AIIRRRRI p0 p1 r1 r6 r11 b16 (1 : Int32)) [(.int c126)]) _
    refine XS.ifNo X126.here hx rfl (hb hby at_129) rfl ((if0 _ _).trans (feq (by rw [hc126, if_pos rfl]; decide : ¬ (c126 = (0 : Int32)))).1) ?_
    show own_S p e below T126 (mkF m 132 (own_AIIRRRRI p0 p1 r1 r6 r11 b16 (1 : Int32)) []) _
    refine XS.iconst X126.here hx rfl (hb hby at_132) ?_
    show own_S p e below T126 (mkF m 133 (own_AIIRRRRI p0 p1 r1 r6 r11 b16 (1 : Int32)) [(.int (1 : Int32))]) _
    refine XS.goto X126.here hx rfl (pc0 := 133) (pc' := 137) rfl (hb hby at_133) (by decide) (by decide) ?_
    show own_S p e below T126 (mkF m 137 (own_AIIRRRRI p0 p1 r1 r6 r11 b16 (1 : Int32)) [(.int (1 : Int32))]) _
    refine XS.istore X126.here hx rfl (hb hby at_137) rfl (l' := (own_AIIRRRRI p0 p1 r1 r6 r11 b16 (1 : Int32))) rfl ?_
    show own_S p e below T126 (mkF m 139 (own_AIIRRRRI p0 p1 r1 r6 r11 b16 (1 : Int32)) []) _
    refine XS.iload X126.here hx rfl (hb hby at_139) rfl ?_
    show own_S p e below T126 (mkF m 141 (own_AIIRRRRI p0 p1 r1 r6 r11 b16 (1 : Int32)) [(.int (1 : Int32))]) _
    refine XS.ifNo X126.here hx rfl (hb hby at_141) rfl ((if0 _ _).trans (feq (by decide : ¬ ((1 : Int32) = (0 : Int32)))).1) ?_
    show own_S p e below T126 (mkF m 144 (own_AIIRRRRI p0 p1 r1 r6 r11 b16 (1 : Int32)) []) _
    refine XS.aloadN X126.here hx rfl (hb hby at_144) rfl rfl ?_
    show own_S p e below T126 (mkF m 145 (own_AIIRRRRI p0 p1 r1 r6 r11 b16 (1 : Int32)) [(.ref r1)]) _
    refine XS.aloadN X126.here hx rfl (hb hby at_145) rfl rfl ?_
    exact k
  refine own_by sg146 ?_
  obtain ⟨cq146, kq146, q146a, q146b, q146c⟩ := isOf hZ hq126 (((((Eq1.keep Kq6).keep Kq11).ext E16).keep Kq20).keep Kq28)
  obtain ⟨_, _, ⟨T146, L146, k146, n146⟩, -, X146, ⟨Lc146, hQ146, l146, y146, z146⟩, st146⟩ := X126.virtualBack hx (y := (⟨"com/example/catchment/catchment/Position", "equals", "(Ljava/lang/Object;)Z"⟩ : MethodName)) (z := (⟨"com/example/catchment/catchment/Position", "equals", "(Ljava/lang/Object;)Z"⟩ : MethodName)) hown (mvT hZ (hw _ (List.mem_of_getElem? (i := 102) rfl))) (mvT hZ (hw _ (List.mem_of_getElem? (i := 103) rfl))) (notFace_of_selects (args := #[]) (mvT hZ (hw _ (List.mem_of_getElem? (i := 105) rfl)))) (mvT hZ (hw _ (List.mem_of_getElem? (i := 105) rfl))) (mvT hZ (hw _ (List.mem_of_getElem? (i := 104) rfl))) (by decide) (backOf (W := 0) (rm17 l Z a0 hw [] r1 r6 p0 p1 wZ T28.heap n0 Z28 ((((Eq6.keep Kq11).ext E16).keep Kq20).keep Kq28) fc_13 fc_14 fc_15 fc_16 fc_17 fc_18 (E_Z.ext ((((((O.keep Kq1 all0).keep Kq6 all0).keep Kq11 all0).ext E16).keep Kq20 (allS g_b16 all0)).keep Kq28 (allS g_b16 all0)).2)) hZ (hw _ (List.mem_of_getElem? (i := 106) rfl)) (hw _ (List.mem_of_getElem? (i := 2) rfl)) (by decide) (by decide)) q146a q146c (g := (mkF m 146 (own_AIIRRRRI p0 p1 r1 r6 r11 b16 (1 : Int32)) [(.ref r6), (.ref r1)])) rfl (by rw [hml]; rfl) (Steps.refl _) (argsL := [(.ref r6)]) (rest := []) (lenOf pd_0_2 rfl) rfl (by show 2 * 0 + _ ≤ _; exact Nat.le_of_eq rfl) (hb hby at_146) (fun _ _ => ⟨rfl, hq126, (by decide : 5 + 0 ≤ _), (by decide : 22 + 0 ≤ _)⟩)
  dsimp only [Pt.U, Pt.locs, Pt.cells, Pt.slots] at X146 l146 y146 z146 st146 hQ146
  subst l146 y146 z146
  obtain ⟨rfl, N146q, hq146⟩ := hQ146
  have N146 := Fr.app N126 N146q
  obtain ⟨c146, hc146⟩ : ∃ z : Int32, z = (if p1 = p0 then (1 : Int32) else (0 : Int32)) := ⟨_, rfl⟩
  rw [← hc146] at st146
  refine own_by (fun t k => st146.trans k) ?_
  have sg151 : ∀ t, own_S p e below T146 (mkF m 151 (own_AIIRRRRI p0 p1 r1 r6 r11 b16 (1 : Int32)) [(.int p1), (.int p0), (.int c146)]) t → own_S p e below T146 (mkF m 149 (own_AIIRRRRI p0 p1 r1 r6 r11 b16 (1 : Int32)) [(.int c146)]) t := by
    intro t k
    show own_S p e below T146 (mkF m 149 (own_AIIRRRRI p0 p1 r1 r6 r11 b16 (1 : Int32)) [(.int c146)]) _
    refine XS.iloadN X146.here hx rfl (hb hby at_149) rfl ?_
    show own_S p e below T146 (mkF m 150 (own_AIIRRRRI p0 p1 r1 r6 r11 b16 (1 : Int32)) [(.int p0), (.int c146)]) _
    refine XS.iloadN X146.here hx rfl (hb hby at_150) rfl ?_
    exact k
  refine own_by sg151 ?_
  by_cases hc151 : p0 = p1
  · have sg176 : ∀ t, own_S p e below T146 (mkF m 176 (own_AIIRRRRI p0 p1 r1 r6 r11 b16 (1 : Int32)) [(.ref b16)]) t → own_S p e below T146 (mkF m 151 (own_AIIRRRRI p0 p1 r1 r6 r11 b16 (1 : Int32)) [(.int p1), (.int p0), (.int c146)]) t := by
      intro t k
      show own_S p e below T146 (mkF m 151 (own_AIIRRRRI p0 p1 r1 r6 r11 b16 (1 : Int32)) [(.int p1), (.int p0), (.int c146)]) _
      refine XS.icmpNo X146.here hx rfl (hb hby at_151) rfl (teq hc151).2 ?_
      show own_S p e below T146 (mkF m 154 (own_AIIRRRRI p0 p1 r1 r6 r11 b16 (1 : Int32)) [(.int c146)]) _
      refine XS.iconst X146.here hx rfl (hb hby at_154) ?_
      show own_S p e below T146 (mkF m 155 (own_AIIRRRRI p0 p1 r1 r6 r11 b16 (1 : Int32)) [(.int (1 : Int32)), (.int c146)]) _
      refine XS.goto X146.here hx rfl (pc0 := 155) (pc' := 159) rfl (hb hby at_155) (by decide) (by decide) ?_
      show own_S p e below T146 (mkF m 159 (own_AIIRRRRI p0 p1 r1 r6 r11 b16 (1 : Int32)) [(.int (1 : Int32)), (.int c146)]) _
      refine XS.icmpNo X146.here hx rfl (hb hby at_159) rfl (teq (by rw [hc146, if_pos hc151.symm] : c146 = (1 : Int32))).2 ?_
      show own_S p e below T146 (mkF m 162 (own_AIIRRRRI p0 p1 r1 r6 r11 b16 (1 : Int32)) []) _
      refine XS.iconst X146.here hx rfl (hb hby at_162) ?_
      show own_S p e below T146 (mkF m 163 (own_AIIRRRRI p0 p1 r1 r6 r11 b16 (1 : Int32)) [(.int (1 : Int32))]) _
      refine XS.goto X146.here hx rfl (pc0 := 163) (pc' := 167) rfl (hb hby at_163) (by decide) (by decide) ?_
      show own_S p e below T146 (mkF m 167 (own_AIIRRRRI p0 p1 r1 r6 r11 b16 (1 : Int32)) [(.int (1 : Int32))]) _
      refine XS.istore X146.here hx rfl (hb hby at_167) rfl (l' := (own_AIIRRRRI p0 p1 r1 r6 r11 b16 (1 : Int32))) rfl ?_
      show own_S p e below T146 (mkF m 169 (own_AIIRRRRI p0 p1 r1 r6 r11 b16 (1 : Int32)) []) _
      refine XS.iload X146.here hx rfl (hb hby at_169) rfl ?_
      show own_S p e below T146 (mkF m 171 (own_AIIRRRRI p0 p1 r1 r6 r11 b16 (1 : Int32)) [(.int (1 : Int32))]) _
      refine XS.ifNo X146.here hx rfl (hb hby at_171) rfl ((if0 _ _).trans (feq (by decide : ¬ ((1 : Int32) = (0 : Int32)))).1) ?_
      show own_S p e below T146 (mkF m 174 (own_AIIRRRRI p0 p1 r1 r6 r11 b16 (1 : Int32)) []) _
      refine XS.aload X146.here hx rfl (hb hby at_174) rfl rfl ?_
      exact k
    refine own_by sg176 ?_
    obtain ⟨_, _, ⟨T176, L176, k176, n176⟩, -, X176, ⟨Lc176, hQ176, l176, y176, z176⟩, st176⟩ := Jvm.LawKit.callS X146 hx (y := (⟨"com/example/catchment/catchment/Position", "places", "(Ljava/util/List;)I"⟩ : MethodName)) hown (mvT hZ (hw _ (List.mem_of_getElem? (i := 115) rfl))) (mvT hZ (hw _ (List.mem_of_getElem? (i := 116) rfl))) (mvT hZ (hw _ (List.mem_of_getElem? (i := 2) rfl))) (mvT hZ (hw _ (List.mem_of_getElem? (i := 117) rfl))) (by decide) (backOf (W := 0) (rm19 l Z a0 hw [] b16 r28 r1 wZ kA28 T28.heap n0 Z28 ((((((O.keep Kq1 all0).keep Kq6 all0).keep Kq11 all0).ext E16).keep Kq20 (allS g_b16 all0)).keep Kq28 (allS g_b16 all0)) E_Z FS_Z Eq28 FM28 FD28 FS28 Aq28 (((((Eq1.keep Kq6).keep Kq11).ext E16).keep Kq20).keep Kq28) fc_15) hZ (hw _ (List.mem_of_getElem? (i := 117) rfl)) (hw _ (List.mem_of_getElem? (i := 2) rfl)) (by decide) (by decide)) (g := (mkF m 176 (own_AIIRRRRI p0 p1 r1 r6 r11 b16 (1 : Int32)) [(.ref b16)])) rfl (by rw [hml]; rfl) (argsL := [(.ref b16)]) (rest := []) (lenOf pd_0_5 rfl) rfl (by show 2 * 0 + _ ≤ _; exact Nat.le_of_eq rfl) (hb hby at_176) (fun _ _ => ⟨rfl, hq146, (by decide : 5 + 1 ≤ _), (by decide : 22 + 4 ≤ _)⟩)
    dsimp only [Pt.U, Pt.locs, Pt.cells, Pt.slots] at X176 l176 y176 z176 st176 hQ176
    subst l176 y176 z176
    obtain ⟨rfl, N176q⟩ := hQ176
    have N176 := Fr.app N146 N176q
    refine own_by st176 ?_
    have sg191 : ∀ t, own_S p e below T176 (mkF m 191 (own_AIIRRRRI p0 p1 r1 r6 r11 b16 (1 : Int32)) [(.int (1 : Int32))]) t → own_S p e below T176 (mkF m 179 (own_AIIRRRRI p0 p1 r1 r6 r11 b16 (1 : Int32)) [(.int (0 : Int32))]) t := by
      intro t k
      show own_S p e below T176 (mkF m 179 (own_AIIRRRRI p0 p1 r1 r6 r11 b16 (1 : Int32)) [(.int (0 : Int32))]) _
      refine XS.ifNo X176.here hx rfl (hb hby at_179) rfl ((if0 _ _).trans (teq (by decide : (0 : Int32) = (0 : Int32))).2) ?_
      show own_S p e below T176 (mkF m 182 (own_AIIRRRRI p0 p1 r1 r6 r11 b16 (1 : Int32)) []) _
      refine XS.iconst X176.here hx rfl (hb hby at_182) ?_
      show own_S p e below T176 (mkF m 183 (own_AIIRRRRI p0 p1 r1 r6 r11 b16 (1 : Int32)) [(.int (1 : Int32))]) _
      refine XS.goto X176.here hx rfl (pc0 := 183) (pc' := 187) rfl (hb hby at_183) (by decide) (by decide) ?_
      show own_S p e below T176 (mkF m 187 (own_AIIRRRRI p0 p1 r1 r6 r11 b16 (1 : Int32)) [(.int (1 : Int32))]) _
      refine XS.istore X176.here hx rfl (hb hby at_187) rfl (l' := (own_AIIRRRRI p0 p1 r1 r6 r11 b16 (1 : Int32))) rfl ?_
      show own_S p e below T176 (mkF m 189 (own_AIIRRRRI p0 p1 r1 r6 r11 b16 (1 : Int32)) []) _
      refine XS.iload X176.here hx rfl (hb hby at_189) rfl ?_
      exact k
    refine own_by sg191 ?_
    obtain ⟨fs, hr, hrun, hended, hW, hsame⟩ := X176.leave (v := some (.int (1 : Int32))) (fun h => by rw [Bd.returns] at h; cases h)
    refine ⟨_, _, ?_, hrun, hended, _, _, rfl, ?_, ⟨_, rfl⟩, hW, hsame.mono (by decide) (by decide)⟩
    · exact retN X176 hx (t := .boolean) Bd.returns (by simp) (hb hby at_191) hr
    · show Q0 Z p0 p1 wZ wD cl h0 n0 _ T176.heap _
      exact ⟨rfl, N176⟩
  · have sg176 : ∀ t, own_S p e below T146 (mkF m 176 (own_AIIRRRRI p0 p1 r1 r6 r11 b16 (1 : Int32)) [(.ref b16)]) t → own_S p e below T146 (mkF m 151 (own_AIIRRRRI p0 p1 r1 r6 r11 b16 (1 : Int32)) [(.int p1), (.int p0), (.int c146)]) t := by
      intro t k
      show own_S p e below T146 (mkF m 151 (own_AIIRRRRI p0 p1 r1 r6 r11 b16 (1 : Int32)) [(.int p1), (.int p0), (.int c146)]) _
      refine XS.icmpYes X146.here hx rfl (pc0 := 151) (pc' := 158) rfl (hb hby at_151) rfl (feq hc151).2 (by decide) (by decide) ?_
      show own_S p e below T146 (mkF m 158 (own_AIIRRRRI p0 p1 r1 r6 r11 b16 (1 : Int32)) [(.int c146)]) _
      refine XS.iconst X146.here hx rfl (hb hby at_158) ?_
      show own_S p e below T146 (mkF m 159 (own_AIIRRRRI p0 p1 r1 r6 r11 b16 (1 : Int32)) [(.int (0 : Int32)), (.int c146)]) _
      refine XS.icmpNo X146.here hx rfl (hb hby at_159) rfl (teq (by rw [hc146, if_neg (fun q => hc151 q.symm)] : c146 = (0 : Int32))).2 ?_
      show own_S p e below T146 (mkF m 162 (own_AIIRRRRI p0 p1 r1 r6 r11 b16 (1 : Int32)) []) _
      refine XS.iconst X146.here hx rfl (hb hby at_162) ?_
      show own_S p e below T146 (mkF m 163 (own_AIIRRRRI p0 p1 r1 r6 r11 b16 (1 : Int32)) [(.int (1 : Int32))]) _
      refine XS.goto X146.here hx rfl (pc0 := 163) (pc' := 167) rfl (hb hby at_163) (by decide) (by decide) ?_
      show own_S p e below T146 (mkF m 167 (own_AIIRRRRI p0 p1 r1 r6 r11 b16 (1 : Int32)) [(.int (1 : Int32))]) _
      refine XS.istore X146.here hx rfl (hb hby at_167) rfl (l' := (own_AIIRRRRI p0 p1 r1 r6 r11 b16 (1 : Int32))) rfl ?_
      show own_S p e below T146 (mkF m 169 (own_AIIRRRRI p0 p1 r1 r6 r11 b16 (1 : Int32)) []) _
      refine XS.iload X146.here hx rfl (hb hby at_169) rfl ?_
      show own_S p e below T146 (mkF m 171 (own_AIIRRRRI p0 p1 r1 r6 r11 b16 (1 : Int32)) [(.int (1 : Int32))]) _
      refine XS.ifNo X146.here hx rfl (hb hby at_171) rfl ((if0 _ _).trans (feq (by decide : ¬ ((1 : Int32) = (0 : Int32)))).1) ?_
      show own_S p e below T146 (mkF m 174 (own_AIIRRRRI p0 p1 r1 r6 r11 b16 (1 : Int32)) []) _
      refine XS.aload X146.here hx rfl (hb hby at_174) rfl rfl ?_
      exact k
    refine own_by sg176 ?_
    obtain ⟨_, _, ⟨T176, L176, k176, n176⟩, -, X176, ⟨Lc176, hQ176, l176, y176, z176⟩, st176⟩ := Jvm.LawKit.callS X146 hx (y := (⟨"com/example/catchment/catchment/Position", "places", "(Ljava/util/List;)I"⟩ : MethodName)) hown (mvT hZ (hw _ (List.mem_of_getElem? (i := 115) rfl))) (mvT hZ (hw _ (List.mem_of_getElem? (i := 116) rfl))) (mvT hZ (hw _ (List.mem_of_getElem? (i := 2) rfl))) (mvT hZ (hw _ (List.mem_of_getElem? (i := 117) rfl))) (by decide) (backOf (W := 0) (rm19 l Z a0 hw [] b16 r28 r1 wZ kA28 T28.heap n0 Z28 ((((((O.keep Kq1 all0).keep Kq6 all0).keep Kq11 all0).ext E16).keep Kq20 (allS g_b16 all0)).keep Kq28 (allS g_b16 all0)) E_Z FS_Z Eq28 FM28 FD28 FS28 Aq28 (((((Eq1.keep Kq6).keep Kq11).ext E16).keep Kq20).keep Kq28) fc_15) hZ (hw _ (List.mem_of_getElem? (i := 117) rfl)) (hw _ (List.mem_of_getElem? (i := 2) rfl)) (by decide) (by decide)) (g := (mkF m 176 (own_AIIRRRRI p0 p1 r1 r6 r11 b16 (1 : Int32)) [(.ref b16)])) rfl (by rw [hml]; rfl) (argsL := [(.ref b16)]) (rest := []) (lenOf pd_0_5 rfl) rfl (by show 2 * 0 + _ ≤ _; exact Nat.le_of_eq rfl) (hb hby at_176) (fun _ _ => ⟨rfl, hq146, (by decide : 5 + 1 ≤ _), (by decide : 22 + 4 ≤ _)⟩)
    dsimp only [Pt.U, Pt.locs, Pt.cells, Pt.slots] at X176 l176 y176 z176 st176 hQ176
    subst l176 y176 z176
    obtain ⟨rfl, N176q⟩ := hQ176
    have N176 := Fr.app N146 N176q
    refine own_by st176 ?_
    have sg191 : ∀ t, own_S p e below T176 (mkF m 191 (own_AIIRRRRI p0 p1 r1 r6 r11 b16 (1 : Int32)) [(.int (1 : Int32))]) t → own_S p e below T176 (mkF m 179 (own_AIIRRRRI p0 p1 r1 r6 r11 b16 (1 : Int32)) [(.int (0 : Int32))]) t := by
      intro t k
      show own_S p e below T176 (mkF m 179 (own_AIIRRRRI p0 p1 r1 r6 r11 b16 (1 : Int32)) [(.int (0 : Int32))]) _
      refine XS.ifNo X176.here hx rfl (hb hby at_179) rfl ((if0 _ _).trans (teq (by decide : (0 : Int32) = (0 : Int32))).2) ?_
      show own_S p e below T176 (mkF m 182 (own_AIIRRRRI p0 p1 r1 r6 r11 b16 (1 : Int32)) []) _
      refine XS.iconst X176.here hx rfl (hb hby at_182) ?_
      show own_S p e below T176 (mkF m 183 (own_AIIRRRRI p0 p1 r1 r6 r11 b16 (1 : Int32)) [(.int (1 : Int32))]) _
      refine XS.goto X176.here hx rfl (pc0 := 183) (pc' := 187) rfl (hb hby at_183) (by decide) (by decide) ?_
      show own_S p e below T176 (mkF m 187 (own_AIIRRRRI p0 p1 r1 r6 r11 b16 (1 : Int32)) [(.int (1 : Int32))]) _
      refine XS.istore X176.here hx rfl (hb hby at_187) rfl (l' := (own_AIIRRRRI p0 p1 r1 r6 r11 b16 (1 : Int32))) rfl ?_
      show own_S p e below T176 (mkF m 189 (own_AIIRRRRI p0 p1 r1 r6 r11 b16 (1 : Int32)) []) _
      refine XS.iload X176.here hx rfl (hb hby at_189) rfl ?_
      exact k
    refine own_by sg191 ?_
    obtain ⟨fs, hr, hrun, hended, hW, hsame⟩ := X176.leave (v := some (.int (1 : Int32))) (fun h => by rw [Bd.returns] at h; cases h)
    refine ⟨_, _, ?_, hrun, hended, _, _, rfl, ?_, ⟨_, rfl⟩, hW, hsame.mono (by decide) (by decide)⟩
    · exact retN X176 hx (t := .boolean) Bd.returns (by simp) (hb hby at_191) hr
    · show Q0 Z p0 p1 wZ wD cl h0 n0 _ T176.heap _
      exact ⟨rfl, N176⟩
set_option maxRecDepth 65536 in
set_option maxHeartbeats 40000000 in
theorem comes_1 {Post : Tables → Env → Array Value → State → Outcome → State → Prop} (hpost : ∀ tb e args s v u, (limb_1_1.after args s (.returned v) u = true ∧ limb_1_2.after args s (.returned v) u = true ∧ True) → FrameEnd s (.returned v) u (Jvm.fieldLocs frame_1_writes args s ++ Jvm.arrayLocs frame_1_arrays args s ++ Jvm.staticLocs frame_1_statics s) 24 128 → Post tb e args s (.returned v) u) :
    ArmFor flags0 classFile x code maxLocals ret World_1 tables_1 room_1 Calls_1 rest_1 Pre_1 Post := by
  intro l hfl _ _ p e ha hc hk s m args below hf hA hF happ hP
  obtain ⟨hcalls, hrest, hpre⟩ := hP
  obtain ⟨-, -, -, hnamed, -, -, -, hat⟩ := (Spec.applies_iff hf).mp happ
  obtain ⟨hg, nn⟩ := and_e (Cond.before_iff.mp (show (Jvm.Cond.and given_1 narrow_1).before args s = true from hpre))
  obtain ⟨hh0, hh1⟩ := and_e hg
  obtain ⟨hh2, hh3⟩ := and_e hh1
  obtain ⟨w0, w1, rfl⟩ : ∃ w0 w1 : Value, args = #[w0, w1] := by
    have hs : args.size = 2 := by simpa [Cond.value, given_1] using hh0
    obtain ⟨L⟩ := args
    match L, hs with
    | [w0, w1], _ => exact ⟨w0, w1, rfl⟩
  have hw := fun d (hd : d ∈ tables_1) => atoms_spec (ws := Jvm.Cond.code x code maxLocals ret :: tables_1) hat d (List.mem_cons_of_mem _ hd)
  have hfit : Fit s := fun {y c} hc i hi => by
    obtain ⟨ha, rfl⟩ := Array.getElem?_eq_some_iff.mp hc
    have q := List.all_eq_true.mp ((Array.all_eq_true_iff_forall_mem.mp hF) _ (Array.getElem_mem ha)) i (List.mem_range.mpr hi)
    simpa [Array.getElem?_eq_getElem hi] using q
  obtain ⟨hsets, hown0⟩ := atoms_of _ (rest_1_c_eq ▸ (show rest_1_c.before _ s = true from hrest))
  have hr0 := Cond.before_iff.mp hown0
  obtain ⟨i0, ei0⟩ := is_v hh2
  obtain rfl : w0 = (.int i0) := Option.some.inj ei0
  obtain ⟨i1, ei1⟩ := is_v hh3
  obtain rfl : w1 = (.int i1) := Option.some.inj ei1
  obtain ⟨uZ, evZ⟩ := exa_v (Cond.before_iff.mp (hsets _ (List.mem_of_getElem? (i := 4) rfl)))
  have StZ := Sta.start evZ (Or.inl (hsets _ (List.mem_of_getElem? (i := 1) rfl)))
  have ExZ := Exa.start evZ (Cond.before_iff.mp (hsets _ (List.mem_of_getElem? (i := 4) rfl)))
  have FsZ := own_fld evZ (Cond.before_iff.mp (hsets _ (List.mem_of_getElem? (i := 5) rfl)))
  have FiZ := own_fldj evZ (Cond.before_iff.mp (hsets _ (List.mem_of_getElem? (i := 6) rfl)))
  obtain ⟨uD, evD⟩ := arr_v (Cond.before_iff.mp (hsets _ (List.mem_of_getElem? (i := 19) rfl)))
  obtain ⟨clD, ArD⟩ := Arr.start evD (Cond.before_iff.mp (hsets _ (List.mem_of_getElem? (i := 19) rfl)))
  have StD := Sta.start evD (Or.inr ⟨(hw _ (List.mem_of_getElem? (i := 22) rfl)), (hsets _ (List.mem_of_getElem? (i := 15) rfl))⟩)
  have hszD : clD.slots.size = 0 := own_len evD ArD (by decide) (own_eqi (Cond.before_iff.mp (hsets _ (List.mem_of_getElem? (i := 21) rfl))))
  obtain ⟨n, o, h1, h2, h3, _, L, rfl, ⟨rfl, N⟩, hq⟩ := rm0 l s _ hw tables_1 i0 i1 uZ uD clD s.heap s.heap.size (Nat.le_refl _) (Old.start s) StD ArD hszD StZ ExZ FsZ FiZ p e ha hc hk s m _ below hf ((Spec.applies_iff_loose hf).mp happ).1 ⟨rfl, State.Warmed39.refl s, rfl⟩ trivial
  refine ⟨n, _, h1, h2, h3, hpost _ _ _ _ _ _ ⟨Cond.after_iff.mpr rfl, Cond.after_iff.mpr (eq_i res_at (Term.int_eval (1)) rfl), trivial⟩ ⟨hq.1, hq.2.1, (hq.2.2.sift fun y hy => Or.inr (N y hy)).mono (by decide) (by decide)⟩⟩
theorem main_1_1 : Claimed_1_1 := comes_1 fun _ _ _ _ _ _ h hF => ⟨h.1, hF⟩
theorem main_1_2 : Claimed_1_2 := comes_1 fun _ _ _ _ _ _ h hF => ⟨h.2.1, hF⟩
end Jvm.Pilot.@@N@@
namespace Jvm.Pilot.@@N@@
open Jvm Jvm.ClassFile Sem Op Lib Jvm.Free Jvm.Stand Jvm.Pilot.@@N@@.Jvm.D
/-! MADE BY PROGRAM (witnessworld.py) out of the Statement's table words and the real class files: 28 classes; the members and pool entries that the words name. The judged class is class 1, her method 1. -/
namespace start1
open Jvm.ClassFile
def u (s : String) : CpInfo := .utf8 (stringToUtf16 s)
/-- a pool by its gaps: so many unusable entries, then the entry; so many at the end -/
def gap : Nat → List CpInfo → List CpInfo
  | 0, r => r
  | n + 1, r => .unusable :: gap n r
def poolList (es : List (Nat × CpInfo)) (last : Nat) : List CpInfo := es.foldr (fun e r => gap e.1 (e.2 :: r)) (gap last [])
def pool (es : List (Nat × CpInfo)) (last : Nat) : Array CpInfo := ⟨poolList es last⟩
def fileOf (pool : Array CpInfo) (this : Nat) (attrs : Array Attribute := #[]) (ms : Array MethodInfo := #[]) (fl : Nat := 33) (sup : Nat := 0) (ifs : Array Nat := #[]) (fds : Array FieldInfo := #[]) : ClassFile where
  minorVersion := 0
  majorVersion := 65
  constantPool := pool
  accessFlags := fl
  thisClass := this
  superClass := sup
  interfaces := ifs
  fields := fds
  methods := ms
  attributes := attrs
def plain (name : String) (sup : Option ClassId) : Class where
  name := name
  kind := .ordinary
  loader := none
  accessFlags := 33
  super := sup
  interfaces := #[]
  cf := none
  fields := #[]
  methods := #[]
  instanceTypes := #[]
  staticTypes := #[]
  resolved := #[]
  callSites := []
  init := .initialized
  statics := none
  mirror := none

def pool0 : Array CpInfo := pool [(5, u "<init>"), (0, u "()V"), (1, .class_ 10), (1, u "java/lang/Object")] 113

def k0c0 : Code := { maxStack := 0, maxLocals := 1, code := object_method_1_code, exceptionTable := #[], attributes := #[] }
def k0m0 : Method := { name := "<init>", desc := "()V", sig := { parameters := [], returnType := none }, accessFlags := 1, code := some k0c0 }
/-- java/lang/Object -/
def k0 : Class := { plain "java/lang/Object" none with
  accessFlags := 33
  interfaces := #[]
  cf := some (fileOf pool0 8 #[] #[{ accessFlags := 1, nameIndex := 5, descriptorIndex := 6, attributes := #[] }] 33 0 #[] #[])
  fields := #[]
  methods := #[k0m0]
  instanceTypes := #[]
  staticTypes := #[]
  resolved := Array.replicate 124 none
  statics := none }

def pool1 : Array CpInfo := pool [(2, .class_ 4), (0, .nameAndType 5 6), (0, u "java/lang/Object"), (0, u "<init>"), (0, u "()V"), (0, .methodref 8 9), (0, .class_ 10), (0, .nameAndType 11 12), (0, u "com/example/catchment/catchment/Position"), (0, u "node"), (0, u "(I)Lcom/example/catchment/catchment/Position;"), (0, .class_ 14), (0, u "java/util/ArrayList"), (0, .methodref 13 3), (0, .methodref 13 17), (0, .nameAndType 18 19), (0, u "add"), (0, u "(Ljava/lang/Object;)Z"), (0, .methodref 8 21), (0, .nameAndType 22 23), (0, u "isNode"), (0, u "()Z"), (0, .methodref 8 25), (0, .nameAndType 26 27), (0, u "from"), (0, u "()I"), (0, .methodref 8 29), (0, .nameAndType 30 27), (0, u "to"), (0, .methodref 8 32), (0, .nameAndType 33 19), (0, u "equals"), (0, .methodref 8 35), (0, .nameAndType 36 37), (0, u "places"), (0, u "(Ljava/util/List;)I"), (0, .class_ 39), (0, u "com/example/catchment/catchment/PositionNodePinLaw"), (2, u "law"), (0, u "(II)Z")] 3

def k1m0 : Method := { name := "<init>", desc := "()V", sig := { parameters := [], returnType := none }, accessFlags := 2, code := none }
def k1c1 : Code := { maxStack := 3, maxLocals := 7, code := code, exceptionTable := #[], attributes := #[] }
def k1m1 : Method := { name := "law", desc := "(II)Z", sig := { parameters := [.int, .int], returnType := some .boolean }, accessFlags := 9, code := some k1c1 }
/-- com/example/catchment/catchment/PositionNodePinLaw -/
def k1 : Class := { plain "com/example/catchment/catchment/PositionNodePinLaw" (some 0) with
  accessFlags := 49
  interfaces := #[]
  cf := some (fileOf pool1 38 #[] #[{ accessFlags := 2, nameIndex := 5, descriptorIndex := 6, attributes := #[] }, { accessFlags := 9, nameIndex := 42, descriptorIndex := 43, attributes := #[] }] 49 2 #[] #[])
  fields := #[]
  methods := #[k1m0, k1m1]
  instanceTypes := #[]
  staticTypes := #[]
  resolved := Array.replicate 47 none
  statics := none }

def pool2 : Array CpInfo := pool [(1, .methodref 2 3), (0, .class_ 4), (0, .nameAndType 5 6), (0, u "java/lang/Object"), (0, u "<init>"), (0, u "()V"), (0, .fieldref 8 9), (0, .class_ 10), (0, .nameAndType 11 12), (0, u "com/example/catchment/catchment/Position"), (0, u "from"), (0, u "I"), (0, .fieldref 8 14), (0, .nameAndType 15 12), (0, u "to"), (0, .fieldref 8 17), (0, .nameAndType 18 19), (0, u "distance"), (0, u "Ljava/math/BigDecimal;"), (0, .fieldref 21 22), (0, .class_ 23), (0, .nameAndType 24 19), (0, u "java/math/BigDecimal"), (0, u "ZERO"), (0, .methodref 8 26), (0, .nameAndType 5 27), (0, u "(IILjava/math/BigDecimal;)V"), (19, .methodref 21 48), (0, .nameAndType 49 50), (0, u "signum"), (0, u "()I"), (20, u "(II)I"), (10, u "TWO"), (9, u "isNode"), (0, u "()Z"), (50, .interfaceMethodref 145 146), (0, .class_ 147), (0, .nameAndType 148 149), (0, u "java/util/List"), (0, u "iterator"), (0, u "()Ljava/util/Iterator;"), (0, .interfaceMethodref 151 152), (0, .class_ 153), (0, .nameAndType 154 93), (0, u "java/util/Iterator"), (0, u "hasNext"), (0, .interfaceMethodref 151 156), (0, .nameAndType 157 158), (0, u "next"), (0, u "()Ljava/lang/Object;"), (0, .methodref 21 160), (0, .nameAndType 161 50), (0, u "scale"), (0, .methodref 163 164), (0, .class_ 165), (0, .nameAndType 166 71), (0, u "java/lang/Math"), (0, u "max"), (0, .methodref 21 168), (0, .nameAndType 169 170), (0, u "equals"), (0, u "(Ljava/lang/Object;)Z"), (15, u "node"), (0, u "(I)Lcom/example/catchment/catchment/Position;"), (12, u "places"), (0, u "(Ljava/util/List;)I")] 55

def k2c0 : Code := { maxStack := 2, maxLocals := 4, code := prog_40_method_1_code, exceptionTable := #[], attributes := #[] }
def k2m0 : Method := { name := "<init>", desc := "(IILjava/math/BigDecimal;)V", sig := { parameters := [.int, .int, (.object "java/math/BigDecimal")], returnType := none }, accessFlags := 2, code := some k2c0 }
def k2c1 : Code := { maxStack := 5, maxLocals := 1, code := prog_40_method_2_code, exceptionTable := #[], attributes := #[] }
def k2m1 : Method := { name := "node", desc := "(I)Lcom/example/catchment/catchment/Position;", sig := { parameters := [.int], returnType := some (.object "com/example/catchment/catchment/Position") }, accessFlags := 9, code := some k2c1 }
def k2c2 : Code := { maxStack := 1, maxLocals := 1, code := prog_40_method_5_code, exceptionTable := #[], attributes := #[] }
def k2m2 : Method := { name := "isNode", desc := "()Z", sig := { parameters := [], returnType := some .boolean }, accessFlags := 1, code := some k2c2 }
def k2c3 : Code := { maxStack := 1, maxLocals := 1, code := prog_40_method_6_code, exceptionTable := #[], attributes := #[] }
def k2m3 : Method := { name := "from", desc := "()I", sig := { parameters := [], returnType := some .int }, accessFlags := 1, code := some k2c3 }
def k2c4 : Code := { maxStack := 1, maxLocals := 1, code := prog_40_method_7_code, exceptionTable := #[], attributes := #[] }
def k2m4 : Method := { name := "to", desc := "()I", sig := { parameters := [], returnType := some .int }, accessFlags := 1, code := some k2c4 }
def k2c5 : Code := { maxStack := 2, maxLocals := 4, code := prog_40_method_12_code, exceptionTable := #[], attributes := #[] }
def k2m5 : Method := { name := "places", desc := "(Ljava/util/List;)I", sig := { parameters := [(.object "java/util/List")], returnType := some .int }, accessFlags := 8, code := some k2c5 }
def k2c6 : Code := { maxStack := 2, maxLocals := 3, code := prog_40_method_13_code, exceptionTable := #[], attributes := #[] }
def k2m6 : Method := { name := "equals", desc := "(Ljava/lang/Object;)Z", sig := { parameters := [(.object "java/lang/Object")], returnType := some .boolean }, accessFlags := 1, code := some k2c6 }
/-- com/example/catchment/catchment/Position -/
def k2 : Class := { plain "com/example/catchment/catchment/Position" (some 0) with
  accessFlags := 49
  interfaces := #[]
  cf := some (fileOf pool2 8 #[] #[{ accessFlags := 2, nameIndex := 5, descriptorIndex := 27, attributes := #[] }, { accessFlags := 9, nameIndex := 186, descriptorIndex := 187, attributes := #[] }, { accessFlags := 1, nameIndex := 92, descriptorIndex := 93, attributes := #[] }, { accessFlags := 1, nameIndex := 11, descriptorIndex := 50, attributes := #[] }, { accessFlags := 1, nameIndex := 15, descriptorIndex := 50, attributes := #[] }, { accessFlags := 8, nameIndex := 200, descriptorIndex := 201, attributes := #[] }, { accessFlags := 1, nameIndex := 169, descriptorIndex := 170, attributes := #[] }] 49 2 #[] #[{ accessFlags := 26, nameIndex := 82, descriptorIndex := 19, attributes := #[] }, { accessFlags := 18, nameIndex := 11, descriptorIndex := 12, attributes := #[] }, { accessFlags := 18, nameIndex := 15, descriptorIndex := 12, attributes := #[] }, { accessFlags := 18, nameIndex := 18, descriptorIndex := 19, attributes := #[] }])
  fields := #[{ name := "TWO", type := (.object "java/math/BigDecimal"), accessFlags := 26, slot := 0, constantValue := 0 }, { name := "from", type := .int, accessFlags := 18, slot := 0, constantValue := 0 }, { name := "to", type := .int, accessFlags := 18, slot := 1, constantValue := 0 }, { name := "distance", type := (.object "java/math/BigDecimal"), accessFlags := 18, slot := 2, constantValue := 0 }]
  methods := #[k2m0, k2m1, k2m2, k2m3, k2m4, k2m5, k2m6]
  instanceTypes := #[.int, .int, (.object "java/math/BigDecimal")]
  staticTypes := #[(.object "java/math/BigDecimal")]
  resolved := Array.replicate 257 none
  statics := none }

def pool3 : Array CpInfo := pool [(1, .class_ 2), (0, u "java/io/Serializable"), (0, .class_ 4), (0, u "java/lang/Object")] 2

/-- java/io/Serializable -/
def k3 : Class := { plain "java/io/Serializable" (some 0) with
  accessFlags := 1537
  interfaces := #[]
  cf := some (fileOf pool3 1 #[] #[] 1537 3 #[] #[])
  fields := #[]
  methods := #[]
  instanceTypes := #[]
  staticTypes := #[]
  resolved := Array.replicate 7 none
  statics := none }

def pool4 : Array CpInfo := pool [(2, .class_ 4), (1, u "java/lang/Object"), (0, u "<init>"), (0, u "()V"), (1, .class_ 10), (1, u "java/lang/Number"), (2, .class_ 14), (0, u "java/io/Serializable"), (0, u "serialVersionUID"), (0, u "J")] 20

def k4m0 : Method := { name := "<init>", desc := "()V", sig := { parameters := [], returnType := none }, accessFlags := 1, code := none }
/-- java/lang/Number -/
def k4 : Class := { plain "java/lang/Number" (some 0) with
  accessFlags := 1057
  interfaces := #[3]
  cf := some (fileOf pool4 8 #[] #[{ accessFlags := 1, nameIndex := 5, descriptorIndex := 6, attributes := #[] }] 1057 2 #[13] #[{ accessFlags := 26, nameIndex := 15, descriptorIndex := 16, attributes := #[] }])
  fields := #[{ name := "serialVersionUID", type := .long, accessFlags := 26, slot := 0, constantValue := 0 }]
  methods := #[k4m0]
  instanceTypes := #[]
  staticTypes := #[.long]
  resolved := Array.replicate 37 none
  statics := none }

def pool5 : Array CpInfo := pool [(1, .class_ 2), (0, u "java/lang/Comparable"), (0, .class_ 4), (0, u "java/lang/Object")] 7

/-- java/lang/Comparable -/
def k5 : Class := { plain "java/lang/Comparable" (some 0) with
  accessFlags := 1537
  interfaces := #[]
  cf := some (fileOf pool5 1 #[] #[] 1537 3 #[] #[])
  fields := #[]
  methods := #[]
  instanceTypes := #[]
  staticTypes := #[]
  resolved := Array.replicate 12 none
  statics := none }

def pool6 : Array CpInfo := pool [(3, .class_ 4), (0, u "java/math/BigDecimal"), (2, .class_ 8), (0, u "java/lang/Long"), (3, .class_ 14), (1, u "java/lang/Number"), (2, .fieldref 3 18), (0, .nameAndType 19 20), (0, u "scale"), (0, u "I"), (2, u "precision"), (0, .fieldref 3 25), (0, .nameAndType 26 27), (0, u "intCompact"), (0, u "J"), (2, u "intVal"), (0, u "Ljava/math/BigInteger;"), (65, u "LONG_TEN_POWERS_TABLE"), (0, u "[J"), (16, u "(J)I"), (9, .long 9223372036854775808), (36, u "()I"), (24, u "ZERO"), (2, u "INFLATED_BIGINT"), (15, u "TWO"), (41, u "ZERO_THROUGH_TEN"), (0, u "[Ljava/math/BigDecimal;"), (2, u "ZERO_SCALED_BY"), (19, u "signum"), (40, u "$assertionsDisabled"), (0, u "Z"), (163, u "ONE_TENTH"), (0, u "Ljava/math/BigDecimal;"), (5, u "TEN"), (14, .class_ 502), (1, u "java/math/BigDecimal$1"), (15, u "ONE_HALF"), (16, u "ONE"), (18, u "equals"), (0, u "(Ljava/lang/Object;)Z"), (40, .methodref 7 597), (0, .nameAndType 272 115), (45, u "stringCache"), (0, u "Ljava/lang/String;"), (52, .class_ 699), (1, u "java/math/BigDecimal$LongOverflow"), (8, u "FLOAT_10_POW"), (0, u "[F"), (39, u "DOUBLE_10_POW"), (0, u "[D"), (19, .class_ 772), (1, u "java/math/BigDecimal$StringBuilderHelper"), (35, u "BIG_TEN_POWERS_TABLE_MAX"), (2, u "BIG_TEN_POWERS_TABLE"), (0, u "[Ljava/math/BigInteger;"), (14, u "THRESHOLDS_TABLE"), (23, .class_ 853), (1, u "java/math/BigDecimal$UnsafeHolder"), (214, u "LONGLONG_TEN_POWERS_TABLE"), (0, u "[[J"), (112, u "BIG_TEN_POWERS_TABLE_INITLEN"), (113, .class_ 1297), (0, u "java/lang/Comparable"), (0, u "L"), (0, u "D"), (1, u "P_F"), (1, u "Q_MIN_F"), (1, u "Q_MAX_F"), (1, u "P_D"), (1, u "Q_MIN_D"), (1, u "Q_MAX_D"), (1, u "INFLATED"), (0, u "MAX_COMPACT_DIGITS"), (1, u "serialVersionUID"), (2, u "HALF_LONG_MAX_VALUE"), (0, u "HALF_LONG_MIN_VALUE"), (0, u "ROUND_UP"), (6, u "ROUND_DOWN"), (1, u "ROUND_CEILING"), (1, u "ROUND_FLOOR"), (1, u "ROUND_HALF_UP"), (1, u "ROUND_HALF_DOWN"), (1, u "ROUND_HALF_EVEN"), (1, u "ROUND_UNNECESSARY"), (1, u "DIV_NUM_BASE")] 294

def k6c0 : Code := { maxStack := 4, maxLocals := 1, code := jdk_17_method_58_code, exceptionTable := #[], attributes := #[] }
def k6m0 : Method := { name := "signum", desc := "()I", sig := { parameters := [], returnType := some .int }, accessFlags := 1, code := some k6c0 }
def k6c1 : Code := { maxStack := 1, maxLocals := 1, code := jdk_17_method_59_code, exceptionTable := #[], attributes := #[] }
def k6m1 : Method := { name := "scale", desc := "()I", sig := { parameters := [], returnType := some .int }, accessFlags := 1, code := some k6c1 }
def k6c2 : Code := { maxStack := 4, maxLocals := 7, code := jdk_17_method_72_code, exceptionTable := #[], attributes := #[] }
def k6m2 : Method := { name := "equals", desc := "(Ljava/lang/Object;)Z", sig := { parameters := [(.object "java/lang/Object")], returnType := some .boolean }, accessFlags := 1, code := some k6c2 }
/-- java/math/BigDecimal -/
def k6 : Class := { plain "java/math/BigDecimal" (some 4) with
  accessFlags := 33
  interfaces := #[5]
  cf := some (fileOf pool6 3 #[.nestMembers #[500, 851, 770, 697]] #[{ accessFlags := 1, nameIndex := 272, descriptorIndex := 162, attributes := #[] }, { accessFlags := 1, nameIndex := 19, descriptorIndex := 162, attributes := #[] }, { accessFlags := 1, nameIndex := 554, descriptorIndex := 555, attributes := #[] }] 33 12 #[1296] #[{ accessFlags := 26, nameIndex := 1298, descriptorIndex := 1299, attributes := #[] }, { accessFlags := 26, nameIndex := 1301, descriptorIndex := 20, attributes := #[] }, { accessFlags := 26, nameIndex := 1303, descriptorIndex := 20, attributes := #[] }, { accessFlags := 26, nameIndex := 1305, descriptorIndex := 20, attributes := #[] }, { accessFlags := 26, nameIndex := 1307, descriptorIndex := 20, attributes := #[] }, { accessFlags := 26, nameIndex := 1309, descriptorIndex := 20, attributes := #[] }, { accessFlags := 26, nameIndex := 1311, descriptorIndex := 20, attributes := #[] }, { accessFlags := 18, nameIndex := 30, descriptorIndex := 31, attributes := #[] }, { accessFlags := 18, nameIndex := 19, descriptorIndex := 20, attributes := #[] }, { accessFlags := 130, nameIndex := 23, descriptorIndex := 20, attributes := #[] }, { accessFlags := 130, nameIndex := 643, descriptorIndex := 644, attributes := #[] }, { accessFlags := 24, nameIndex := 1313, descriptorIndex := 27, attributes := #[] }, { accessFlags := 26, nameIndex := 190, descriptorIndex := 31, attributes := #[] }, { accessFlags := 146, nameIndex := 26, descriptorIndex := 27, attributes := #[] }, { accessFlags := 26, nameIndex := 1314, descriptorIndex := 20, attributes := #[] }, { accessFlags := 26, nameIndex := 1316, descriptorIndex := 27, attributes := #[] }, { accessFlags := 26, nameIndex := 248, descriptorIndex := 249, attributes := #[] }, { accessFlags := 26, nameIndex := 252, descriptorIndex := 249, attributes := #[] }, { accessFlags := 26, nameIndex := 1319, descriptorIndex := 27, attributes := #[] }, { accessFlags := 26, nameIndex := 1320, descriptorIndex := 27, attributes := #[] }, { accessFlags := 25, nameIndex := 187, descriptorIndex := 479, attributes := #[] }, { accessFlags := 25, nameIndex := 535, descriptorIndex := 479, attributes := #[] }, { accessFlags := 25, nameIndex := 206, descriptorIndex := 479, attributes := #[] }, { accessFlags := 25, nameIndex := 485, descriptorIndex := 479, attributes := #[] }, { accessFlags := 26, nameIndex := 478, descriptorIndex := 479, attributes := #[] }, { accessFlags := 26, nameIndex := 518, descriptorIndex := 479, attributes := #[] }, { accessFlags := 25, nameIndex := 1321, descriptorIndex := 20, attributes := #[] }, { accessFlags := 25, nameIndex := 1328, descriptorIndex := 20, attributes := #[] }, { accessFlags := 25, nameIndex := 1330, descriptorIndex := 20, attributes := #[] }, { accessFlags := 25, nameIndex := 1332, descriptorIndex := 20, attributes := #[] }, { accessFlags := 25, nameIndex := 1334, descriptorIndex := 20, attributes := #[] }, { accessFlags := 25, nameIndex := 1336, descriptorIndex := 20, attributes := #[] }, { accessFlags := 25, nameIndex := 1338, descriptorIndex := 20, attributes := #[] }, { accessFlags := 25, nameIndex := 1340, descriptorIndex := 20, attributes := #[] }, { accessFlags := 26, nameIndex := 749, descriptorIndex := 750, attributes := #[] }, { accessFlags := 26, nameIndex := 708, descriptorIndex := 709, attributes := #[] }, { accessFlags := 26, nameIndex := 97, descriptorIndex := 98, attributes := #[] }, { accessFlags := 74, nameIndex := 811, descriptorIndex := 812, attributes := #[] }, { accessFlags := 26, nameIndex := 1182, descriptorIndex := 20, attributes := #[] }, { accessFlags := 26, nameIndex := 808, descriptorIndex := 20, attributes := #[] }, { accessFlags := 26, nameIndex := 827, descriptorIndex := 98, attributes := #[] }, { accessFlags := 26, nameIndex := 1342, descriptorIndex := 27, attributes := #[] }, { accessFlags := 26, nameIndex := 1068, descriptorIndex := 1069, attributes := #[] }, { accessFlags := 4120, nameIndex := 313, descriptorIndex := 314, attributes := #[] }])
  fields := #[{ name := "L", type := .double, accessFlags := 26, slot := 0, constantValue := 0 }, { name := "P_F", type := .int, accessFlags := 26, slot := 1, constantValue := 0 }, { name := "Q_MIN_F", type := .int, accessFlags := 26, slot := 2, constantValue := 0 }, { name := "Q_MAX_F", type := .int, accessFlags := 26, slot := 3, constantValue := 0 }, { name := "P_D", type := .int, accessFlags := 26, slot := 4, constantValue := 0 }, { name := "Q_MIN_D", type := .int, accessFlags := 26, slot := 5, constantValue := 0 }, { name := "Q_MAX_D", type := .int, accessFlags := 26, slot := 6, constantValue := 0 }, { name := "intVal", type := (.object "java/math/BigInteger"), accessFlags := 18, slot := 0, constantValue := 0 }, { name := "scale", type := .int, accessFlags := 18, slot := 1, constantValue := 0 }, { name := "precision", type := .int, accessFlags := 130, slot := 2, constantValue := 0 }, { name := "stringCache", type := (.object "java/lang/String"), accessFlags := 130, slot := 3, constantValue := 0 }, { name := "INFLATED", type := .long, accessFlags := 24, slot := 7, constantValue := 0 }, { name := "INFLATED_BIGINT", type := (.object "java/math/BigInteger"), accessFlags := 26, slot := 8, constantValue := 0 }, { name := "intCompact", type := .long, accessFlags := 146, slot := 4, constantValue := 0 }, { name := "MAX_COMPACT_DIGITS", type := .int, accessFlags := 26, slot := 9, constantValue := 0 }, { name := "serialVersionUID", type := .long, accessFlags := 26, slot := 10, constantValue := 0 }, { name := "ZERO_THROUGH_TEN", type := (.array (.object "java/math/BigDecimal")), accessFlags := 26, slot := 11, constantValue := 0 }, { name := "ZERO_SCALED_BY", type := (.array (.object "java/math/BigDecimal")), accessFlags := 26, slot := 12, constantValue := 0 }, { name := "HALF_LONG_MAX_VALUE", type := .long, accessFlags := 26, slot := 13, constantValue := 0 }, { name := "HALF_LONG_MIN_VALUE", type := .long, accessFlags := 26, slot := 14, constantValue := 0 }, { name := "ZERO", type := (.object "java/math/BigDecimal"), accessFlags := 25, slot := 15, constantValue := 0 }, { name := "ONE", type := (.object "java/math/BigDecimal"), accessFlags := 25, slot := 16, constantValue := 0 }, { name := "TWO", type := (.object "java/math/BigDecimal"), accessFlags := 25, slot := 17, constantValue := 0 }, { name := "TEN", type := (.object "java/math/BigDecimal"), accessFlags := 25, slot := 18, constantValue := 0 }, { name := "ONE_TENTH", type := (.object "java/math/BigDecimal"), accessFlags := 26, slot := 19, constantValue := 0 }, { name := "ONE_HALF", type := (.object "java/math/BigDecimal"), accessFlags := 26, slot := 20, constantValue := 0 }, { name := "ROUND_UP", type := .int, accessFlags := 25, slot := 21, constantValue := 0 }, { name := "ROUND_DOWN", type := .int, accessFlags := 25, slot := 22, constantValue := 0 }, { name := "ROUND_CEILING", type := .int, accessFlags := 25, slot := 23, constantValue := 0 }, { name := "ROUND_FLOOR", type := .int, accessFlags := 25, slot := 24, constantValue := 0 }, { name := "ROUND_HALF_UP", type := .int, accessFlags := 25, slot := 25, constantValue := 0 }, { name := "ROUND_HALF_DOWN", type := .int, accessFlags := 25, slot := 26, constantValue := 0 }, { name := "ROUND_HALF_EVEN", type := .int, accessFlags := 25, slot := 27, constantValue := 0 }, { name := "ROUND_UNNECESSARY", type := .int, accessFlags := 25, slot := 28, constantValue := 0 }, { name := "DOUBLE_10_POW", type := (.array .double), accessFlags := 26, slot := 29, constantValue := 0 }, { name := "FLOAT_10_POW", type := (.array .float), accessFlags := 26, slot := 30, constantValue := 0 }, { name := "LONG_TEN_POWERS_TABLE", type := (.array .long), accessFlags := 26, slot := 31, constantValue := 0 }, { name := "BIG_TEN_POWERS_TABLE", type := (.array (.object "java/math/BigInteger")), accessFlags := 74, slot := 32, constantValue := 0 }, { name := "BIG_TEN_POWERS_TABLE_INITLEN", type := .int, accessFlags := 26, slot := 33, constantValue := 0 }, { name := "BIG_TEN_POWERS_TABLE_MAX", type := .int, accessFlags := 26, slot := 34, constantValue := 0 }, { name := "THRESHOLDS_TABLE", type := (.array .long), accessFlags := 26, slot := 35, constantValue := 0 }, { name := "DIV_NUM_BASE", type := .long, accessFlags := 26, slot := 36, constantValue := 0 }, { name := "LONGLONG_TEN_POWERS_TABLE", type := (.array (.array .long)), accessFlags := 26, slot := 37, constantValue := 0 }, { name := "$assertionsDisabled", type := .boolean, accessFlags := 4120, slot := 38, constantValue := 0 }]
  methods := #[k6m0, k6m1, k6m2]
  instanceTypes := #[(.object "java/math/BigInteger"), .int, .int, (.object "java/lang/String"), .long]
  staticTypes := #[.double, .int, .int, .int, .int, .int, .int, .long, (.object "java/math/BigInteger"), .int, .long, (.array (.object "java/math/BigDecimal")), (.array (.object "java/math/BigDecimal")), .long, .long, (.object "java/math/BigDecimal"), (.object "java/math/BigDecimal"), (.object "java/math/BigDecimal"), (.object "java/math/BigDecimal"), (.object "java/math/BigDecimal"), (.object "java/math/BigDecimal"), .int, .int, .int, .int, .int, .int, .int, .int, (.array .double), (.array .float), (.array .long), (.array (.object "java/math/BigInteger")), .int, .int, (.array .long), .long, (.array (.array .long)), .boolean]
  resolved := Array.replicate 1637 none
  statics := some 0 }

def pool7 : Array CpInfo := pool [(8, .class_ 10), (1, u "java/lang/Iterable"), (24, .class_ 36), (0, u "java/lang/Object")] 25

/-- java/lang/Iterable -/
def k7 : Class := { plain "java/lang/Iterable" (some 0) with
  accessFlags := 1537
  interfaces := #[]
  cf := some (fileOf pool7 8 #[] #[] 1537 35 #[] #[])
  fields := #[]
  methods := #[]
  instanceTypes := #[]
  staticTypes := #[]
  resolved := Array.replicate 62 none
  statics := none }

def pool8 : Array CpInfo := pool [(10, .class_ 12), (1, u "java/util/Collection"), (47, .class_ 61), (0, u "java/lang/Object"), (0, .class_ 63), (0, u "java/lang/Iterable")] 51

/-- java/util/Collection -/
def k8 : Class := { plain "java/util/Collection" (some 0) with
  accessFlags := 1537
  interfaces := #[7]
  cf := some (fileOf pool8 10 #[] #[] 1537 60 #[62] #[])
  fields := #[]
  methods := #[]
  instanceTypes := #[]
  staticTypes := #[]
  resolved := Array.replicate 115 none
  statics := none }

def pool9 : Array CpInfo := pool [(1, .methodref 2 3), (0, .class_ 4), (0, .nameAndType 5 6), (0, u "java/lang/Object"), (0, u "<init>"), (0, u "()V"), (1, .class_ 10), (1, u "java/util/AbstractCollection"), (66, .class_ 78), (0, u "java/util/Collection")] 81

def k9c0 : Code := { maxStack := 1, maxLocals := 1, code := jdk_22_method_1_code, exceptionTable := #[], attributes := #[] }
def k9m0 : Method := { name := "<init>", desc := "()V", sig := { parameters := [], returnType := none }, accessFlags := 4, code := some k9c0 }
/-- java/util/AbstractCollection -/
def k9 : Class := { plain "java/util/AbstractCollection" (some 0) with
  accessFlags := 1057
  interfaces := #[8]
  cf := some (fileOf pool9 8 #[] #[{ accessFlags := 4, nameIndex := 5, descriptorIndex := 6, attributes := #[] }] 1057 2 #[77] #[])
  fields := #[]
  methods := #[k9m0]
  instanceTypes := #[]
  staticTypes := #[]
  resolved := Array.replicate 160 none
  statics := none }

def pool10 : Array CpInfo := pool [(8, .class_ 10), (1, u "java/util/SequencedCollection"), (15, .class_ 27), (0, u "java/lang/Object"), (0, .class_ 29), (0, u "java/util/Collection")] 27

/-- java/util/SequencedCollection -/
def k10 : Class := { plain "java/util/SequencedCollection" (some 0) with
  accessFlags := 1537
  interfaces := #[8]
  cf := some (fileOf pool10 8 #[] #[] 1537 26 #[28] #[])
  fields := #[]
  methods := #[]
  instanceTypes := #[]
  staticTypes := #[]
  resolved := Array.replicate 57 none
  statics := none }

def pool11 : Array CpInfo := pool [(8, .class_ 10), (1, u "java/util/List"), (92, .class_ 104), (0, u "java/lang/Object"), (15, .class_ 121), (0, u "java/util/SequencedCollection"), (1, u "iterator"), (0, u "()Ljava/util/Iterator;")] 126

def k11m0 : Method := { name := "iterator", desc := "()Ljava/util/Iterator;", sig := { parameters := [], returnType := some (.object "java/util/Iterator") }, accessFlags := 1025, code := none }
/-- java/util/List -/
def k11 : Class := { plain "java/util/List" (some 0) with
  accessFlags := 1537
  interfaces := #[10]
  cf := some (fileOf pool11 8 #[] #[{ accessFlags := 1025, nameIndex := 123, descriptorIndex := 124, attributes := #[] }] 1537 103 #[120] #[])
  fields := #[]
  methods := #[k11m0]
  instanceTypes := #[]
  staticTypes := #[]
  resolved := Array.replicate 251 none
  statics := none }

def pool12 : Array CpInfo := pool [(1, .methodref 2 3), (0, .class_ 4), (0, .nameAndType 5 6), (0, u "java/util/AbstractCollection"), (0, u "<init>"), (0, u "()V"), (0, .fieldref 8 9), (0, .class_ 10), (0, .nameAndType 11 12), (0, u "java/util/AbstractList"), (0, u "modCount"), (0, u "I"), (64, .class_ 78), (0, u "java/util/AbstractList$Itr"), (3, .class_ 83), (0, u "java/util/AbstractList$ListItr"), (9, .class_ 94), (0, u "java/util/AbstractList$RandomAccessSubList"), (3, .class_ 99), (0, u "java/util/AbstractList$SubList"), (33, .class_ 134), (0, u "java/util/List"), (73, .class_ 209), (0, u "java/util/AbstractList$SubList$1"), (0, .class_ 211), (0, u "java/util/AbstractList$RandomAccessSpliterator")] 6

def k12c0 : Code := { maxStack := 2, maxLocals := 1, code := jdk_39_method_1_code, exceptionTable := #[], attributes := #[] }
def k12m0 : Method := { name := "<init>", desc := "()V", sig := { parameters := [], returnType := none }, accessFlags := 4, code := some k12c0 }
/-- java/util/AbstractList -/
def k12 : Class := { plain "java/util/AbstractList" (some 9) with
  accessFlags := 1057
  interfaces := #[11]
  cf := some (fileOf pool12 8 #[.nestMembers #[93, 98, 208, 210, 82, 77]] #[{ accessFlags := 4, nameIndex := 5, descriptorIndex := 6, attributes := #[] }] 1057 2 #[133] #[{ accessFlags := 132, nameIndex := 11, descriptorIndex := 12, attributes := #[] }])
  fields := #[{ name := "modCount", type := .int, accessFlags := 132, slot := 0, constantValue := 0 }]
  methods := #[k12m0]
  instanceTypes := #[.int]
  staticTypes := #[]
  resolved := Array.replicate 218 none
  statics := none }

def pool13 : Array CpInfo := pool [(1, .class_ 2), (0, u "java/util/RandomAccess"), (0, .class_ 4), (0, u "java/lang/Object")] 2

/-- java/util/RandomAccess -/
def k13 : Class := { plain "java/util/RandomAccess" (some 0) with
  accessFlags := 1537
  interfaces := #[]
  cf := some (fileOf pool13 1 #[] #[] 1537 3 #[] #[])
  fields := #[]
  methods := #[]
  instanceTypes := #[]
  staticTypes := #[]
  resolved := Array.replicate 7 none
  statics := none }

def pool14 : Array CpInfo := pool [(1, .class_ 2), (0, u "java/lang/Cloneable"), (0, .class_ 4), (0, u "java/lang/Object")] 2

/-- java/lang/Cloneable -/
def k14 : Class := { plain "java/lang/Cloneable" (some 0) with
  accessFlags := 1537
  interfaces := #[]
  cf := some (fileOf pool14 1 #[] #[] 1537 3 #[] #[])
  fields := #[]
  methods := #[]
  instanceTypes := #[]
  staticTypes := #[]
  resolved := Array.replicate 7 none
  statics := none }

def pool15 : Array CpInfo := pool [(1, .methodref 2 3), (0, .class_ 4), (0, .nameAndType 5 6), (0, u "java/util/AbstractList"), (0, u "<init>"), (0, u "()V"), (0, .class_ 8), (0, u "java/lang/Object"), (0, .fieldref 10 11), (0, .class_ 12), (0, .nameAndType 13 14), (0, u "java/util/ArrayList"), (0, u "elementData"), (0, u "[Ljava/lang/Object;"), (2, u "EMPTY_ELEMENTDATA"), (21, .fieldref 10 40), (0, .nameAndType 41 14), (0, u "DEFAULTCAPACITY_EMPTY_ELEMENTDATA"), (5, u "()[Ljava/lang/Object;"), (0, .fieldref 10 49), (0, .nameAndType 50 51), (0, u "size"), (0, u "I"), (11, .fieldref 10 64), (0, .nameAndType 65 51), (0, u "modCount"), (3, .methodref 10 70), (0, .nameAndType 71 72), (0, u "grow"), (0, u "(I)[Ljava/lang/Object;"), (6, .methodref 80 81), (0, .class_ 82), (0, .nameAndType 83 84), (0, u "java/lang/Math"), (0, u "max"), (0, u "(II)I"), (11, u "(Ljava/lang/Object;)Z"), (32, .methodref 10 130), (0, .nameAndType 71 47), (0, .methodref 10 132), (0, .nameAndType 133 134), (0, u "add"), (0, u "(Ljava/lang/Object;[Ljava/lang/Object;I)V"), (13, .class_ 149), (0, u "java/util/List"), (16, u "iterator"), (0, u "()Ljava/util/Iterator;"), (94, .class_ 263), (0, u "java/util/ArrayList$ListItr"), (3, .class_ 268), (0, u "java/util/ArrayList$Itr"), (0, .methodref 267 270), (0, .nameAndType 5 271), (0, u "(Ljava/util/ArrayList;)V"), (4, .class_ 277), (0, u "java/util/ArrayList$SubList"), (12, .class_ 291), (0, u "java/util/ArrayList$ArrayListSpliterator"), (37, .class_ 330), (0, u "java/util/RandomAccess"), (0, .class_ 332), (0, u "java/lang/Cloneable"), (0, .class_ 334), (0, u "java/io/Serializable"), (0, u "serialVersionUID"), (0, u "J"), (3, u "DEFAULT_CAPACITY"), (159, .class_ 501), (0, u "java/util/ArrayList$SubList$2"), (0, .class_ 503), (0, u "java/util/ArrayList$SubList$1")] 5

def k15c0 : Code := { maxStack := 2, maxLocals := 1, code := jdk_38_method_2_code, exceptionTable := #[], attributes := #[] }
def k15m0 : Method := { name := "<init>", desc := "()V", sig := { parameters := [], returnType := none }, accessFlags := 1, code := some k15c0 }
def k15c1 : Code := { maxStack := 4, maxLocals := 4, code := jdk_38_method_6_code, exceptionTable := #[], attributes := #[] }
def k15m1 : Method := { name := "grow", desc := "(I)[Ljava/lang/Object;", sig := { parameters := [.int], returnType := some (.array (.object "java/lang/Object")) }, accessFlags := 2, code := some k15c1 }
def k15c2 : Code := { maxStack := 3, maxLocals := 1, code := jdk_38_method_7_code, exceptionTable := #[], attributes := #[] }
def k15m2 : Method := { name := "grow", desc := "()[Ljava/lang/Object;", sig := { parameters := [], returnType := some (.array (.object "java/lang/Object")) }, accessFlags := 2, code := some k15c2 }
def k15c3 : Code := { maxStack := 3, maxLocals := 4, code := jdk_38_method_24_code, exceptionTable := #[], attributes := #[] }
def k15m3 : Method := { name := "add", desc := "(Ljava/lang/Object;[Ljava/lang/Object;I)V", sig := { parameters := [(.object "java/lang/Object"), (.array (.object "java/lang/Object")), .int], returnType := none }, accessFlags := 2, code := some k15c3 }
def k15c4 : Code := { maxStack := 4, maxLocals := 2, code := jdk_38_method_25_code, exceptionTable := #[], attributes := #[] }
def k15m4 : Method := { name := "add", desc := "(Ljava/lang/Object;)Z", sig := { parameters := [(.object "java/lang/Object")], returnType := some .boolean }, accessFlags := 1, code := some k15c4 }
def k15c5 : Code := { maxStack := 3, maxLocals := 1, code := jdk_38_method_55_code, exceptionTable := #[], attributes := #[] }
def k15m5 : Method := { name := "iterator", desc := "()Ljava/util/Iterator;", sig := { parameters := [], returnType := some (.object "java/util/Iterator") }, accessFlags := 1, code := some k15c5 }
/-- java/util/ArrayList -/
def k15 : Class := { plain "java/util/ArrayList" (some 12) with
  accessFlags := 33
  interfaces := #[11, 13, 14, 3]
  cf := some (fileOf pool15 10 #[.nestMembers #[290, 276, 500, 502, 262, 267]] #[{ accessFlags := 1, nameIndex := 5, descriptorIndex := 6, attributes := #[] }, { accessFlags := 2, nameIndex := 71, descriptorIndex := 72, attributes := #[] }, { accessFlags := 2, nameIndex := 71, descriptorIndex := 47, attributes := #[] }, { accessFlags := 2, nameIndex := 133, descriptorIndex := 134, attributes := #[] }, { accessFlags := 1, nameIndex := 133, descriptorIndex := 96, attributes := #[] }, { accessFlags := 1, nameIndex := 166, descriptorIndex := 167, attributes := #[] }] 33 2 #[148, 329, 331, 333] #[{ accessFlags := 26, nameIndex := 335, descriptorIndex := 336, attributes := #[] }, { accessFlags := 26, nameIndex := 340, descriptorIndex := 51, attributes := #[] }, { accessFlags := 26, nameIndex := 17, descriptorIndex := 14, attributes := #[] }, { accessFlags := 26, nameIndex := 41, descriptorIndex := 14, attributes := #[] }, { accessFlags := 128, nameIndex := 13, descriptorIndex := 14, attributes := #[] }, { accessFlags := 2, nameIndex := 50, descriptorIndex := 51, attributes := #[] }])
  fields := #[{ name := "serialVersionUID", type := .long, accessFlags := 26, slot := 0, constantValue := 0 }, { name := "DEFAULT_CAPACITY", type := .int, accessFlags := 26, slot := 1, constantValue := 0 }, { name := "EMPTY_ELEMENTDATA", type := (.array (.object "java/lang/Object")), accessFlags := 26, slot := 2, constantValue := 0 }, { name := "DEFAULTCAPACITY_EMPTY_ELEMENTDATA", type := (.array (.object "java/lang/Object")), accessFlags := 26, slot := 3, constantValue := 0 }, { name := "elementData", type := (.array (.object "java/lang/Object")), accessFlags := 128, slot := 1, constantValue := 0 }, { name := "size", type := .int, accessFlags := 2, slot := 2, constantValue := 0 }]
  methods := #[k15m0, k15m1, k15m2, k15m3, k15m4, k15m5]
  instanceTypes := #[.int, (.array (.object "java/lang/Object")), .int]
  staticTypes := #[.long, .int, (.array (.object "java/lang/Object")), (.array (.object "java/lang/Object"))]
  resolved := Array.replicate 509 none
  statics := some 1 }

def pool16 : Array CpInfo := pool [(1, .class_ 2), (0, u "java/lang/Math"), (1, .class_ 6), (1, u "java/lang/Object"), (0, u "<init>"), (0, u "()V"), (89, .class_ 100), (1, u "java/lang/Math$RandomNumberGeneratorHolder"), (71, u "negativeZeroFloatBits"), (0, u "J"), (2, u "negativeZeroDoubleBits"), (21, u "max"), (46, u "$assertionsDisabled"), (0, u "Z"), (88, u "(II)I"), (2, u "twoToTheDoubleScaleDown"), (0, u "D"), (4, u "twoToTheDoubleScaleUp"), (9, u "E"), (3, u "PI"), (2, u "TAU"), (2, u "DEGREES_TO_RADIANS"), (0, u "RADIANS_TO_DEGREES")] 94

def k16m0 : Method := { name := "<init>", desc := "()V", sig := { parameters := [], returnType := none }, accessFlags := 2, code := none }
def k16c1 : Code := { maxStack := 2, maxLocals := 2, code := jdk_29_method_65_code, exceptionTable := #[], attributes := #[] }
def k16m1 : Method := { name := "max", desc := "(II)I", sig := { parameters := [.int, .int], returnType := some .int }, accessFlags := 9, code := some k16c1 }
/-- java/lang/Math -/
def k16 : Class := { plain "java/lang/Math" (some 0) with
  accessFlags := 49
  interfaces := #[]
  cf := some (fileOf pool16 1 #[.nestMembers #[98]] #[{ accessFlags := 2, nameIndex := 7, descriptorIndex := 8, attributes := #[] }, { accessFlags := 9, nameIndex := 198, descriptorIndex := 335, attributes := #[] }] 49 4 #[] #[{ accessFlags := 25, nameIndex := 354, descriptorIndex := 339, attributes := #[] }, { accessFlags := 25, nameIndex := 358, descriptorIndex := 339, attributes := #[] }, { accessFlags := 25, nameIndex := 361, descriptorIndex := 339, attributes := #[] }, { accessFlags := 26, nameIndex := 364, descriptorIndex := 339, attributes := #[] }, { accessFlags := 26, nameIndex := 365, descriptorIndex := 339, attributes := #[] }, { accessFlags := 26, nameIndex := 172, descriptorIndex := 173, attributes := #[] }, { accessFlags := 26, nameIndex := 176, descriptorIndex := 173, attributes := #[] }, { accessFlags := 8, nameIndex := 344, descriptorIndex := 339, attributes := #[] }, { accessFlags := 8, nameIndex := 338, descriptorIndex := 339, attributes := #[] }, { accessFlags := 4120, nameIndex := 245, descriptorIndex := 246, attributes := #[] }])
  fields := #[{ name := "E", type := .double, accessFlags := 25, slot := 0, constantValue := 0 }, { name := "PI", type := .double, accessFlags := 25, slot := 1, constantValue := 0 }, { name := "TAU", type := .double, accessFlags := 25, slot := 2, constantValue := 0 }, { name := "DEGREES_TO_RADIANS", type := .double, accessFlags := 26, slot := 3, constantValue := 0 }, { name := "RADIANS_TO_DEGREES", type := .double, accessFlags := 26, slot := 4, constantValue := 0 }, { name := "negativeZeroFloatBits", type := .long, accessFlags := 26, slot := 5, constantValue := 0 }, { name := "negativeZeroDoubleBits", type := .long, accessFlags := 26, slot := 6, constantValue := 0 }, { name := "twoToTheDoubleScaleUp", type := .double, accessFlags := 8, slot := 7, constantValue := 0 }, { name := "twoToTheDoubleScaleDown", type := .double, accessFlags := 8, slot := 8, constantValue := 0 }, { name := "$assertionsDisabled", type := .boolean, accessFlags := 4120, slot := 9, constantValue := 0 }]
  methods := #[k16m0, k16m1]
  instanceTypes := #[]
  staticTypes := #[.double, .double, .double, .double, .double, .long, .long, .double, .double, .boolean]
  resolved := Array.replicate 460 none
  statics := none }

def pool17 : Array CpInfo := pool [(1, .class_ 2), (0, u "java/lang/constant/Constable"), (0, .class_ 4), (0, u "java/lang/Object")] 6

/-- java/lang/constant/Constable -/
def k17 : Class := { plain "java/lang/constant/Constable" (some 0) with
  accessFlags := 1537
  interfaces := #[]
  cf := some (fileOf pool17 1 #[] #[] 1537 3 #[] #[])
  fields := #[]
  methods := #[]
  instanceTypes := #[]
  staticTypes := #[]
  resolved := Array.replicate 11 none
  statics := none }

def pool18 : Array CpInfo := pool [(1, .class_ 2), (0, u "java/lang/constant/ConstantDesc"), (0, .class_ 4), (0, u "java/lang/Object")] 32

/-- java/lang/constant/ConstantDesc -/
def k18 : Class := { plain "java/lang/constant/ConstantDesc" (some 0) with
  accessFlags := 1537
  interfaces := #[]
  cf := some (fileOf pool18 1 #[] #[] 1537 3 #[] #[])
  fields := #[]
  methods := #[]
  instanceTypes := #[]
  staticTypes := #[]
  resolved := Array.replicate 37 none
  statics := none }

def pool19 : Array CpInfo := pool [(1, .class_ 2), (0, u "java/lang/Long"), (98, u "(J)I"), (133, .class_ 237), (1, u "java/lang/Long$LongCache"), (33, .class_ 272), (0, u "java/lang/Number"), (2, u "value"), (0, u "J"), (84, u "TYPE"), (0, u "Ljava/lang/Class;"), (0, .class_ 364), (0, u "java/lang/Comparable"), (0, .class_ 366), (0, u "java/lang/constant/Constable"), (0, .class_ 368), (0, u "java/lang/constant/ConstantDesc"), (0, u "MIN_VALUE"), (1, u "MAX_VALUE"), (4, u "SIZE"), (0, u "I"), (1, u "BYTES"), (1, u "serialVersionUID"), (115, u "signum")] 26

def k19c0 : Code := { maxStack := 5, maxLocals := 2, code := jdk_35_method_57_code, exceptionTable := #[], attributes := #[] }
def k19m0 : Method := { name := "signum", desc := "(J)I", sig := { parameters := [.long], returnType := some .int }, accessFlags := 9, code := some k19c0 }
/-- java/lang/Long -/
def k19 : Class := { plain "java/lang/Long" (some 4) with
  accessFlags := 49
  interfaces := #[5, 17, 18]
  cf := some (fileOf pool19 1 #[.nestMembers #[235]] #[{ accessFlags := 9, nameIndex := 497, descriptorIndex := 101, attributes := #[] }] 49 271 #[363, 365, 367] #[{ accessFlags := 25, nameIndex := 369, descriptorIndex := 276, attributes := #[] }, { accessFlags := 25, nameIndex := 371, descriptorIndex := 276, attributes := #[] }, { accessFlags := 25, nameIndex := 361, descriptorIndex := 362, attributes := #[] }, { accessFlags := 18, nameIndex := 275, descriptorIndex := 276, attributes := #[] }, { accessFlags := 25, nameIndex := 376, descriptorIndex := 377, attributes := #[] }, { accessFlags := 25, nameIndex := 379, descriptorIndex := 377, attributes := #[] }, { accessFlags := 26, nameIndex := 381, descriptorIndex := 276, attributes := #[] }])
  fields := #[{ name := "MIN_VALUE", type := .long, accessFlags := 25, slot := 0, constantValue := 0 }, { name := "MAX_VALUE", type := .long, accessFlags := 25, slot := 1, constantValue := 0 }, { name := "TYPE", type := (.object "java/lang/Class"), accessFlags := 25, slot := 2, constantValue := 0 }, { name := "value", type := .long, accessFlags := 18, slot := 0, constantValue := 0 }, { name := "SIZE", type := .int, accessFlags := 25, slot := 3, constantValue := 0 }, { name := "BYTES", type := .int, accessFlags := 25, slot := 4, constantValue := 0 }, { name := "serialVersionUID", type := .long, accessFlags := 26, slot := 5, constantValue := 0 }]
  methods := #[k19m0]
  instanceTypes := #[.long]
  staticTypes := #[.long, .long, (.object "java/lang/Class"), .int, .int, .long]
  resolved := Array.replicate 524 none
  statics := none }

def pool20 : Array CpInfo := pool [(16, .class_ 18), (1, u "java/util/Iterator"), (0, u "hasNext"), (0, u "()Z"), (2, u "next"), (0, u "()Ljava/lang/Object;"), (6, .class_ 32), (0, u "java/lang/Object")] 20

def k20m0 : Method := { name := "hasNext", desc := "()Z", sig := { parameters := [], returnType := some .boolean }, accessFlags := 1025, code := none }
def k20m1 : Method := { name := "next", desc := "()Ljava/lang/Object;", sig := { parameters := [], returnType := some (.object "java/lang/Object") }, accessFlags := 1025, code := none }
/-- java/util/Iterator -/
def k20 : Class := { plain "java/util/Iterator" (some 0) with
  accessFlags := 1537
  interfaces := #[]
  cf := some (fileOf pool20 16 #[] #[{ accessFlags := 1025, nameIndex := 19, descriptorIndex := 20, attributes := #[] }, { accessFlags := 1025, nameIndex := 23, descriptorIndex := 24, attributes := #[] }] 1537 31 #[] #[])
  fields := #[]
  methods := #[k20m0, k20m1]
  instanceTypes := #[]
  staticTypes := #[]
  resolved := Array.replicate 53 none
  statics := none }

def pool21 : Array CpInfo := pool [(1, .fieldref 2 3), (0, .class_ 4), (0, .nameAndType 5 6), (0, u "java/util/ArrayList$Itr"), (0, u "this$0"), (0, u "Ljava/util/ArrayList;"), (0, .methodref 8 9), (0, .class_ 10), (0, .nameAndType 11 12), (0, u "java/lang/Object"), (0, u "<init>"), (0, u "()V"), (0, .fieldref 2 14), (0, .nameAndType 15 16), (0, u "lastRet"), (0, u "I"), (0, .fieldref 18 19), (0, .class_ 20), (0, .nameAndType 21 16), (0, u "java/util/ArrayList"), (0, u "modCount"), (0, .fieldref 2 23), (0, .nameAndType 24 16), (0, u "expectedModCount"), (0, .fieldref 2 26), (0, .nameAndType 27 16), (0, u "cursor"), (0, .fieldref 18 29), (0, .nameAndType 30 16), (0, u "size"), (0, .methodref 2 32), (0, .nameAndType 33 12), (0, u "checkForComodification"), (3, .fieldref 18 38), (0, .nameAndType 39 40), (0, u "elementData"), (0, u "[Ljava/lang/Object;"), (28, .class_ 70), (0, u "java/util/Iterator"), (0, u "(Ljava/util/ArrayList;)V"), (8, u "hasNext"), (0, u "()Z"), (1, u "next"), (0, u "()Ljava/lang/Object;")] 19

def k21c0 : Code := { maxStack := 2, maxLocals := 2, code := jdk_49_method_1_code, exceptionTable := #[], attributes := #[] }
def k21m0 : Method := { name := "<init>", desc := "(Ljava/util/ArrayList;)V", sig := { parameters := [(.object "java/util/ArrayList")], returnType := none }, accessFlags := 0, code := some k21c0 }
def k21c1 : Code := { maxStack := 2, maxLocals := 1, code := jdk_49_method_2_code, exceptionTable := #[], attributes := #[] }
def k21m1 : Method := { name := "hasNext", desc := "()Z", sig := { parameters := [], returnType := some .boolean }, accessFlags := 1, code := some k21c1 }
def k21c2 : Code := { maxStack := 4, maxLocals := 3, code := jdk_49_method_3_code, exceptionTable := #[], attributes := #[] }
def k21m2 : Method := { name := "next", desc := "()Ljava/lang/Object;", sig := { parameters := [], returnType := some (.object "java/lang/Object") }, accessFlags := 1, code := some k21c2 }
def k21c3 : Code := { maxStack := 2, maxLocals := 1, code := jdk_49_method_6_code, exceptionTable := #[], attributes := #[] }
def k21m3 : Method := { name := "checkForComodification", desc := "()V", sig := { parameters := [], returnType := none }, accessFlags := 16, code := some k21c3 }
/-- java/util/ArrayList$Itr -/
def k21 : Class := { plain "java/util/ArrayList$Itr" (some 0) with
  accessFlags := 32
  interfaces := #[20]
  cf := some (fileOf pool21 2 #[.nestHost 18] #[{ accessFlags := 0, nameIndex := 11, descriptorIndex := 71, attributes := #[] }, { accessFlags := 1, nameIndex := 80, descriptorIndex := 81, attributes := #[] }, { accessFlags := 1, nameIndex := 83, descriptorIndex := 84, attributes := #[] }, { accessFlags := 16, nameIndex := 33, descriptorIndex := 12, attributes := #[] }] 32 8 #[69] #[{ accessFlags := 0, nameIndex := 27, descriptorIndex := 16, attributes := #[] }, { accessFlags := 0, nameIndex := 15, descriptorIndex := 16, attributes := #[] }, { accessFlags := 0, nameIndex := 24, descriptorIndex := 16, attributes := #[] }, { accessFlags := 4112, nameIndex := 5, descriptorIndex := 6, attributes := #[] }])
  fields := #[{ name := "cursor", type := .int, accessFlags := 0, slot := 0, constantValue := 0 }, { name := "lastRet", type := .int, accessFlags := 0, slot := 1, constantValue := 0 }, { name := "expectedModCount", type := .int, accessFlags := 0, slot := 2, constantValue := 0 }, { name := "this$0", type := (.object "java/util/ArrayList"), accessFlags := 4112, slot := 3, constantValue := 0 }]
  methods := #[k21m0, k21m1, k21m2, k21m3]
  instanceTypes := #[.int, .int, .int, (.object "java/util/ArrayList")]
  staticTypes := #[]
  resolved := Array.replicate 104 none
  statics := none }

def pool22 : Array CpInfo := pool [(4, .class_ 6), (1, u "java/lang/Number"), (16, .class_ 25), (1, u "java/math/BigInteger"), (0, u "ZERO"), (0, u "Ljava/math/BigInteger;"), (2, u "mag"), (0, u "[I"), (2, u "signum"), (0, u "I"), (59, u "bitsPerDigit"), (0, u "[J"), (9, u "digitsPerInt"), (12, u "intRadix"), (60, u "SMALL_PRIME_PRODUCT"), (79, u "ONE"), (6, u "TWO"), (43, u "$assertionsDisabled"), (0, u "Z"), (36, u "posConst"), (0, u "[Ljava/math/BigInteger;"), (4, u "negConst"), (116, .class_ 474), (1, u "java/math/BigInteger$RecursiveOp"), (106, u "NEGATIVE_ONE"), (91, u "bnExpModThreshTable"), (72, u "lowestSetBitPlusTwo"), (2, u "bitLengthPlusOne"), (2, u "bitCountPlusOne"), (6, u "LOG_TWO"), (0, u "D"), (2, u "logCache"), (0, u "[D"), (13, u "NUM_ZEROS"), (2, u "ZEROS"), (0, u "Ljava/lang/String;"), (9, u "longRadix"), (5, u "digitsPerLong"), (22, u "powerCache"), (0, u "[[Ljava/math/BigInteger;"), (45, u "firstNonzeroIntNumPlusTwo"), (38, .class_ 909), (1, u "java/math/BigInteger$UnsafeHolder"), (141, u "TEN"), (106, u "serialPersistentFields"), (0, u "[Ljava/io/ObjectStreamField;"), (0, .class_ 1161), (0, u "java/lang/Comparable"), (0, u "LONG_MASK"), (0, u "J"), (1, u "MAX_MAG_LENGTH"), (0, u "PRIME_SEARCH_BIT_LENGTH_LIMIT"), (1, u "KARATSUBA_THRESHOLD"), (1, u "TOOM_COOK_THRESHOLD"), (1, u "KARATSUBA_SQUARE_THRESHOLD"), (1, u "TOOM_COOK_SQUARE_THRESHOLD"), (1, u "BURNIKEL_ZIEGLER_THRESHOLD"), (0, u "BURNIKEL_ZIEGLER_OFFSET"), (1, u "SCHOENHAGE_BASE_CONVERSION_THRESHOLD"), (1, u "MULTIPLY_SQUARE_THRESHOLD"), (0, u "MONTGOMERY_INTRINSIC_THRESHOLD"), (1, u "SMALL_PRIME_THRESHOLD"), (1, u "DEFAULT_PRIME_CERTAINTY"), (1, u "MAX_CONSTANT"), (3, u "serialVersionUID"), (338, .class_ 1532), (0, u "java/math/BigInteger$RecursiveOp$RecursiveSquare"), (0, .class_ 1534), (0, u "java/math/BigInteger$RecursiveOp$RecursiveMultiply")] 7

/-- java/math/BigInteger -/
def k22 : Class := { plain "java/math/BigInteger" (some 4) with
  accessFlags := 33
  interfaces := #[5]
  cf := some (fileOf pool22 23 #[.nestMembers #[907, 472, 1531, 1533]] #[] 33 4 #[1160] #[{ accessFlags := 16, nameIndex := 34, descriptorIndex := 35, attributes := #[] }, { accessFlags := 16, nameIndex := 30, descriptorIndex := 31, attributes := #[] }, { accessFlags := 2, nameIndex := 752, descriptorIndex := 35, attributes := #[] }, { accessFlags := 2, nameIndex := 749, descriptorIndex := 35, attributes := #[] }, { accessFlags := 2, nameIndex := 746, descriptorIndex := 35, attributes := #[] }, { accessFlags := 2, nameIndex := 868, descriptorIndex := 35, attributes := #[] }, { accessFlags := 24, nameIndex := 1162, descriptorIndex := 1163, attributes := #[] }, { accessFlags := 26, nameIndex := 1165, descriptorIndex := 35, attributes := #[] }, { accessFlags := 26, nameIndex := 1166, descriptorIndex := 35, attributes := #[] }, { accessFlags := 26, nameIndex := 1168, descriptorIndex := 35, attributes := #[] }, { accessFlags := 26, nameIndex := 1170, descriptorIndex := 35, attributes := #[] }, { accessFlags := 26, nameIndex := 1172, descriptorIndex := 35, attributes := #[] }, { accessFlags := 26, nameIndex := 1174, descriptorIndex := 35, attributes := #[] }, { accessFlags := 24, nameIndex := 1176, descriptorIndex := 35, attributes := #[] }, { accessFlags := 24, nameIndex := 1177, descriptorIndex := 35, attributes := #[] }, { accessFlags := 26, nameIndex := 1179, descriptorIndex := 35, attributes := #[] }, { accessFlags := 26, nameIndex := 1181, descriptorIndex := 35, attributes := #[] }, { accessFlags := 26, nameIndex := 1182, descriptorIndex := 35, attributes := #[] }, { accessFlags := 10, nameIndex := 95, descriptorIndex := 96, attributes := #[] }, { accessFlags := 26, nameIndex := 1184, descriptorIndex := 35, attributes := #[] }, { accessFlags := 26, nameIndex := 1186, descriptorIndex := 35, attributes := #[] }, { accessFlags := 26, nameIndex := 180, descriptorIndex := 27, attributes := #[] }, { accessFlags := 26, nameIndex := 1188, descriptorIndex := 35, attributes := #[] }, { accessFlags := 26, nameIndex := 349, descriptorIndex := 350, attributes := #[] }, { accessFlags := 26, nameIndex := 355, descriptorIndex := 350, attributes := #[] }, { accessFlags := 74, nameIndex := 821, descriptorIndex := 822, attributes := #[] }, { accessFlags := 26, nameIndex := 763, descriptorIndex := 764, attributes := #[] }, { accessFlags := 26, nameIndex := 759, descriptorIndex := 760, attributes := #[] }, { accessFlags := 25, nameIndex := 26, descriptorIndex := 27, attributes := #[] }, { accessFlags := 25, nameIndex := 260, descriptorIndex := 27, attributes := #[] }, { accessFlags := 25, nameIndex := 267, descriptorIndex := 27, attributes := #[] }, { accessFlags := 26, nameIndex := 581, descriptorIndex := 27, attributes := #[] }, { accessFlags := 25, nameIndex := 1051, descriptorIndex := 27, attributes := #[] }, { accessFlags := 8, nameIndex := 673, descriptorIndex := 31, attributes := #[] }, { accessFlags := 10, nameIndex := 778, descriptorIndex := 35, attributes := #[] }, { accessFlags := 26, nameIndex := 781, descriptorIndex := 782, attributes := #[] }, { accessFlags := 10, nameIndex := 798, descriptorIndex := 31, attributes := #[] }, { accessFlags := 10, nameIndex := 792, descriptorIndex := 350, attributes := #[] }, { accessFlags := 10, nameIndex := 106, descriptorIndex := 31, attributes := #[] }, { accessFlags := 10, nameIndex := 119, descriptorIndex := 31, attributes := #[] }, { accessFlags := 26, nameIndex := 1192, descriptorIndex := 1163, attributes := #[] }, { accessFlags := 26, nameIndex := 1158, descriptorIndex := 1159, attributes := #[] }, { accessFlags := 4120, nameIndex := 311, descriptorIndex := 312, attributes := #[] }])
  fields := #[{ name := "signum", type := .int, accessFlags := 16, slot := 0, constantValue := 0 }, { name := "mag", type := (.array .int), accessFlags := 16, slot := 1, constantValue := 0 }, { name := "bitCountPlusOne", type := .int, accessFlags := 2, slot := 2, constantValue := 0 }, { name := "bitLengthPlusOne", type := .int, accessFlags := 2, slot := 3, constantValue := 0 }, { name := "lowestSetBitPlusTwo", type := .int, accessFlags := 2, slot := 4, constantValue := 0 }, { name := "firstNonzeroIntNumPlusTwo", type := .int, accessFlags := 2, slot := 5, constantValue := 0 }, { name := "LONG_MASK", type := .long, accessFlags := 24, slot := 0, constantValue := 0 }, { name := "MAX_MAG_LENGTH", type := .int, accessFlags := 26, slot := 1, constantValue := 0 }, { name := "PRIME_SEARCH_BIT_LENGTH_LIMIT", type := .int, accessFlags := 26, slot := 2, constantValue := 0 }, { name := "KARATSUBA_THRESHOLD", type := .int, accessFlags := 26, slot := 3, constantValue := 0 }, { name := "TOOM_COOK_THRESHOLD", type := .int, accessFlags := 26, slot := 4, constantValue := 0 }, { name := "KARATSUBA_SQUARE_THRESHOLD", type := .int, accessFlags := 26, slot := 5, constantValue := 0 }, { name := "TOOM_COOK_SQUARE_THRESHOLD", type := .int, accessFlags := 26, slot := 6, constantValue := 0 }, { name := "BURNIKEL_ZIEGLER_THRESHOLD", type := .int, accessFlags := 24, slot := 7, constantValue := 0 }, { name := "BURNIKEL_ZIEGLER_OFFSET", type := .int, accessFlags := 24, slot := 8, constantValue := 0 }, { name := "SCHOENHAGE_BASE_CONVERSION_THRESHOLD", type := .int, accessFlags := 26, slot := 9, constantValue := 0 }, { name := "MULTIPLY_SQUARE_THRESHOLD", type := .int, accessFlags := 26, slot := 10, constantValue := 0 }, { name := "MONTGOMERY_INTRINSIC_THRESHOLD", type := .int, accessFlags := 26, slot := 11, constantValue := 0 }, { name := "bitsPerDigit", type := (.array .long), accessFlags := 10, slot := 12, constantValue := 0 }, { name := "SMALL_PRIME_THRESHOLD", type := .int, accessFlags := 26, slot := 13, constantValue := 0 }, { name := "DEFAULT_PRIME_CERTAINTY", type := .int, accessFlags := 26, slot := 14, constantValue := 0 }, { name := "SMALL_PRIME_PRODUCT", type := (.object "java/math/BigInteger"), accessFlags := 26, slot := 15, constantValue := 0 }, { name := "MAX_CONSTANT", type := .int, accessFlags := 26, slot := 16, constantValue := 0 }, { name := "posConst", type := (.array (.object "java/math/BigInteger")), accessFlags := 26, slot := 17, constantValue := 0 }, { name := "negConst", type := (.array (.object "java/math/BigInteger")), accessFlags := 26, slot := 18, constantValue := 0 }, { name := "powerCache", type := (.array (.array (.object "java/math/BigInteger"))), accessFlags := 74, slot := 19, constantValue := 0 }, { name := "logCache", type := (.array .double), accessFlags := 26, slot := 20, constantValue := 0 }, { name := "LOG_TWO", type := .double, accessFlags := 26, slot := 21, constantValue := 0 }, { name := "ZERO", type := (.object "java/math/BigInteger"), accessFlags := 25, slot := 22, constantValue := 0 }, { name := "ONE", type := (.object "java/math/BigInteger"), accessFlags := 25, slot := 23, constantValue := 0 }, { name := "TWO", type := (.object "java/math/BigInteger"), accessFlags := 25, slot := 24, constantValue := 0 }, { name := "NEGATIVE_ONE", type := (.object "java/math/BigInteger"), accessFlags := 26, slot := 25, constantValue := 0 }, { name := "TEN", type := (.object "java/math/BigInteger"), accessFlags := 25, slot := 26, constantValue := 0 }, { name := "bnExpModThreshTable", type := (.array .int), accessFlags := 8, slot := 27, constantValue := 0 }, { name := "NUM_ZEROS", type := .int, accessFlags := 10, slot := 28, constantValue := 0 }, { name := "ZEROS", type := (.object "java/lang/String"), accessFlags := 26, slot := 29, constantValue := 0 }, { name := "digitsPerLong", type := (.array .int), accessFlags := 10, slot := 30, constantValue := 0 }, { name := "longRadix", type := (.array (.object "java/math/BigInteger")), accessFlags := 10, slot := 31, constantValue := 0 }, { name := "digitsPerInt", type := (.array .int), accessFlags := 10, slot := 32, constantValue := 0 }, { name := "intRadix", type := (.array .int), accessFlags := 10, slot := 33, constantValue := 0 }, { name := "serialVersionUID", type := .long, accessFlags := 26, slot := 34, constantValue := 0 }, { name := "serialPersistentFields", type := (.array (.object "java/io/ObjectStreamField")), accessFlags := 26, slot := 35, constantValue := 0 }, { name := "$assertionsDisabled", type := .boolean, accessFlags := 4120, slot := 36, constantValue := 0 }]
  methods := #[]
  instanceTypes := #[.int, (.array .int), .int, .int, .int, .int]
  staticTypes := #[.long, .int, .int, .int, .int, .int, .int, .int, .int, .int, .int, .int, (.array .long), .int, .int, (.object "java/math/BigInteger"), .int, (.array (.object "java/math/BigInteger")), (.array (.object "java/math/BigInteger")), (.array (.array (.object "java/math/BigInteger"))), (.array .double), .double, (.object "java/math/BigInteger"), (.object "java/math/BigInteger"), (.object "java/math/BigInteger"), (.object "java/math/BigInteger"), (.object "java/math/BigInteger"), (.array .int), .int, (.object "java/lang/String"), (.array .int), (.array (.object "java/math/BigInteger")), (.array .int), (.array .int), .long, (.array (.object "java/io/ObjectStreamField")), .boolean]
  resolved := Array.replicate 1542 none
  statics := some 2 }

/-- the primitive byte -/
def k23 : Class := { plain "byte" none with kind := .primitive 'B', accessFlags := 0x411 }
/-- [B -/
def k24 : Class := { plain "[B" (some 0) with kind := .array 23 .byte, interfaces := #[14, 3], accessFlags := 1041 }

/-- the primitive int -/
def k25 : Class := { plain "int" none with kind := .primitive 'I', accessFlags := 0x411 }
/-- [I -/
def k26 : Class := { plain "[I" (some 0) with kind := .array 25 .int, interfaces := #[14, 3], accessFlags := 1041 }

/-- [Ljava/lang/Object; -/
def k27 : Class := { plain "[Ljava/lang/Object;" (some 0) with kind := .array 0 (.object "java/lang/Object"), interfaces := #[14, 3], accessFlags := 1041 }

def heap : Heap := #[{ cls := 6, slots := #[.double 0, .int 0, .int 0, .int 0, .int 0, .int 0, .int 0, .long 0, .null, .int 0, .long 0, .null, .null, .long 0, .long 0, .ref 3, .null, .null, .null, .null, .null, .int 0, .int 0, .int 0, .int 0, .int 0, .int 0, .int 0, .int 0, .null, .null, .null, .null, .int 0, .int 0, .null, .long 0, .null, .int 0], vm := .statics 6 },
  { cls := 15, slots := #[.long 0, .int 0, .ref 6, .ref 7], vm := .statics 15 },
  { cls := 22, slots := #[.long 0, .int 0, .int 0, .int 0, .int 0, .int 0, .int 0, .int 0, .int 0, .int 0, .int 0, .int 0, .null, .int 0, .int 0, .null, .int 0, .null, .null, .null, .null, .double 0, .ref 4, .null, .null, .null, .null, .null, .int 0, .null, .null, .null, .null, .null, .long 0, .null, .int 0], vm := .statics 22 },
  { cls := 6, slots := #[.ref 4, .int 0, .int 1, .null, .long 0], vm := .none },
  { cls := 22, slots := #[.int 0, .ref 5, .int 0, .int 0, .int 0, .int 0], vm := .none },
  { cls := 26, slots := #[], vm := .none },
  { cls := 27, slots := #[], vm := .none },
  { cls := 27, slots := #[], vm := .none }]
def classes : Array Class := #[k0, k1, k2, k3, k4, k5, k6, k7, k8, k9, k10, k11, k12, k13, k14, k15, k16, k17, k18, k19, k20, k21, k22, k23, k24, k25, k26, k27]
def interned : List (Array UInt16 × Addr) := []
def slotsUsed : Nat := 91
def theMethod : MethodId := ⟨1, 1⟩
def args0 : Array Value := #[.int 5, .int 6]
def aboutOver (below : List Frame) : State where
  vm := { classes := classes, interned := interned.toArray }
  heap := heap
  slotsUsed := slotsUsed
  threads := #[{ frames := .invoking theMethod args0 :: below }]
def below0 : List Frame := [.native { method := ⟨0, 0⟩, args := #[] }]
def about1 : State := aboutOver below0
def p0 : Program := .bare "" "" ""
def e0 : Env := launch0.env 0 0 0
theorem w_frames : about1.frames = Frame.invoking theMethod args0 :: below0 := rfl
set_option maxRecDepth 65536 in
theorem w_args : argsFit about1.vm theMethod args0 = true := by decide +kernel
set_option maxRecDepth 65536 in
theorem w_heap : heapFits about1 = true := by decide +kernel
set_option maxRecDepth 65536 in
theorem w_runnable : about1.curStatus? = some .runnable := by decide +kernel
set_option maxRecDepth 65536 in
theorem w_alone : about1.alone = true := by decide +kernel
set_option maxRecDepth 65536 in
theorem w_named : about1.methodNamed? x = some theMethod := by decide +kernel
set_option maxRecDepth 65536 in
theorem w_hears : about1.hears theMethod below0 = true := by decide +kernel
set_option maxRecDepth 65536 in
theorem w_ripe : about1.ripe theMethod args0 below0 = true := by decide +kernel
theorem w_running : about1.status = .running := rfl
set_option maxRecDepth 65536 in
theorem w_room : about1.hasRoom e0.platform room_1 = true :=
  launch0.hasRoom_least _ room_1 (by decide +kernel) (by decide +kernel) (by decide +kernel) (by decide +kernel) (by decide +kernel) (by decide +kernel)
theorem allAtoms_all (ts : List Jvm.Cond) (a : Array Jvm.Value) (st : Jvm.State) : (allAtoms ts).before a st = ts.all (fun c => c.before a st) := by
  induction ts with
  | nil => rfl
  | cons c t ih =>
    show (Jvm.Cond.and c (allAtoms t)).before a st = _
    rw [Jvm.Cond.before_and, ih, List.all_cons]
def words1 : List Jvm.Cond := Jvm.Cond.code x code maxLocals ret :: tables_1
/-- a 'code' word, met by the world's own term for the bytes: nothing is compared byte by byte -/
theorem code_word {y : MethodName} {bytes : ByteArray} {mx : Nat} {rt : Option FieldType} {a : Array Value} {s : State} {m : MethodId} {meth : Method} {c : Code} (h1 : s.methodNamed? y = some m) (h2 : s.vm.method? m = some meth) (h3 : meth.code = some c) (h4 : c.code = bytes)
    (h5 : (c.maxLocals == mx && c.exceptionTable.isEmpty && decide (c.maxStack ≤ mostOperands) && decide (meth.sig.returnType = rt) && !meth.locks && decide (parseMethodDescriptor y.desc = some meth.sig)) = true) : (Jvm.Cond.code y bytes mx rt).before a s = true := by
  simp only [Bool.and_eq_true, beq_iff_eq, Bool.not_eq_true', decide_eq_true_eq] at h5
  obtain ⟨⟨⟨⟨⟨g1, g2⟩, g3⟩, g4⟩, g5⟩, g6⟩ := h5
  simp [Cond.before, Cond.holds, Cond.value, h1, h2, h3, h4, g1, g2, g3, g4, g5, g6]
def isCode : Jvm.Cond → Bool
  | .code _ _ _ _ => true
  | _ => false
theorem all_split {L : List Jvm.Cond} {P : Jvm.Cond → Bool} (h1 : L.all (fun c => isCode c || P c) = true) (h2 : ∀ c ∈ L.filter isCode, P c = true) : L.all P = true := by
  refine List.all_eq_true.mpr fun c hc => ?_
  have h := List.all_eq_true.mp h1 c hc
  rcases Bool.eq_false_or_eq_true (isCode c) with hi | hi
  · exact h2 c (List.mem_filter.mpr ⟨hc, hi⟩)
  · simpa [hi] using h
set_option maxRecDepth 65536 in
theorem w_c0 : (Jvm.Cond.code x code maxLocals ret).before args0 about1 = true := code_word (m := ⟨1, 1⟩) (meth := k1m1) (c := k1c1) (by decide +kernel) rfl rfl rfl (by decide +kernel)
set_option maxRecDepth 65536 in
theorem w_c1 : (Jvm.Cond.code ({ cls := "com/example/catchment/catchment/Position", name := "node", desc := "(I)Lcom/example/catchment/catchment/Position;" } : Jvm.MethodName) prog_40_method_2_code (1 : Nat) (Option.some (Jvm.ClassFile.FieldType.object "com/example/catchment/catchment/Position"))).before args0 about1 = true := code_word (m := ⟨2, 1⟩) (meth := k2m1) (c := k2c1) (by decide +kernel) rfl rfl rfl (by decide +kernel)
set_option maxRecDepth 65536 in
theorem w_c2 : (Jvm.Cond.code ({ cls := "com/example/catchment/catchment/Position", name := "<init>", desc := "(IILjava/math/BigDecimal;)V" } : Jvm.MethodName) prog_40_method_1_code (4 : Nat) (Option.none : Option Jvm.ClassFile.FieldType)).before args0 about1 = true := code_word (m := ⟨2, 0⟩) (meth := k2m0) (c := k2c0) (by decide +kernel) rfl rfl rfl (by decide +kernel)
set_option maxRecDepth 65536 in
theorem w_c3 : (Jvm.Cond.code ({ cls := "java/lang/Object", name := "<init>", desc := "()V" } : Jvm.MethodName) object_method_1_code (1 : Nat) (Option.none : Option Jvm.ClassFile.FieldType)).before args0 about1 = true := code_word (m := ⟨0, 0⟩) (meth := k0m0) (c := k0c0) (by decide +kernel) rfl rfl rfl (by decide +kernel)
set_option maxRecDepth 65536 in
theorem w_c4 : (Jvm.Cond.code ({ cls := "java/util/ArrayList", name := "<init>", desc := "()V" } : Jvm.MethodName) jdk_38_method_2_code (1 : Nat) (Option.none : Option Jvm.ClassFile.FieldType)).before args0 about1 = true := code_word (m := ⟨15, 0⟩) (meth := k15m0) (c := k15c0) (by decide +kernel) rfl rfl rfl (by decide +kernel)
set_option maxRecDepth 65536 in
theorem w_c5 : (Jvm.Cond.code ({ cls := "java/util/AbstractList", name := "<init>", desc := "()V" } : Jvm.MethodName) jdk_39_method_1_code (1 : Nat) (Option.none : Option Jvm.ClassFile.FieldType)).before args0 about1 = true := code_word (m := ⟨12, 0⟩) (meth := k12m0) (c := k12c0) (by decide +kernel) rfl rfl rfl (by decide +kernel)
set_option maxRecDepth 65536 in
theorem w_c6 : (Jvm.Cond.code ({ cls := "java/util/AbstractCollection", name := "<init>", desc := "()V" } : Jvm.MethodName) jdk_22_method_1_code (1 : Nat) (Option.none : Option Jvm.ClassFile.FieldType)).before args0 about1 = true := code_word (m := ⟨9, 0⟩) (meth := k9m0) (c := k9c0) (by decide +kernel) rfl rfl rfl (by decide +kernel)
set_option maxRecDepth 65536 in
theorem w_c7 : (Jvm.Cond.code ({ cls := "java/util/ArrayList", name := "add", desc := "(Ljava/lang/Object;)Z" } : Jvm.MethodName) jdk_38_method_25_code (2 : Nat) (Option.some Jvm.ClassFile.FieldType.boolean)).before args0 about1 = true := code_word (m := ⟨15, 4⟩) (meth := k15m4) (c := k15c4) (by decide +kernel) rfl rfl rfl (by decide +kernel)
set_option maxRecDepth 65536 in
theorem w_c8 : (Jvm.Cond.code ({ cls := "java/util/ArrayList", name := "add", desc := "(Ljava/lang/Object;[Ljava/lang/Object;I)V" } : Jvm.MethodName) jdk_38_method_24_code (4 : Nat) (Option.none : Option Jvm.ClassFile.FieldType)).before args0 about1 = true := code_word (m := ⟨15, 3⟩) (meth := k15m3) (c := k15c3) (by decide +kernel) rfl rfl rfl (by decide +kernel)
set_option maxRecDepth 65536 in
theorem w_c9 : (Jvm.Cond.code ({ cls := "java/util/ArrayList", name := "grow", desc := "()[Ljava/lang/Object;" } : Jvm.MethodName) jdk_38_method_7_code (1 : Nat) (Option.some (Jvm.ClassFile.FieldType.array (Jvm.ClassFile.FieldType.object "java/lang/Object")))).before args0 about1 = true := code_word (m := ⟨15, 2⟩) (meth := k15m2) (c := k15c2) (by decide +kernel) rfl rfl rfl (by decide +kernel)
set_option maxRecDepth 65536 in
theorem w_c10 : (Jvm.Cond.code ({ cls := "java/util/ArrayList", name := "grow", desc := "(I)[Ljava/lang/Object;" } : Jvm.MethodName) jdk_38_method_6_code (4 : Nat) (Option.some (Jvm.ClassFile.FieldType.array (Jvm.ClassFile.FieldType.object "java/lang/Object")))).before args0 about1 = true := code_word (m := ⟨15, 1⟩) (meth := k15m1) (c := k15c1) (by decide +kernel) rfl rfl rfl (by decide +kernel)
set_option maxRecDepth 65536 in
theorem w_c11 : (Jvm.Cond.code ({ cls := "java/lang/Math", name := "max", desc := "(II)I" } : Jvm.MethodName) jdk_29_method_65_code (2 : Nat) (Option.some Jvm.ClassFile.FieldType.int)).before args0 about1 = true := code_word (m := ⟨16, 1⟩) (meth := k16m1) (c := k16c1) (by decide +kernel) rfl rfl rfl (by decide +kernel)
set_option maxRecDepth 65536 in
theorem w_c12 : (Jvm.Cond.code ({ cls := "com/example/catchment/catchment/Position", name := "isNode", desc := "()Z" } : Jvm.MethodName) prog_40_method_5_code (1 : Nat) (Option.some Jvm.ClassFile.FieldType.boolean)).before args0 about1 = true := code_word (m := ⟨2, 2⟩) (meth := k2m2) (c := k2c2) (by decide +kernel) rfl rfl rfl (by decide +kernel)
set_option maxRecDepth 65536 in
theorem w_c13 : (Jvm.Cond.code ({ cls := "java/math/BigDecimal", name := "signum", desc := "()I" } : Jvm.MethodName) jdk_17_method_58_code (1 : Nat) (Option.some Jvm.ClassFile.FieldType.int)).before args0 about1 = true := code_word (m := ⟨6, 0⟩) (meth := k6m0) (c := k6c0) (by decide +kernel) rfl rfl rfl (by decide +kernel)
set_option maxRecDepth 65536 in
theorem w_c14 : (Jvm.Cond.code ({ cls := "java/lang/Long", name := "signum", desc := "(J)I" } : Jvm.MethodName) jdk_35_method_57_code (2 : Nat) (Option.some Jvm.ClassFile.FieldType.int)).before args0 about1 = true := code_word (m := ⟨19, 0⟩) (meth := k19m0) (c := k19c0) (by decide +kernel) rfl rfl rfl (by decide +kernel)
set_option maxRecDepth 65536 in
theorem w_c15 : (Jvm.Cond.code ({ cls := "com/example/catchment/catchment/Position", name := "from", desc := "()I" } : Jvm.MethodName) prog_40_method_6_code (1 : Nat) (Option.some Jvm.ClassFile.FieldType.int)).before args0 about1 = true := code_word (m := ⟨2, 3⟩) (meth := k2m3) (c := k2c3) (by decide +kernel) rfl rfl rfl (by decide +kernel)
set_option maxRecDepth 65536 in
theorem w_c16 : (Jvm.Cond.code ({ cls := "com/example/catchment/catchment/Position", name := "to", desc := "()I" } : Jvm.MethodName) prog_40_method_7_code (1 : Nat) (Option.some Jvm.ClassFile.FieldType.int)).before args0 about1 = true := code_word (m := ⟨2, 4⟩) (meth := k2m4) (c := k2c4) (by decide +kernel) rfl rfl rfl (by decide +kernel)
set_option maxRecDepth 65536 in
theorem w_c17 : (Jvm.Cond.code ({ cls := "com/example/catchment/catchment/Position", name := "equals", desc := "(Ljava/lang/Object;)Z" } : Jvm.MethodName) prog_40_method_13_code (3 : Nat) (Option.some Jvm.ClassFile.FieldType.boolean)).before args0 about1 = true := code_word (m := ⟨2, 6⟩) (meth := k2m6) (c := k2c6) (by decide +kernel) rfl rfl rfl (by decide +kernel)
set_option maxRecDepth 65536 in
theorem w_c18 : (Jvm.Cond.code ({ cls := "java/math/BigDecimal", name := "equals", desc := "(Ljava/lang/Object;)Z" } : Jvm.MethodName) jdk_17_method_72_code (7 : Nat) (Option.some Jvm.ClassFile.FieldType.boolean)).before args0 about1 = true := code_word (m := ⟨6, 2⟩) (meth := k6m2) (c := k6c2) (by decide +kernel) rfl rfl rfl (by decide +kernel)
set_option maxRecDepth 65536 in
theorem w_c19 : (Jvm.Cond.code ({ cls := "com/example/catchment/catchment/Position", name := "places", desc := "(Ljava/util/List;)I" } : Jvm.MethodName) prog_40_method_12_code (4 : Nat) (Option.some Jvm.ClassFile.FieldType.int)).before args0 about1 = true := code_word (m := ⟨2, 5⟩) (meth := k2m5) (c := k2c5) (by decide +kernel) rfl rfl rfl (by decide +kernel)
set_option maxRecDepth 65536 in
theorem w_c20 : (Jvm.Cond.code ({ cls := "java/util/ArrayList", name := "iterator", desc := "()Ljava/util/Iterator;" } : Jvm.MethodName) jdk_38_method_55_code (1 : Nat) (Option.some (Jvm.ClassFile.FieldType.object "java/util/Iterator"))).before args0 about1 = true := code_word (m := ⟨15, 5⟩) (meth := k15m5) (c := k15c5) (by decide +kernel) rfl rfl rfl (by decide +kernel)
set_option maxRecDepth 65536 in
theorem w_c21 : (Jvm.Cond.code ({ cls := "java/util/ArrayList$Itr", name := "<init>", desc := "(Ljava/util/ArrayList;)V" } : Jvm.MethodName) jdk_49_method_1_code (2 : Nat) (Option.none : Option Jvm.ClassFile.FieldType)).before args0 about1 = true := code_word (m := ⟨21, 0⟩) (meth := k21m0) (c := k21c0) (by decide +kernel) rfl rfl rfl (by decide +kernel)
set_option maxRecDepth 65536 in
theorem w_c22 : (Jvm.Cond.code ({ cls := "java/util/ArrayList$Itr", name := "hasNext", desc := "()Z" } : Jvm.MethodName) jdk_49_method_2_code (1 : Nat) (Option.some Jvm.ClassFile.FieldType.boolean)).before args0 about1 = true := code_word (m := ⟨21, 1⟩) (meth := k21m1) (c := k21c1) (by decide +kernel) rfl rfl rfl (by decide +kernel)
set_option maxRecDepth 65536 in
theorem w_c23 : (Jvm.Cond.code ({ cls := "java/util/ArrayList$Itr", name := "next", desc := "()Ljava/lang/Object;" } : Jvm.MethodName) jdk_49_method_3_code (3 : Nat) (Option.some (Jvm.ClassFile.FieldType.object "java/lang/Object"))).before args0 about1 = true := code_word (m := ⟨21, 2⟩) (meth := k21m2) (c := k21c2) (by decide +kernel) rfl rfl rfl (by decide +kernel)
set_option maxRecDepth 65536 in
theorem w_c24 : (Jvm.Cond.code ({ cls := "java/util/ArrayList$Itr", name := "checkForComodification", desc := "()V" } : Jvm.MethodName) jdk_49_method_6_code (1 : Nat) (Option.none : Option Jvm.ClassFile.FieldType)).before args0 about1 = true := code_word (m := ⟨21, 3⟩) (meth := k21m3) (c := k21c3) (by decide +kernel) rfl rfl rfl (by decide +kernel)
set_option maxRecDepth 65536 in
theorem w_c25 : (Jvm.Cond.code ({ cls := "java/math/BigDecimal", name := "scale", desc := "()I" } : Jvm.MethodName) jdk_17_method_59_code (1 : Nat) (Option.some Jvm.ClassFile.FieldType.int)).before args0 about1 = true := code_word (m := ⟨6, 1⟩) (meth := k6m1) (c := k6c1) (by decide +kernel) rfl rfl rfl (by decide +kernel)
def codes1 : List Jvm.Cond := [Jvm.Cond.code x code maxLocals ret, Jvm.Cond.code ({ cls := "com/example/catchment/catchment/Position", name := "node", desc := "(I)Lcom/example/catchment/catchment/Position;" } : Jvm.MethodName) prog_40_method_2_code (1 : Nat) (Option.some (Jvm.ClassFile.FieldType.object "com/example/catchment/catchment/Position")), Jvm.Cond.code ({ cls := "com/example/catchment/catchment/Position", name := "<init>", desc := "(IILjava/math/BigDecimal;)V" } : Jvm.MethodName) prog_40_method_1_code (4 : Nat) (Option.none : Option Jvm.ClassFile.FieldType), Jvm.Cond.code ({ cls := "java/lang/Object", name := "<init>", desc := "()V" } : Jvm.MethodName) object_method_1_code (1 : Nat) (Option.none : Option Jvm.ClassFile.FieldType), Jvm.Cond.code ({ cls := "java/util/ArrayList", name := "<init>", desc := "()V" } : Jvm.MethodName) jdk_38_method_2_code (1 : Nat) (Option.none : Option Jvm.ClassFile.FieldType), Jvm.Cond.code ({ cls := "java/util/AbstractList", name := "<init>", desc := "()V" } : Jvm.MethodName) jdk_39_method_1_code (1 : Nat) (Option.none : Option Jvm.ClassFile.FieldType), Jvm.Cond.code ({ cls := "java/util/AbstractCollection", name := "<init>", desc := "()V" } : Jvm.MethodName) jdk_22_method_1_code (1 : Nat) (Option.none : Option Jvm.ClassFile.FieldType), Jvm.Cond.code ({ cls := "java/util/ArrayList", name := "add", desc := "(Ljava/lang/Object;)Z" } : Jvm.MethodName) jdk_38_method_25_code (2 : Nat) (Option.some Jvm.ClassFile.FieldType.boolean), Jvm.Cond.code ({ cls := "java/util/ArrayList", name := "add", desc := "(Ljava/lang/Object;[Ljava/lang/Object;I)V" } : Jvm.MethodName) jdk_38_method_24_code (4 : Nat) (Option.none : Option Jvm.ClassFile.FieldType), Jvm.Cond.code ({ cls := "java/util/ArrayList", name := "grow", desc := "()[Ljava/lang/Object;" } : Jvm.MethodName) jdk_38_method_7_code (1 : Nat) (Option.some (Jvm.ClassFile.FieldType.array (Jvm.ClassFile.FieldType.object "java/lang/Object"))), Jvm.Cond.code ({ cls := "java/util/ArrayList", name := "grow", desc := "(I)[Ljava/lang/Object;" } : Jvm.MethodName) jdk_38_method_6_code (4 : Nat) (Option.some (Jvm.ClassFile.FieldType.array (Jvm.ClassFile.FieldType.object "java/lang/Object"))), Jvm.Cond.code ({ cls := "java/lang/Math", name := "max", desc := "(II)I" } : Jvm.MethodName) jdk_29_method_65_code (2 : Nat) (Option.some Jvm.ClassFile.FieldType.int), Jvm.Cond.code ({ cls := "com/example/catchment/catchment/Position", name := "isNode", desc := "()Z" } : Jvm.MethodName) prog_40_method_5_code (1 : Nat) (Option.some Jvm.ClassFile.FieldType.boolean), Jvm.Cond.code ({ cls := "java/math/BigDecimal", name := "signum", desc := "()I" } : Jvm.MethodName) jdk_17_method_58_code (1 : Nat) (Option.some Jvm.ClassFile.FieldType.int), Jvm.Cond.code ({ cls := "java/lang/Long", name := "signum", desc := "(J)I" } : Jvm.MethodName) jdk_35_method_57_code (2 : Nat) (Option.some Jvm.ClassFile.FieldType.int), Jvm.Cond.code ({ cls := "com/example/catchment/catchment/Position", name := "from", desc := "()I" } : Jvm.MethodName) prog_40_method_6_code (1 : Nat) (Option.some Jvm.ClassFile.FieldType.int), Jvm.Cond.code ({ cls := "com/example/catchment/catchment/Position", name := "to", desc := "()I" } : Jvm.MethodName) prog_40_method_7_code (1 : Nat) (Option.some Jvm.ClassFile.FieldType.int), Jvm.Cond.code ({ cls := "com/example/catchment/catchment/Position", name := "equals", desc := "(Ljava/lang/Object;)Z" } : Jvm.MethodName) prog_40_method_13_code (3 : Nat) (Option.some Jvm.ClassFile.FieldType.boolean), Jvm.Cond.code ({ cls := "java/math/BigDecimal", name := "equals", desc := "(Ljava/lang/Object;)Z" } : Jvm.MethodName) jdk_17_method_72_code (7 : Nat) (Option.some Jvm.ClassFile.FieldType.boolean), Jvm.Cond.code ({ cls := "com/example/catchment/catchment/Position", name := "places", desc := "(Ljava/util/List;)I" } : Jvm.MethodName) prog_40_method_12_code (4 : Nat) (Option.some Jvm.ClassFile.FieldType.int), Jvm.Cond.code ({ cls := "java/util/ArrayList", name := "iterator", desc := "()Ljava/util/Iterator;" } : Jvm.MethodName) jdk_38_method_55_code (1 : Nat) (Option.some (Jvm.ClassFile.FieldType.object "java/util/Iterator")), Jvm.Cond.code ({ cls := "java/util/ArrayList$Itr", name := "<init>", desc := "(Ljava/util/ArrayList;)V" } : Jvm.MethodName) jdk_49_method_1_code (2 : Nat) (Option.none : Option Jvm.ClassFile.FieldType), Jvm.Cond.code ({ cls := "java/util/ArrayList$Itr", name := "hasNext", desc := "()Z" } : Jvm.MethodName) jdk_49_method_2_code (1 : Nat) (Option.some Jvm.ClassFile.FieldType.boolean), Jvm.Cond.code ({ cls := "java/util/ArrayList$Itr", name := "next", desc := "()Ljava/lang/Object;" } : Jvm.MethodName) jdk_49_method_3_code (3 : Nat) (Option.some (Jvm.ClassFile.FieldType.object "java/lang/Object")), Jvm.Cond.code ({ cls := "java/util/ArrayList$Itr", name := "checkForComodification", desc := "()V" } : Jvm.MethodName) jdk_49_method_6_code (1 : Nat) (Option.none : Option Jvm.ClassFile.FieldType), Jvm.Cond.code ({ cls := "java/math/BigDecimal", name := "scale", desc := "()I" } : Jvm.MethodName) jdk_17_method_59_code (1 : Nat) (Option.some Jvm.ClassFile.FieldType.int)]
set_option maxRecDepth 65536 in
theorem codes_eq : words1.filter isCode = codes1 := rfl
theorem w_codes : ∀ c ∈ words1.filter isCode, c.before args0 about1 = true := by
  rw [codes_eq]
  intro c hc
  simp only [codes1, List.mem_cons, List.not_mem_nil, or_false] at hc
  rcases hc with rfl | rfl | rfl | rfl | rfl | rfl | rfl | rfl | rfl | rfl | rfl | rfl | rfl | rfl | rfl | rfl | rfl | rfl | rfl | rfl | rfl | rfl | rfl | rfl | rfl | rfl
  · exact w_c0
  · exact w_c1
  · exact w_c2
  · exact w_c3
  · exact w_c4
  · exact w_c5
  · exact w_c6
  · exact w_c7
  · exact w_c8
  · exact w_c9
  · exact w_c10
  · exact w_c11
  · exact w_c12
  · exact w_c13
  · exact w_c14
  · exact w_c15
  · exact w_c16
  · exact w_c17
  · exact w_c18
  · exact w_c19
  · exact w_c20
  · exact w_c21
  · exact w_c22
  · exact w_c23
  · exact w_c24
  · exact w_c25
set_option maxRecDepth 65536 in
theorem w_t1 : (words1.take 24).all (fun c => isCode c || c.before args0 about1) = true := by decide +kernel
set_option maxRecDepth 65536 in
theorem w_t2 : ((words1.drop 24).take 24).all (fun c => isCode c || c.before args0 about1) = true := by decide +kernel
set_option maxRecDepth 65536 in
theorem w_t3 : (((words1.drop 24).drop 24).take 24).all (fun c => isCode c || c.before args0 about1) = true := by decide +kernel
set_option maxRecDepth 65536 in
theorem w_t4 : ((((words1.drop 24).drop 24).drop 24).take 24).all (fun c => isCode c || c.before args0 about1) = true := by decide +kernel
set_option maxRecDepth 65536 in
theorem w_t5 : (((((words1.drop 24).drop 24).drop 24).drop 24).take 24).all (fun c => isCode c || c.before args0 about1) = true := by decide +kernel
set_option maxRecDepth 65536 in
theorem w_t6 : ((((((words1.drop 24).drop 24).drop 24).drop 24).drop 24).take 24).all (fun c => isCode c || c.before args0 about1) = true := by decide +kernel
set_option maxRecDepth 65536 in
theorem w_t7 : (((((((words1.drop 24).drop 24).drop 24).drop 24).drop 24).drop 24).take 24).all (fun c => isCode c || c.before args0 about1) = true := by decide +kernel
set_option maxRecDepth 65536 in
theorem w_t8 : (((((((words1.drop 24).drop 24).drop 24).drop 24).drop 24).drop 24).drop 24).all (fun c => isCode c || c.before args0 about1) = true := by decide +kernel
theorem w_tables : (allAtoms (Jvm.Cond.code x code maxLocals ret :: tables_1)).before args0 about1 = true := by
  rw [allAtoms_all]
  show words1.all (fun c => c.before args0 about1) = true
  refine all_split ?_ w_codes
  rw [← List.take_append_drop 24 words1, List.all_append, w_t1, ← List.take_append_drop 24 (words1.drop 24), List.all_append, w_t2, ← List.take_append_drop 24 ((words1.drop 24).drop 24), List.all_append, w_t3, ← List.take_append_drop 24 (((words1.drop 24).drop 24).drop 24), List.all_append, w_t4, ← List.take_append_drop 24 ((((words1.drop 24).drop 24).drop 24).drop 24), List.all_append, w_t5, ← List.take_append_drop 24 (((((words1.drop 24).drop 24).drop 24).drop 24).drop 24), List.all_append, w_t6, ← List.take_append_drop 24 ((((((words1.drop 24).drop 24).drop 24).drop 24).drop 24).drop 24), List.all_append, w_t7, w_t8]
  rfl
set_option maxRecDepth 65536 in
theorem w_rest : rest_1_c.before args0 about1 = true := by decide +kernel
set_option maxRecDepth 65536 in
theorem w_case : (Jvm.Cond.and given_1 narrow_1).before args0 about1 = true := by decide +kernel
theorem w_applies : (headSpec (Jvm.Cond.code x code maxLocals ret :: tables_1) room_1).applies x e0.platform about1 = true :=
  (Spec.applies_iff w_frames).mpr ⟨w_running, w_runnable, w_alone, w_named, w_hears, w_ripe, w_room, w_tables⟩
theorem atStart : AtStart classFile x code maxLocals ret World_1 tables_1 room_1 Calls_1 rest_1 Pre_1 launch0 p0 e0 about1 theMethod args0 below0 :=
  ⟨lists_1, trivial, launch0.admits_env _ _ _, launch0.least_env, fairChoices_fair.cas, fairChoices_fair.clock, w_frames, w_args, w_heap, w_applies, trivial, w_rest, w_case⟩
end start1
theorem witness_1 : WitnessClaimed_1 := ⟨start1.p0, start1.e0, start1.about1, start1.theMethod, start1.args0, start1.below0, start1.atStart⟩
end Jvm.Pilot.@@N@@
