import JvmDerived
import JvmDerived.Pilot.@@N@@Statement
import JvmDerived.Pilot.@@N@@Code
set_option linter.unusedVariables false
set_option linter.unusedSimpArgs false
namespace Jvm.RoadKit
open Sem ClassFile Op Lib Jvm.Stand Jvm.Free Jvm.LawKit
section New
variable {p : Program} {l : Launch} {e : Env} {R : Room} {s : State} {m : MethodId} {args : Array Value} {below : List Frame} {meth : Method} {c : Code} {T : State} {locs : List Loc} {cells slots : Nat}
theorem retI (X : Stand p l e R s m args below meth c T locs cells slots) (hx : p.tables.exec = Jvm.exec) {pc : Nat} {Ls : Array Slot} {z : Int32} {rest : List Value} (hret : meth.sig.returnType = some .int) (hd : decode c.code pc = .ok (.ireturn, 1)) {fs : List Frame}
    (hl : ∀ (f : JFrame) (acts : List Action), f.method = m → f.locked = none → f.entered = [] → (doReturn e (T.setTop f) acts (some (.int z))).1 = T.setFrames fs) : Steps p.tables e below (T.setTop (mkF m pc Ls (.int z :: rest))) (T.setFrames fs) := by
  have hm' : T.vm.method? m = some meth := X.method'
  have hn : narrow .int (.int z) = .int z := rfl
  show Steps p.tables e below (T.setTop { method := m, pc := pc, locals := Ls, stack := _ :: rest, locked := none }) _
  jvm_step X.here [X.here.top, hx, hd, hm', hret, hn]
  first | (intro acts; rw [hl _ acts rfl rfl rfl]) | rw [hl _ _ rfl rfl rfl]
  exact Steps.refl _
end New
end Jvm.RoadKit
namespace Jvm.Pilot.@@N@@
open Jvm Jvm.ClassFile Sem Op Lib Jvm.Free Jvm.Stand Jvm.LawKit Jvm.RoadKit Bundle Jvm.Pilot.@@N@@.Jvm.D
/-- what is left of a walk: from the frame f of T the run comes to its end, where Qe holds -/
def own_Rest (p : Program) (e : Env) (below : List Frame) (Qe : Outcome → State → Prop) (T : State) (f : JFrame) : Prop :=
  ∃ s₂ o, Steps p.tables e below (T.setTop f) s₂ ∧ s₂.status = .running ∧ Ended s₂ below o ∧ Qe o s₂
abbrev own_S (p : Program) (e : Env) (below : List Frame) (T : State) (f : JFrame) (t : State) : Prop := Steps p.tables e below (T.setTop f) t
theorem own_by {p : Program} {e : Env} {below : List Frame} {Qe : Outcome → State → Prop} {T T' : State} {f f' : JFrame}
    (h : ∀ t, Steps p.tables e below (T'.setTop f') t → Steps p.tables e below (T.setTop f) t) (k : own_Rest p e below Qe T' f') : own_Rest p e below Qe T f := by
  obtain ⟨s₂, o, h1, h2⟩ := k
  exact ⟨s₂, o, h _ h1, h2⟩
theorem own_at {p : Program} {e : Env} {below : List Frame} {Qe : Outcome → State → Prop} {T : State} {f f' : JFrame}
    (h : ∀ {t}, Steps p.tables e below (T.setTop f') t → Steps p.tables e below (T.setTop f) t) (k : own_Rest p e below Qe T f') :
    ∃ s₂ o, Steps p.tables e below (T.setTop f) s₂ ∧ s₂.status = .running ∧ Ended s₂ below o ∧ Qe o s₂ := by
  obtain ⟨s₂, o, h1, h2⟩ := k
  exact ⟨s₂, o, h h1, h2⟩
theorem own_c255 (x : Int32) : ¬ (x &&& (255 : Int32)).toUInt32.toUInt16.toUInt32.toInt32 < 0 ∧ ¬ (255 : Int32) < (x &&& (255 : Int32)).toUInt32.toUInt16.toUInt32.toInt32 := by
  have h1 := c_mask x 255 8 (by decide) (by decide)
  have h2 := c_i2c (x &&& (255 : Int32))
  simp only [Int32.lt_iff_toInt_lt, Int32.reduceToInt]
  omega
theorem own_narc {z : Int32} (h : ¬ z < 0 ∧ ¬ (255 : Int32) < z) : nar .char z = z := by
  have h2 := c_i2c z
  obtain ⟨h3, h4⟩ := h
  simp only [Int32.lt_iff_toInt_lt, Int32.reduceToInt] at h3 h4
  have e : (nar .char z).toInt = z.toInt := by
    show z.toUInt32.toUInt16.toUInt32.toInt32.toInt = z.toInt
    omega
  exact Int32.toInt_inj.mp e
theorem own_nrb {z : Int32} (h : z = 0 ∨ z = 1) : narrow .boolean (.int z) = .int z := by rcases h with rfl | rfl <;> rfl
theorem own_ftb {z : Int32} (h : z = 0 ∨ z = 1) : fits .boolean (.int z) = true := by rcases h with rfl | rfl <;> rfl
theorem own_eqi {t : Term} {n : Int32} {args : Array Value} {Z : State} (h : (Jvm.Cond.eq t (.int n)).value args Z none Z [] = some true) : t.eval args Z none [] Z = some (.int n) := by
  obtain ⟨x, y, h1, h2, h3, -⟩ := cmp_v (Or.inl h)
  have e : y = .int n := (Option.some.inj h2).symm
  subst e
  cases x <;> simp [Kin, Value.isRef] at h3
  rename_i z
  have : z = n := by simpa [Cond.value, h1, Term.eval] using h
  rw [h1, this]
theorem own_fld {t : Term} {n : Int32} {args : Array Value} {Z : State} {a : Addr} {C f d : String} (ev : t.eval args Z none [] Z = some (.ref a)) (h : (Jvm.Cond.eq (.field t C f d) (.int n)).value args Z none Z [] = some true) : Fld Z Z.heap a C f d (.int n) :=
  Fld.start ((fld_at ev).symm.trans (own_eqi h))
theorem own_nb {z : Int32} (h : z = 0 ∨ z = 1) : nar .boolean z = z := by rcases h with rfl | rfl <;> rfl

theorem d1_0 : decode prog_17_method_4_code 0 = .ok (.aload_n 0, 1) := by decide +kernel
theorem d1_1 : decode prog_17_method_4_code 1 = .ok (.getstatic 10, 3) := by decide +kernel
theorem d1_4 : decode prog_17_method_4_code 4 = .ok (.if_acmp .eq 10, 3) := by decide +kernel
theorem d1_7 : decode prog_17_method_4_code 7 = .ok (.aload_n 0, 1) := by decide +kernel
theorem d1_8 : decode prog_17_method_4_code 8 = .ok (.getstatic 13, 3) := by decide +kernel
theorem d1_11 : decode prog_17_method_4_code 11 = .ok (.if_acmp .ne 7, 3) := by decide +kernel
theorem d1_14 : decode prog_17_method_4_code 14 = .ok (.iconst 1, 1) := by decide +kernel
theorem d1_15 : decode prog_17_method_4_code 15 = .ok (.goto 4, 3) := by decide +kernel
theorem d1_18 : decode prog_17_method_4_code 18 = .ok (.iconst 0, 1) := by decide +kernel
theorem d1_19 : decode prog_17_method_4_code 19 = .ok (.ireturn, 1) := by decide +kernel
theorem pn_1 : plainFor (⟨"com/example/catchment/catchment/Format", "byNode", "()Z"⟩ : MethodName) = true := by first | exact plainFor_of_name (by first | (simp [plainName, overriddenIn]; done) | decide +kernel) | decide +kernel | exact Jvm.Free.JP.mathPlain rfl (by decide +kernel)
theorem ef_1 (m : MethodId) (a1 : Addr) : entryFrame m #[(.ref a1)] 1 = mkF m 0 #[.val (.ref a1)] [] := by first | (simp [entryFrame, mkF, argsToLocals, Value.category]; done) | rfl
def Q1 (Z : State) (a1 : Addr) (wCSV : Addr) (wGEOJSON : Addr) (h0 : Heap) (n0 : Nat) (v : Option Value) (h : Heap) (L : List Loc) : Prop := v = some (.int (if a1 = wCSV then (1 : Int32) else if a1 = wGEOJSON then (1 : Int32) else (0 : Int32))) ∧ Fr n0 L ∧ h = h0
set_option maxRecDepth 65536 in
set_option maxHeartbeats 40000000 in
theorem rm1 (l : Launch) (Z : State) (a0 : Array Value) (hw : ∀ d ∈ tables_1, d.before a0 Z = true) (ws : List Jvm.Cond) (a1 : Addr) (wCSV : Addr) (wGEOJSON : Addr) (h0 : Heap) (n0 : Nat) (Z0 : n0 ≤ h0.size) (S_CSV : Sta Z h0 "com/example/catchment/catchment/Format" "CSV" "Lcom/example/catchment/catchment/Format;" (.ref wCSV)) (S_GEOJSON : Sta Z h0 "com/example/catchment/catchment/Format" "GEOJSON" "Lcom/example/catchment/catchment/Format;" (.ref wGEOJSON)) :
    MetFree l (⟨"com/example/catchment/catchment/Format", "byNode", "()Z"⟩ : MethodName) (head1 (Jvm.Cond.code (⟨"com/example/catchment/catchment/Format", "byNode", "()Z"⟩ : MethodName) prog_17_method_4_code 1 (some .boolean) :: ws) ({ frames := 0, cells := 0, slots := 0, locals := 0 } : Room)) (fun a U => a = #[(.ref a1)] ∧ Z.Warmed39 U.vm ∧ U.heap = h0) (fun _ _ _ _ _ => True) (fun _ U o U' => ∃ v L, o = .returned v ∧ Q1 Z a1 wCSV wGEOJSON h0 n0 v U'.heap L ∧ FrameEnd U o U' L ({ frames := 0, cells := 0, slots := 0, locals := 0 } : Room).cells ({ frames := 0, cells := 0, slots := 0, locals := 0 } : Room).slots) := by
  refine MetFree.of_bodySF pn_1 hisR ?_
  intro p e s m args below meth c s₁ Bd hml0 hP hK
  obtain ⟨rfl, hZ, hh⟩ := hP
  have hx := Bd.exec
  have hby := Bd.bytes
  have hml : c.maxLocals = 1 := hml0
  have hown : s.vm.findClass "com/example/catchment/catchment/Format" = some m.cls := findClass_of_methodNamed Bd.named
  have hnm := (name_of_methodNamed Bd.named Bd.method).1
  have X0 : Stand p l e ({ frames := 0, cells := 0, slots := 0, locals := 0 } : Room) s m #[(.ref a1)] below meth c s₁ [] 0 0 := Stand.of_body Bd
  have e0 : s₁.heap = h0 := by rw [← hh, Bd.state]; rfl
  have N0 := Fr.nil n0
  refine own_at (castTop (ef_1 m a1)) ?_
  have sg1 : ∀ t, own_S p e below s₁ (mkF m 1 #[.val (.ref a1)] [(.ref a1)]) t → own_S p e below s₁ (mkF m 0 #[.val (.ref a1)] []) t := by
    intro t k
    show own_S p e below s₁ (mkF m 0 #[.val (.ref a1)] []) _
    refine XS.aloadN X0.here hx rfl (hb hby d1_0) rfl rfl ?_
    exact k
  refine own_by sg1 ?_
  obtain ⟨T1, X1, e1, st1⟩ := getS2 X0 hx hZ hown (host := "") (Or.inl (hw _ (List.mem_of_getElem? (i := 8) rfl))) Via.refl e0 S_CSV (g := (mkF m 1 #[.val (.ref a1)] [(.ref a1)])) rfl (hb hby d1_1)
  refine own_by st1 ?_
  by_cases hc4 : a1 = wCSV
  · have sg19 : ∀ t, own_S p e below T1 (mkF m 19 #[.val (.ref a1)] [(.int (1 : Int32))]) t → own_S p e below T1 (mkF m 4 #[.val (.ref a1)] [(.ref wCSV), (.ref a1)]) t := by
      intro t k
      show own_S p e below T1 (mkF m 4 #[.val (.ref a1)] [(.ref wCSV), (.ref a1)]) _
      refine Jvm.RoadKit.acmp (g := (mkF m 4 #[.val (.ref a1)] [(.ref wCSV), (.ref a1)])) X1 hx rfl rfl rfl (pc0 := 4) (pc' := 14) (same := true) rfl (hb hby d1_4) rfl (decide_eq_true (congrArg Value.ref hc4)) (by decide) (by decide) ?_
      show own_S p e below T1 (mkF m 14 #[.val (.ref a1)] []) _
      refine XS.iconst X1.here hx rfl (hb hby d1_14) ?_
      show own_S p e below T1 (mkF m 15 #[.val (.ref a1)] [(.int (1 : Int32))]) _
      refine XS.goto X1.here hx rfl (pc0 := 15) (pc' := 19) rfl (hb hby d1_15) (by decide) (by decide) ?_
      exact k
    refine own_by sg19 ?_
    obtain ⟨fs, hr, hrun, hended, hW, hsame⟩ := X1.leave (v := some (.int (1 : Int32))) (fun h => by rw [Bd.returns] at h; cases h)
    refine ⟨_, _, ?_, hrun, hended, _, _, rfl, ?_, ⟨_, rfl⟩, hW, hsame.mono (by decide) (by decide)⟩
    · exact retN X1 hx (t := .boolean) Bd.returns (by simp) (hb hby d1_19) hr
    · show Q1 Z a1 wCSV wGEOJSON h0 n0 _ T1.heap _
      rw [e1]
      exact ⟨by simp [hc4], N0, rfl⟩
  · have sg8 : ∀ t, own_S p e below T1 (mkF m 8 #[.val (.ref a1)] [(.ref a1)]) t → own_S p e below T1 (mkF m 4 #[.val (.ref a1)] [(.ref wCSV), (.ref a1)]) t := by
      intro t k
      show own_S p e below T1 (mkF m 4 #[.val (.ref a1)] [(.ref wCSV), (.ref a1)]) _
      refine Jvm.RoadKit.acmp (g := (mkF m 4 #[.val (.ref a1)] [(.ref wCSV), (.ref a1)])) X1 hx rfl rfl rfl (pc0 := 4) (pc' := 7) (same := false) rfl (hb hby d1_4) rfl (decide_eq_false fun q => hc4 (Value.ref.inj q)) (by decide) (by decide) ?_
      show own_S p e below T1 (mkF m 7 #[.val (.ref a1)] []) _
      refine XS.aloadN X1.here hx rfl (hb hby d1_7) rfl rfl ?_
      exact k
    refine own_by sg8 ?_
    obtain ⟨T8, X8, e8, st8⟩ := getS2 X1 hx hZ hown (host := "") (Or.inl (hw _ (List.mem_of_getElem? (i := 10) rfl))) Via.refl e1 S_GEOJSON (g := (mkF m 8 #[.val (.ref a1)] [(.ref a1)])) rfl (hb hby d1_8)
    refine own_by st8 ?_
    by_cases hc11 : a1 = wGEOJSON
    · have sg19 : ∀ t, own_S p e below T8 (mkF m 19 #[.val (.ref a1)] [(.int (1 : Int32))]) t → own_S p e below T8 (mkF m 11 #[.val (.ref a1)] [(.ref wGEOJSON), (.ref a1)]) t := by
        intro t k
        show own_S p e below T8 (mkF m 11 #[.val (.ref a1)] [(.ref wGEOJSON), (.ref a1)]) _
        refine Jvm.RoadKit.acmp (g := (mkF m 11 #[.val (.ref a1)] [(.ref wGEOJSON), (.ref a1)])) X8 hx rfl rfl rfl (pc0 := 11) (pc' := 14) (same := true) rfl (hb hby d1_11) rfl (decide_eq_true (congrArg Value.ref hc11)) (by decide) (by decide) ?_
        show own_S p e below T8 (mkF m 14 #[.val (.ref a1)] []) _
        refine XS.iconst X8.here hx rfl (hb hby d1_14) ?_
        show own_S p e below T8 (mkF m 15 #[.val (.ref a1)] [(.int (1 : Int32))]) _
        refine XS.goto X8.here hx rfl (pc0 := 15) (pc' := 19) rfl (hb hby d1_15) (by decide) (by decide) ?_
        exact k
      refine own_by sg19 ?_
      obtain ⟨fs, hr, hrun, hended, hW, hsame⟩ := X8.leave (v := some (.int (1 : Int32))) (fun h => by rw [Bd.returns] at h; cases h)
      refine ⟨_, _, ?_, hrun, hended, _, _, rfl, ?_, ⟨_, rfl⟩, hW, hsame.mono (by decide) (by decide)⟩
      · exact retN X8 hx (t := .boolean) Bd.returns (by simp) (hb hby d1_19) hr
      · show Q1 Z a1 wCSV wGEOJSON h0 n0 _ T8.heap _
        rw [e8]
        exact ⟨by simp [hc4, hc11], N0, rfl⟩
    · have sg19 : ∀ t, own_S p e below T8 (mkF m 19 #[.val (.ref a1)] [(.int (0 : Int32))]) t → own_S p e below T8 (mkF m 11 #[.val (.ref a1)] [(.ref wGEOJSON), (.ref a1)]) t := by
        intro t k
        show own_S p e below T8 (mkF m 11 #[.val (.ref a1)] [(.ref wGEOJSON), (.ref a1)]) _
        refine Jvm.RoadKit.acmp (g := (mkF m 11 #[.val (.ref a1)] [(.ref wGEOJSON), (.ref a1)])) X8 hx rfl rfl rfl (pc0 := 11) (pc' := 18) (same := false) rfl (hb hby d1_11) rfl (decide_eq_false fun q => hc11 (Value.ref.inj q)) (by decide) (by decide) ?_
        show own_S p e below T8 (mkF m 18 #[.val (.ref a1)] []) _
        refine XS.iconst X8.here hx rfl (hb hby d1_18) ?_
        exact k
      refine own_by sg19 ?_
      obtain ⟨fs, hr, hrun, hended, hW, hsame⟩ := X8.leave (v := some (.int (0 : Int32))) (fun h => by rw [Bd.returns] at h; cases h)
      refine ⟨_, _, ?_, hrun, hended, _, _, rfl, ?_, ⟨_, rfl⟩, hW, hsame.mono (by decide) (by decide)⟩
      · exact retN X8 hx (t := .boolean) Bd.returns (by simp) (hb hby d1_19) hr
      · show Q1 Z a1 wCSV wGEOJSON h0 n0 _ T8.heap _
        rw [e8]
        exact ⟨by simp [hc4, hc11], N0, rfl⟩
theorem pn_0 : plainFor x = true := by first | exact plainFor_of_name (by first | (simp [plainName, overriddenIn]; done) | decide +kernel) | decide +kernel | exact Jvm.Free.JP.mathPlain rfl (by decide +kernel)
theorem pd_0_0 : parseMethodDescriptor "()Z" = some ⟨[], some .boolean⟩ := by decide +kernel
theorem ef_0 (m : MethodId) (p0 : Int32) : entryFrame m #[(.int p0)] maxLocals = mkF m 0 #[.val (.int p0), .unset, .unset, .unset] [] := by first | (simp [entryFrame, mkF, argsToLocals, Value.category, maxLocals]; done) | rfl
def Q0 (Z : State) (p0 : Int32) (wTEXT : Addr) (wJSON : Addr) (wCSV : Addr) (wGEOJSON : Addr) (h0 : Heap) (n0 : Nat) (v : Option Value) (h : Heap) (L : List Loc) : Prop := v = some (.int 1) ∧ Fr n0 L
set_option maxRecDepth 65536 in
set_option maxHeartbeats 40000000 in
theorem rm0 (l : Launch) (Z : State) (a0 : Array Value) (hw : ∀ d ∈ tables_1, d.before a0 Z = true) (ws : List Jvm.Cond) (p0 : Int32) (wTEXT : Addr) (wJSON : Addr) (wCSV : Addr) (wGEOJSON : Addr) (h0 : Heap) (n0 : Nat) (Z0 : n0 ≤ h0.size) (S_TEXT : Sta Z h0 "com/example/catchment/catchment/Format" "TEXT" "Lcom/example/catchment/catchment/Format;" (.ref wTEXT)) (S_JSON : Sta Z h0 "com/example/catchment/catchment/Format" "JSON" "Lcom/example/catchment/catchment/Format;" (.ref wJSON)) (S_CSV : Sta Z h0 "com/example/catchment/catchment/Format" "CSV" "Lcom/example/catchment/catchment/Format;" (.ref wCSV)) (S_GEOJSON : Sta Z h0 "com/example/catchment/catchment/Format" "GEOJSON" "Lcom/example/catchment/catchment/Format;" (.ref wGEOJSON)) (E_TEXT : Exa Z h0 wTEXT "com/example/catchment/catchment/Format") (E_JSON : Exa Z h0 wJSON "com/example/catchment/catchment/Format") (E_CSV : Exa Z h0 wCSV "com/example/catchment/catchment/Format") (E_GEOJSON : Exa Z h0 wGEOJSON "com/example/catchment/catchment/Format") (ne_TC : ¬ (wTEXT = wCSV)) (ne_TG : ¬ (wTEXT = wGEOJSON)) (ne_JC : ¬ (wJSON = wCSV)) (ne_JG : ¬ (wJSON = wGEOJSON)) :
    MetFree l x (head1 (Jvm.Cond.code x code maxLocals ret :: ws) room_1) (fun a U => a = #[(.int p0)] ∧ Z.Warmed39 U.vm ∧ U.heap = h0) (fun _ _ _ _ _ => True) (fun _ U o U' => ∃ v L, o = .returned v ∧ Q0 Z p0 wTEXT wJSON wCSV wGEOJSON h0 n0 v U'.heap L ∧ FrameEnd U o U' L room_1.cells room_1.slots) := by
  refine MetFree.of_bodySF pn_0 hisR ?_
  intro p e s m args below meth c s₁ Bd hml0 hP hK
  obtain ⟨rfl, hZ, hh⟩ := hP
  have hx := Bd.exec
  have hby := Bd.bytes
  have hml : c.maxLocals = 4 := hml0
  have hown : s.vm.findClass "com/example/catchment/catchment/FormatByNodePinLaw" = some m.cls := findClass_of_methodNamed Bd.named
  have hnm := (name_of_methodNamed Bd.named Bd.method).1
  have X0 : Stand p l e room_1 s m #[(.int p0)] below meth c s₁ [] 0 0 := Stand.of_body Bd
  have e0 : s₁.heap = h0 := by rw [← hh, Bd.state]; rfl
  have N0 := Fr.nil n0
  refine own_at (castTop (ef_0 m p0)) ?_
  obtain ⟨v3, hv3⟩ : ∃ z : Int32, z = (p0 &&& (3 : Int32)) := ⟨_, rfl⟩
  have sg3 : ∀ t, own_S p e below s₁ (mkF m 3 #[.val (.int p0), .unset, .unset, .unset] [(.int v3)]) t → own_S p e below s₁ (mkF m 0 #[.val (.int p0), .unset, .unset, .unset] []) t := by
    intro t k
    rw [hv3] at k
    show own_S p e below s₁ (mkF m 0 #[.val (.int p0), .unset, .unset, .unset] []) _
    refine XS.iloadN X0.here hx rfl (hb hby at_0) rfl ?_
    show own_S p e below s₁ (mkF m 1 #[.val (.int p0), .unset, .unset, .unset] [(.int p0)]) _
    refine XS.iconst X0.here hx rfl (hb hby at_1) ?_
    show own_S p e below s₁ (mkF m 2 #[.val (.int p0), .unset, .unset, .unset] [(.int (3 : Int32)), (.int p0)]) _
    refine XS.iand X0.here hx rfl (hb hby at_2) rfl ?_
    exact k
  refine own_by sg3 ?_
  have sg5 : ∀ t, own_S p e below s₁ (mkF m 5 #[.val (.int p0), .val (.int v3), .unset, .unset] [(.int v3)]) t → own_S p e below s₁ (mkF m 3 #[.val (.int p0), .unset, .unset, .unset] [(.int v3)]) t := by
    intro t k
    show own_S p e below s₁ (mkF m 3 #[.val (.int p0), .unset, .unset, .unset] [(.int v3)]) _
    refine XS.istoreN X0.here hx rfl (hb hby at_3) rfl (l' := #[.val (.int p0), .val (.int v3), .unset, .unset]) rfl ?_
    show own_S p e below s₁ (mkF m 4 #[.val (.int p0), .val (.int v3), .unset, .unset] []) _
    refine XS.iloadN X0.here hx rfl (hb hby at_4) rfl ?_
    exact k
  refine own_by sg5 ?_
  by_cases hc5 : v3 = (0 : Int32)
  · have sg8 : ∀ t, own_S p e below s₁ (mkF m 8 #[.val (.int p0), .val (.int v3), .unset, .unset] []) t → own_S p e below s₁ (mkF m 5 #[.val (.int p0), .val (.int v3), .unset, .unset] [(.int v3)]) t := by
      intro t k
      show own_S p e below s₁ (mkF m 5 #[.val (.int p0), .val (.int v3), .unset, .unset] [(.int v3)]) _
      refine XS.ifNo X0.here hx rfl (hb hby at_5) rfl ((if0 _ _).trans (teq hc5).2) ?_
      exact k
    refine own_by sg8 ?_
    obtain ⟨T8, X8, e8, st8⟩ := getS2 X0 hx hZ hown (host := "") (Or.inl (hw _ (List.mem_of_getElem? (i := 0) rfl))) Via.refl e0 S_TEXT (g := (mkF m 8 #[.val (.int p0), .val (.int v3), .unset, .unset] [])) rfl (hb hby at_8)
    refine own_by st8 ?_
    have sg52 : ∀ t, own_S p e below T8 (mkF m 52 #[.val (.int p0), .val (.int v3), .val (.ref wTEXT), .val (.int (0 : Int32))] [(.ref wTEXT)]) t → own_S p e below T8 (mkF m 11 #[.val (.int p0), .val (.int v3), .unset, .unset] [(.ref wTEXT)]) t := by
      intro t k
      show own_S p e below T8 (mkF m 11 #[.val (.int p0), .val (.int v3), .unset, .unset] [(.ref wTEXT)]) _
      refine XS.astoreN X8.here hx rfl (hb hby at_11) rfl rfl (l' := #[.val (.int p0), .val (.int v3), .val (.ref wTEXT), .unset]) rfl ?_
      show own_S p e below T8 (mkF m 12 #[.val (.int p0), .val (.int v3), .val (.ref wTEXT), .unset] []) _
      refine XS.iconst X8.here hx rfl (hb hby at_12) ?_
      show own_S p e below T8 (mkF m 13 #[.val (.int p0), .val (.int v3), .val (.ref wTEXT), .unset] [(.int (0 : Int32))]) _
      refine XS.istoreN X8.here hx rfl (hb hby at_13) rfl (l' := #[.val (.int p0), .val (.int v3), .val (.ref wTEXT), .val (.int (0 : Int32))]) rfl ?_
      show own_S p e below T8 (mkF m 14 #[.val (.int p0), .val (.int v3), .val (.ref wTEXT), .val (.int (0 : Int32))] []) _
      refine XS.goto X8.here hx rfl (pc0 := 14) (pc' := 51) rfl (hb hby at_14) (by decide) (by decide) ?_
      show own_S p e below T8 (mkF m 51 #[.val (.int p0), .val (.int v3), .val (.ref wTEXT), .val (.int (0 : Int32))] []) _
      refine XS.aloadN X8.here hx rfl (hb hby at_51) rfl rfl ?_
      exact k
    refine own_by sg52 ?_
    obtain ⟨cq52, kq52, q52a, q52b, q52c⟩ := isOf hZ e8 E_TEXT
    obtain ⟨_, _, ⟨T52, L52, k52, n52⟩, -, X52, ⟨Lc52, hQ52, l52, y52, z52⟩, st52⟩ := X8.virtualBack hx (y := (⟨"com/example/catchment/catchment/Format", "byNode", "()Z"⟩ : MethodName)) (z := (⟨"com/example/catchment/catchment/Format", "byNode", "()Z"⟩ : MethodName)) hown (mvT hZ (hw _ (List.mem_of_getElem? (i := 3) rfl))) (mvT hZ (hw _ (List.mem_of_getElem? (i := 4) rfl))) (notFace_of_selects (args := #[]) (mvT hZ (hw _ (List.mem_of_getElem? (i := 6) rfl)))) (mvT hZ (hw _ (List.mem_of_getElem? (i := 6) rfl))) (mvT hZ (hw _ (List.mem_of_getElem? (i := 5) rfl))) (by decide) (backOf (W := 0) (rm1 l Z a0 hw [] wTEXT wCSV wGEOJSON h0 n0 Z0 S_CSV S_GEOJSON) hZ (hw _ (List.mem_of_getElem? (i := 7) rfl)) (hw _ (List.mem_of_getElem? (i := 1) rfl)) (by decide) (by decide)) q52a q52c (g := (mkF m 52 #[.val (.int p0), .val (.int v3), .val (.ref wTEXT), .val (.int (0 : Int32))] [(.ref wTEXT)])) rfl (by rw [hml]; rfl) (Steps.refl _) (argsL := []) (rest := []) (lenOf pd_0_0 rfl) rfl (by show 2 * 0 + _ ≤ _; exact Nat.le_of_eq rfl) (hb hby at_52) (fun _ _ => ⟨rfl, e8, (by decide : 0 + 0 ≤ _), (by decide : 0 + 0 ≤ _)⟩)
    dsimp only [Pt.U, Pt.locs, Pt.cells, Pt.slots] at X52 l52 y52 z52 st52 hQ52
    subst l52 y52 z52
    obtain ⟨rfl, N52q, hq52⟩ := hQ52
    have N52 := Fr.app N0 N52q
    obtain ⟨c52, hc52⟩ : ∃ z : Int32, z = (if wTEXT = wCSV then (1 : Int32) else if wTEXT = wGEOJSON then (1 : Int32) else (0 : Int32)) := ⟨_, rfl⟩
    rw [← hc52] at st52
    refine own_by (fun t k => st52.trans k) ?_
    have sg64 : ∀ t, own_S p e below T52 (mkF m 64 #[.val (.int p0), .val (.int v3), .val (.ref wTEXT), .val (.int (0 : Int32))] [(.int (1 : Int32))]) t → own_S p e below T52 (mkF m 55 #[.val (.int p0), .val (.int v3), .val (.ref wTEXT), .val (.int (0 : Int32))] [(.int c52)]) t := by
      intro t k
      show own_S p e below T52 (mkF m 55 #[.val (.int p0), .val (.int v3), .val (.ref wTEXT), .val (.int (0 : Int32))] [(.int c52)]) _
      refine XS.iloadN X52.here hx rfl (hb hby at_55) rfl ?_
      show own_S p e below T52 (mkF m 56 #[.val (.int p0), .val (.int v3), .val (.ref wTEXT), .val (.int (0 : Int32))] [(.int (0 : Int32)), (.int c52)]) _
      refine XS.icmpNo X52.here hx rfl (hb hby at_56) rfl (teq (by rw [hc52]; simp [ne_TC, ne_TG, ne_JC, ne_JG] : c52 = (0 : Int32))).2 ?_
      show own_S p e below T52 (mkF m 59 #[.val (.int p0), .val (.int v3), .val (.ref wTEXT), .val (.int (0 : Int32))] []) _
      refine XS.iconst X52.here hx rfl (hb hby at_59) ?_
      show own_S p e below T52 (mkF m 60 #[.val (.int p0), .val (.int v3), .val (.ref wTEXT), .val (.int (0 : Int32))] [(.int (1 : Int32))]) _
      refine XS.goto X52.here hx rfl (pc0 := 60) (pc' := 64) rfl (hb hby at_60) (by decide) (by decide) ?_
      exact k
    refine own_by sg64 ?_
    obtain ⟨fs, hr, hrun, hended, hW, hsame⟩ := X52.leave (v := some (.int (1 : Int32))) (fun h => by rw [Bd.returns] at h; cases h)
    refine ⟨_, _, ?_, hrun, hended, _, _, rfl, ?_, ⟨_, rfl⟩, hW, hsame.mono (by decide) (by decide)⟩
    · exact retN X52 hx (t := .boolean) Bd.returns (by simp) (hb hby at_64) hr
    · show Q0 Z p0 wTEXT wJSON wCSV wGEOJSON h0 n0 _ T52.heap _
      rw [hq52]
      exact ⟨rfl, N52⟩
  · have sg19 : ∀ t, own_S p e below s₁ (mkF m 19 #[.val (.int p0), .val (.int v3), .unset, .unset] [(.int (1 : Int32)), (.int v3)]) t → own_S p e below s₁ (mkF m 5 #[.val (.int p0), .val (.int v3), .unset, .unset] [(.int v3)]) t := by
      intro t k
      show own_S p e below s₁ (mkF m 5 #[.val (.int p0), .val (.int v3), .unset, .unset] [(.int v3)]) _
      refine XS.ifYes X0.here hx rfl (pc0 := 5) (pc' := 17) rfl (hb hby at_5) rfl ((if0 _ _).trans (feq hc5).2) (by decide) (by decide) ?_
      show own_S p e below s₁ (mkF m 17 #[.val (.int p0), .val (.int v3), .unset, .unset] []) _
      refine XS.iloadN X0.here hx rfl (hb hby at_17) rfl ?_
      show own_S p e below s₁ (mkF m 18 #[.val (.int p0), .val (.int v3), .unset, .unset] [(.int v3)]) _
      refine XS.iconst X0.here hx rfl (hb hby at_18) ?_
      exact k
    refine own_by sg19 ?_
    by_cases hc19 : v3 = (1 : Int32)
    · have sg22 : ∀ t, own_S p e below s₁ (mkF m 22 #[.val (.int p0), .val (.int v3), .unset, .unset] []) t → own_S p e below s₁ (mkF m 19 #[.val (.int p0), .val (.int v3), .unset, .unset] [(.int (1 : Int32)), (.int v3)]) t := by
        intro t k
        show own_S p e below s₁ (mkF m 19 #[.val (.int p0), .val (.int v3), .unset, .unset] [(.int (1 : Int32)), (.int v3)]) _
        refine XS.icmpNo X0.here hx rfl (hb hby at_19) rfl (teq hc19).2 ?_
        exact k
      refine own_by sg22 ?_
      obtain ⟨T22, X22, e22, st22⟩ := getS2 X0 hx hZ hown (host := "") (Or.inl (hw _ (List.mem_of_getElem? (i := 14) rfl))) Via.refl e0 S_JSON (g := (mkF m 22 #[.val (.int p0), .val (.int v3), .unset, .unset] [])) rfl (hb hby at_22)
      refine own_by st22 ?_
      have sg52 : ∀ t, own_S p e below T22 (mkF m 52 #[.val (.int p0), .val (.int v3), .val (.ref wJSON), .val (.int (0 : Int32))] [(.ref wJSON)]) t → own_S p e below T22 (mkF m 25 #[.val (.int p0), .val (.int v3), .unset, .unset] [(.ref wJSON)]) t := by
        intro t k
        show own_S p e below T22 (mkF m 25 #[.val (.int p0), .val (.int v3), .unset, .unset] [(.ref wJSON)]) _
        refine XS.astoreN X22.here hx rfl (hb hby at_25) rfl rfl (l' := #[.val (.int p0), .val (.int v3), .val (.ref wJSON), .unset]) rfl ?_
        show own_S p e below T22 (mkF m 26 #[.val (.int p0), .val (.int v3), .val (.ref wJSON), .unset] []) _
        refine XS.iconst X22.here hx rfl (hb hby at_26) ?_
        show own_S p e below T22 (mkF m 27 #[.val (.int p0), .val (.int v3), .val (.ref wJSON), .unset] [(.int (0 : Int32))]) _
        refine XS.istoreN X22.here hx rfl (hb hby at_27) rfl (l' := #[.val (.int p0), .val (.int v3), .val (.ref wJSON), .val (.int (0 : Int32))]) rfl ?_
        show own_S p e below T22 (mkF m 28 #[.val (.int p0), .val (.int v3), .val (.ref wJSON), .val (.int (0 : Int32))] []) _
        refine XS.goto X22.here hx rfl (pc0 := 28) (pc' := 51) rfl (hb hby at_28) (by decide) (by decide) ?_
        show own_S p e below T22 (mkF m 51 #[.val (.int p0), .val (.int v3), .val (.ref wJSON), .val (.int (0 : Int32))] []) _
        refine XS.aloadN X22.here hx rfl (hb hby at_51) rfl rfl ?_
        exact k
      refine own_by sg52 ?_
      obtain ⟨cq52, kq52, q52a, q52b, q52c⟩ := isOf hZ e22 E_JSON
      obtain ⟨_, _, ⟨T52, L52, k52, n52⟩, -, X52, ⟨Lc52, hQ52, l52, y52, z52⟩, st52⟩ := X22.virtualBack hx (y := (⟨"com/example/catchment/catchment/Format", "byNode", "()Z"⟩ : MethodName)) (z := (⟨"com/example/catchment/catchment/Format", "byNode", "()Z"⟩ : MethodName)) hown (mvT hZ (hw _ (List.mem_of_getElem? (i := 3) rfl))) (mvT hZ (hw _ (List.mem_of_getElem? (i := 4) rfl))) (notFace_of_selects (args := #[]) (mvT hZ (hw _ (List.mem_of_getElem? (i := 6) rfl)))) (mvT hZ (hw _ (List.mem_of_getElem? (i := 6) rfl))) (mvT hZ (hw _ (List.mem_of_getElem? (i := 5) rfl))) (by decide) (backOf (W := 0) (rm1 l Z a0 hw [] wJSON wCSV wGEOJSON h0 n0 Z0 S_CSV S_GEOJSON) hZ (hw _ (List.mem_of_getElem? (i := 7) rfl)) (hw _ (List.mem_of_getElem? (i := 1) rfl)) (by decide) (by decide)) q52a q52c (g := (mkF m 52 #[.val (.int p0), .val (.int v3), .val (.ref wJSON), .val (.int (0 : Int32))] [(.ref wJSON)])) rfl (by rw [hml]; rfl) (Steps.refl _) (argsL := []) (rest := []) (lenOf pd_0_0 rfl) rfl (by show 2 * 0 + _ ≤ _; exact Nat.le_of_eq rfl) (hb hby at_52) (fun _ _ => ⟨rfl, e22, (by decide : 0 + 0 ≤ _), (by decide : 0 + 0 ≤ _)⟩)
      dsimp only [Pt.U, Pt.locs, Pt.cells, Pt.slots] at X52 l52 y52 z52 st52 hQ52
      subst l52 y52 z52
      obtain ⟨rfl, N52q, hq52⟩ := hQ52
      have N52 := Fr.app N0 N52q
      obtain ⟨c52, hc52⟩ : ∃ z : Int32, z = (if wJSON = wCSV then (1 : Int32) else if wJSON = wGEOJSON then (1 : Int32) else (0 : Int32)) := ⟨_, rfl⟩
      rw [← hc52] at st52
      refine own_by (fun t k => st52.trans k) ?_
      have sg64 : ∀ t, own_S p e below T52 (mkF m 64 #[.val (.int p0), .val (.int v3), .val (.ref wJSON), .val (.int (0 : Int32))] [(.int (1 : Int32))]) t → own_S p e below T52 (mkF m 55 #[.val (.int p0), .val (.int v3), .val (.ref wJSON), .val (.int (0 : Int32))] [(.int c52)]) t := by
        intro t k
        show own_S p e below T52 (mkF m 55 #[.val (.int p0), .val (.int v3), .val (.ref wJSON), .val (.int (0 : Int32))] [(.int c52)]) _
        refine XS.iloadN X52.here hx rfl (hb hby at_55) rfl ?_
        show own_S p e below T52 (mkF m 56 #[.val (.int p0), .val (.int v3), .val (.ref wJSON), .val (.int (0 : Int32))] [(.int (0 : Int32)), (.int c52)]) _
        refine XS.icmpNo X52.here hx rfl (hb hby at_56) rfl (teq (by rw [hc52]; simp [ne_TC, ne_TG, ne_JC, ne_JG] : c52 = (0 : Int32))).2 ?_
        show own_S p e below T52 (mkF m 59 #[.val (.int p0), .val (.int v3), .val (.ref wJSON), .val (.int (0 : Int32))] []) _
        refine XS.iconst X52.here hx rfl (hb hby at_59) ?_
        show own_S p e below T52 (mkF m 60 #[.val (.int p0), .val (.int v3), .val (.ref wJSON), .val (.int (0 : Int32))] [(.int (1 : Int32))]) _
        refine XS.goto X52.here hx rfl (pc0 := 60) (pc' := 64) rfl (hb hby at_60) (by decide) (by decide) ?_
        exact k
      refine own_by sg64 ?_
      obtain ⟨fs, hr, hrun, hended, hW, hsame⟩ := X52.leave (v := some (.int (1 : Int32))) (fun h => by rw [Bd.returns] at h; cases h)
      refine ⟨_, _, ?_, hrun, hended, _, _, rfl, ?_, ⟨_, rfl⟩, hW, hsame.mono (by decide) (by decide)⟩
      · exact retN X52 hx (t := .boolean) Bd.returns (by simp) (hb hby at_64) hr
      · show Q0 Z p0 wTEXT wJSON wCSV wGEOJSON h0 n0 _ T52.heap _
        rw [hq52]
        exact ⟨rfl, N52⟩
    · have sg33 : ∀ t, own_S p e below s₁ (mkF m 33 #[.val (.int p0), .val (.int v3), .unset, .unset] [(.int (2 : Int32)), (.int v3)]) t → own_S p e below s₁ (mkF m 19 #[.val (.int p0), .val (.int v3), .unset, .unset] [(.int (1 : Int32)), (.int v3)]) t := by
        intro t k
        show own_S p e below s₁ (mkF m 19 #[.val (.int p0), .val (.int v3), .unset, .unset] [(.int (1 : Int32)), (.int v3)]) _
        refine XS.icmpYes X0.here hx rfl (pc0 := 19) (pc' := 31) rfl (hb hby at_19) rfl (feq hc19).2 (by decide) (by decide) ?_
        show own_S p e below s₁ (mkF m 31 #[.val (.int p0), .val (.int v3), .unset, .unset] []) _
        refine XS.iloadN X0.here hx rfl (hb hby at_31) rfl ?_
        show own_S p e below s₁ (mkF m 32 #[.val (.int p0), .val (.int v3), .unset, .unset] [(.int v3)]) _
        refine XS.iconst X0.here hx rfl (hb hby at_32) ?_
        exact k
      refine own_by sg33 ?_
      by_cases hc33 : v3 = (2 : Int32)
      · have sg36 : ∀ t, own_S p e below s₁ (mkF m 36 #[.val (.int p0), .val (.int v3), .unset, .unset] []) t → own_S p e below s₁ (mkF m 33 #[.val (.int p0), .val (.int v3), .unset, .unset] [(.int (2 : Int32)), (.int v3)]) t := by
          intro t k
          show own_S p e below s₁ (mkF m 33 #[.val (.int p0), .val (.int v3), .unset, .unset] [(.int (2 : Int32)), (.int v3)]) _
          refine XS.icmpNo X0.here hx rfl (hb hby at_33) rfl (teq hc33).2 ?_
          exact k
        refine own_by sg36 ?_
        obtain ⟨T36, X36, e36, st36⟩ := getS2 X0 hx hZ hown (host := "") (Or.inl (hw _ (List.mem_of_getElem? (i := 13) rfl))) Via.refl e0 S_CSV (g := (mkF m 36 #[.val (.int p0), .val (.int v3), .unset, .unset] [])) rfl (hb hby at_36)
        refine own_by st36 ?_
        have sg52 : ∀ t, own_S p e below T36 (mkF m 52 #[.val (.int p0), .val (.int v3), .val (.ref wCSV), .val (.int (1 : Int32))] [(.ref wCSV)]) t → own_S p e below T36 (mkF m 39 #[.val (.int p0), .val (.int v3), .unset, .unset] [(.ref wCSV)]) t := by
          intro t k
          show own_S p e below T36 (mkF m 39 #[.val (.int p0), .val (.int v3), .unset, .unset] [(.ref wCSV)]) _
          refine XS.astoreN X36.here hx rfl (hb hby at_39) rfl rfl (l' := #[.val (.int p0), .val (.int v3), .val (.ref wCSV), .unset]) rfl ?_
          show own_S p e below T36 (mkF m 40 #[.val (.int p0), .val (.int v3), .val (.ref wCSV), .unset] []) _
          refine XS.iconst X36.here hx rfl (hb hby at_40) ?_
          show own_S p e below T36 (mkF m 41 #[.val (.int p0), .val (.int v3), .val (.ref wCSV), .unset] [(.int (1 : Int32))]) _
          refine XS.istoreN X36.here hx rfl (hb hby at_41) rfl (l' := #[.val (.int p0), .val (.int v3), .val (.ref wCSV), .val (.int (1 : Int32))]) rfl ?_
          show own_S p e below T36 (mkF m 42 #[.val (.int p0), .val (.int v3), .val (.ref wCSV), .val (.int (1 : Int32))] []) _
          refine XS.goto X36.here hx rfl (pc0 := 42) (pc' := 51) rfl (hb hby at_42) (by decide) (by decide) ?_
          show own_S p e below T36 (mkF m 51 #[.val (.int p0), .val (.int v3), .val (.ref wCSV), .val (.int (1 : Int32))] []) _
          refine XS.aloadN X36.here hx rfl (hb hby at_51) rfl rfl ?_
          exact k
        refine own_by sg52 ?_
        obtain ⟨cq52, kq52, q52a, q52b, q52c⟩ := isOf hZ e36 E_CSV
        obtain ⟨_, _, ⟨T52, L52, k52, n52⟩, -, X52, ⟨Lc52, hQ52, l52, y52, z52⟩, st52⟩ := X36.virtualBack hx (y := (⟨"com/example/catchment/catchment/Format", "byNode", "()Z"⟩ : MethodName)) (z := (⟨"com/example/catchment/catchment/Format", "byNode", "()Z"⟩ : MethodName)) hown (mvT hZ (hw _ (List.mem_of_getElem? (i := 3) rfl))) (mvT hZ (hw _ (List.mem_of_getElem? (i := 4) rfl))) (notFace_of_selects (args := #[]) (mvT hZ (hw _ (List.mem_of_getElem? (i := 6) rfl)))) (mvT hZ (hw _ (List.mem_of_getElem? (i := 6) rfl))) (mvT hZ (hw _ (List.mem_of_getElem? (i := 5) rfl))) (by decide) (backOf (W := 0) (rm1 l Z a0 hw [] wCSV wCSV wGEOJSON h0 n0 Z0 S_CSV S_GEOJSON) hZ (hw _ (List.mem_of_getElem? (i := 7) rfl)) (hw _ (List.mem_of_getElem? (i := 1) rfl)) (by decide) (by decide)) q52a q52c (g := (mkF m 52 #[.val (.int p0), .val (.int v3), .val (.ref wCSV), .val (.int (1 : Int32))] [(.ref wCSV)])) rfl (by rw [hml]; rfl) (Steps.refl _) (argsL := []) (rest := []) (lenOf pd_0_0 rfl) rfl (by show 2 * 0 + _ ≤ _; exact Nat.le_of_eq rfl) (hb hby at_52) (fun _ _ => ⟨rfl, e36, (by decide : 0 + 0 ≤ _), (by decide : 0 + 0 ≤ _)⟩)
        dsimp only [Pt.U, Pt.locs, Pt.cells, Pt.slots] at X52 l52 y52 z52 st52 hQ52
        subst l52 y52 z52
        obtain ⟨rfl, N52q, hq52⟩ := hQ52
        have N52 := Fr.app N0 N52q
        obtain ⟨c52, hc52⟩ : ∃ z : Int32, z = (if wCSV = wCSV then (1 : Int32) else if wCSV = wGEOJSON then (1 : Int32) else (0 : Int32)) := ⟨_, rfl⟩
        rw [← hc52] at st52
        refine own_by (fun t k => st52.trans k) ?_
        have sg64 : ∀ t, own_S p e below T52 (mkF m 64 #[.val (.int p0), .val (.int v3), .val (.ref wCSV), .val (.int (1 : Int32))] [(.int (1 : Int32))]) t → own_S p e below T52 (mkF m 55 #[.val (.int p0), .val (.int v3), .val (.ref wCSV), .val (.int (1 : Int32))] [(.int c52)]) t := by
          intro t k
          show own_S p e below T52 (mkF m 55 #[.val (.int p0), .val (.int v3), .val (.ref wCSV), .val (.int (1 : Int32))] [(.int c52)]) _
          refine XS.iloadN X52.here hx rfl (hb hby at_55) rfl ?_
          show own_S p e below T52 (mkF m 56 #[.val (.int p0), .val (.int v3), .val (.ref wCSV), .val (.int (1 : Int32))] [(.int (1 : Int32)), (.int c52)]) _
          refine XS.icmpNo X52.here hx rfl (hb hby at_56) rfl (teq (by rw [hc52]; simp [ne_TC, ne_TG, ne_JC, ne_JG] : c52 = (1 : Int32))).2 ?_
          show own_S p e below T52 (mkF m 59 #[.val (.int p0), .val (.int v3), .val (.ref wCSV), .val (.int (1 : Int32))] []) _
          refine XS.iconst X52.here hx rfl (hb hby at_59) ?_
          show own_S p e below T52 (mkF m 60 #[.val (.int p0), .val (.int v3), .val (.ref wCSV), .val (.int (1 : Int32))] [(.int (1 : Int32))]) _
          refine XS.goto X52.here hx rfl (pc0 := 60) (pc' := 64) rfl (hb hby at_60) (by decide) (by decide) ?_
          exact k
        refine own_by sg64 ?_
        obtain ⟨fs, hr, hrun, hended, hW, hsame⟩ := X52.leave (v := some (.int (1 : Int32))) (fun h => by rw [Bd.returns] at h; cases h)
        refine ⟨_, _, ?_, hrun, hended, _, _, rfl, ?_, ⟨_, rfl⟩, hW, hsame.mono (by decide) (by decide)⟩
        · exact retN X52 hx (t := .boolean) Bd.returns (by simp) (hb hby at_64) hr
        · show Q0 Z p0 wTEXT wJSON wCSV wGEOJSON h0 n0 _ T52.heap _
          rw [hq52]
          exact ⟨rfl, N52⟩
      · have sg45 : ∀ t, own_S p e below s₁ (mkF m 45 #[.val (.int p0), .val (.int v3), .unset, .unset] []) t → own_S p e below s₁ (mkF m 33 #[.val (.int p0), .val (.int v3), .unset, .unset] [(.int (2 : Int32)), (.int v3)]) t := by
          intro t k
          show own_S p e below s₁ (mkF m 33 #[.val (.int p0), .val (.int v3), .unset, .unset] [(.int (2 : Int32)), (.int v3)]) _
          refine XS.icmpYes X0.here hx rfl (pc0 := 33) (pc' := 45) rfl (hb hby at_33) rfl (feq hc33).2 (by decide) (by decide) ?_
          exact k
        refine own_by sg45 ?_
        obtain ⟨T45, X45, e45, st45⟩ := getS2 X0 hx hZ hown (host := "") (Or.inl (hw _ (List.mem_of_getElem? (i := 12) rfl))) Via.refl e0 S_GEOJSON (g := (mkF m 45 #[.val (.int p0), .val (.int v3), .unset, .unset] [])) rfl (hb hby at_45)
        refine own_by st45 ?_
        have sg52 : ∀ t, own_S p e below T45 (mkF m 52 #[.val (.int p0), .val (.int v3), .val (.ref wGEOJSON), .val (.int (1 : Int32))] [(.ref wGEOJSON)]) t → own_S p e below T45 (mkF m 48 #[.val (.int p0), .val (.int v3), .unset, .unset] [(.ref wGEOJSON)]) t := by
          intro t k
          show own_S p e below T45 (mkF m 48 #[.val (.int p0), .val (.int v3), .unset, .unset] [(.ref wGEOJSON)]) _
          refine XS.astoreN X45.here hx rfl (hb hby at_48) rfl rfl (l' := #[.val (.int p0), .val (.int v3), .val (.ref wGEOJSON), .unset]) rfl ?_
          show own_S p e below T45 (mkF m 49 #[.val (.int p0), .val (.int v3), .val (.ref wGEOJSON), .unset] []) _
          refine XS.iconst X45.here hx rfl (hb hby at_49) ?_
          show own_S p e below T45 (mkF m 50 #[.val (.int p0), .val (.int v3), .val (.ref wGEOJSON), .unset] [(.int (1 : Int32))]) _
          refine XS.istoreN X45.here hx rfl (hb hby at_50) rfl (l' := #[.val (.int p0), .val (.int v3), .val (.ref wGEOJSON), .val (.int (1 : Int32))]) rfl ?_
          show own_S p e below T45 (mkF m 51 #[.val (.int p0), .val (.int v3), .val (.ref wGEOJSON), .val (.int (1 : Int32))] []) _
          refine XS.aloadN X45.here hx rfl (hb hby at_51) rfl rfl ?_
          exact k
        refine own_by sg52 ?_
        obtain ⟨cq52, kq52, q52a, q52b, q52c⟩ := isOf hZ e45 E_GEOJSON
        obtain ⟨_, _, ⟨T52, L52, k52, n52⟩, -, X52, ⟨Lc52, hQ52, l52, y52, z52⟩, st52⟩ := X45.virtualBack hx (y := (⟨"com/example/catchment/catchment/Format", "byNode", "()Z"⟩ : MethodName)) (z := (⟨"com/example/catchment/catchment/Format", "byNode", "()Z"⟩ : MethodName)) hown (mvT hZ (hw _ (List.mem_of_getElem? (i := 3) rfl))) (mvT hZ (hw _ (List.mem_of_getElem? (i := 4) rfl))) (notFace_of_selects (args := #[]) (mvT hZ (hw _ (List.mem_of_getElem? (i := 6) rfl)))) (mvT hZ (hw _ (List.mem_of_getElem? (i := 6) rfl))) (mvT hZ (hw _ (List.mem_of_getElem? (i := 5) rfl))) (by decide) (backOf (W := 0) (rm1 l Z a0 hw [] wGEOJSON wCSV wGEOJSON h0 n0 Z0 S_CSV S_GEOJSON) hZ (hw _ (List.mem_of_getElem? (i := 7) rfl)) (hw _ (List.mem_of_getElem? (i := 1) rfl)) (by decide) (by decide)) q52a q52c (g := (mkF m 52 #[.val (.int p0), .val (.int v3), .val (.ref wGEOJSON), .val (.int (1 : Int32))] [(.ref wGEOJSON)])) rfl (by rw [hml]; rfl) (Steps.refl _) (argsL := []) (rest := []) (lenOf pd_0_0 rfl) rfl (by show 2 * 0 + _ ≤ _; exact Nat.le_of_eq rfl) (hb hby at_52) (fun _ _ => ⟨rfl, e45, (by decide : 0 + 0 ≤ _), (by decide : 0 + 0 ≤ _)⟩)
        dsimp only [Pt.U, Pt.locs, Pt.cells, Pt.slots] at X52 l52 y52 z52 st52 hQ52
        subst l52 y52 z52
        obtain ⟨rfl, N52q, hq52⟩ := hQ52
        have N52 := Fr.app N0 N52q
        obtain ⟨c52, hc52⟩ : ∃ z : Int32, z = (if wGEOJSON = wCSV then (1 : Int32) else if wGEOJSON = wGEOJSON then (1 : Int32) else (0 : Int32)) := ⟨_, rfl⟩
        rw [← hc52] at st52
        refine own_by (fun t k => st52.trans k) ?_
        have sg64 : ∀ t, own_S p e below T52 (mkF m 64 #[.val (.int p0), .val (.int v3), .val (.ref wGEOJSON), .val (.int (1 : Int32))] [(.int (1 : Int32))]) t → own_S p e below T52 (mkF m 55 #[.val (.int p0), .val (.int v3), .val (.ref wGEOJSON), .val (.int (1 : Int32))] [(.int c52)]) t := by
          intro t k
          show own_S p e below T52 (mkF m 55 #[.val (.int p0), .val (.int v3), .val (.ref wGEOJSON), .val (.int (1 : Int32))] [(.int c52)]) _
          refine XS.iloadN X52.here hx rfl (hb hby at_55) rfl ?_
          show own_S p e below T52 (mkF m 56 #[.val (.int p0), .val (.int v3), .val (.ref wGEOJSON), .val (.int (1 : Int32))] [(.int (1 : Int32)), (.int c52)]) _
          refine XS.icmpNo X52.here hx rfl (hb hby at_56) rfl (teq (by rw [hc52]; simp [ne_TC, ne_TG, ne_JC, ne_JG] : c52 = (1 : Int32))).2 ?_
          show own_S p e below T52 (mkF m 59 #[.val (.int p0), .val (.int v3), .val (.ref wGEOJSON), .val (.int (1 : Int32))] []) _
          refine XS.iconst X52.here hx rfl (hb hby at_59) ?_
          show own_S p e below T52 (mkF m 60 #[.val (.int p0), .val (.int v3), .val (.ref wGEOJSON), .val (.int (1 : Int32))] [(.int (1 : Int32))]) _
          refine XS.goto X52.here hx rfl (pc0 := 60) (pc' := 64) rfl (hb hby at_60) (by decide) (by decide) ?_
          exact k
        refine own_by sg64 ?_
        obtain ⟨fs, hr, hrun, hended, hW, hsame⟩ := X52.leave (v := some (.int (1 : Int32))) (fun h => by rw [Bd.returns] at h; cases h)
        refine ⟨_, _, ?_, hrun, hended, _, _, rfl, ?_, ⟨_, rfl⟩, hW, hsame.mono (by decide) (by decide)⟩
        · exact retN X52 hx (t := .boolean) Bd.returns (by simp) (hb hby at_64) hr
        · show Q0 Z p0 wTEXT wJSON wCSV wGEOJSON h0 n0 _ T52.heap _
          rw [hq52]
          exact ⟨rfl, N52⟩
set_option maxRecDepth 65536 in
set_option maxHeartbeats 40000000 in
theorem comes_1 {Post : Tables → Env → Array Value → State → Outcome → State → Prop} (hpost : ∀ tb e args s v u, (limb_1_1.after args s (.returned v) u = true ∧ limb_1_2.after args s (.returned v) u = true ∧ True) → FrameEnd s (.returned v) u (Jvm.fieldLocs frame_1_writes args s ++ Jvm.arrayLocs frame_1_arrays args s ++ Jvm.staticLocs frame_1_statics s) 0 0 → Post tb e args s (.returned v) u) :
    ArmFor flags0 classFile x code maxLocals ret World_1 tables_1 room_1 Calls_1 rest_1 Pre_1 Post := by
  intro l hfl _ _ p e ha hc hk s m args below hf hA hF happ hP
  obtain ⟨hcalls, hrest, hpre⟩ := hP
  obtain ⟨-, -, -, hnamed, -, -, -, hat⟩ := (Spec.applies_iff hf).mp happ
  obtain ⟨hg, nn⟩ := and_e (Cond.before_iff.mp (show (Jvm.Cond.and given_1 narrow_1).before args s = true from hpre))
  obtain ⟨hh0, hh1⟩ := and_e hg
  obtain ⟨w0, rfl⟩ : ∃ w0 : Value, args = #[w0] := by
    have hs : args.size = 1 := by simpa [Cond.value, given_1] using hh0
    obtain ⟨L⟩ := args
    match L, hs with
    | [w0], _ => exact ⟨w0, rfl⟩
  have hw := fun d (hd : d ∈ tables_1) => atoms_spec (ws := Jvm.Cond.code x code maxLocals ret :: tables_1) hat d (List.mem_cons_of_mem _ hd)
  have hfit : Fit s := fun {y c} hc i hi => by
    obtain ⟨ha, rfl⟩ := Array.getElem?_eq_some_iff.mp hc
    have q := List.all_eq_true.mp ((Array.all_eq_true_iff_forall_mem.mp hF) _ (Array.getElem_mem ha)) i (List.mem_range.mpr hi)
    simpa [Array.getElem?_eq_getElem hi] using q
  obtain ⟨i0, ei0⟩ := is_v hh1
  obtain rfl : w0 = (.int i0) := Option.some.inj ei0
  obtain ⟨nn0, nn1⟩ := and_e nn
  obtain ⟨nn2, nn3⟩ := and_e nn1
  obtain ⟨nn4, nn5⟩ := and_e nn3
  obtain ⟨nn6, nn7⟩ := and_e nn5
  obtain ⟨nn8, nn9⟩ := and_e nn7
  obtain ⟨nn10, nn11⟩ := and_e nn9
  obtain ⟨nn12, nn13⟩ := and_e nn11
  obtain ⟨u_TEXT, ev_u_TEXT⟩ := exa_v nn0
  have Ex_u_TEXT := Exa.start ev_u_TEXT nn0
  have St_u_TEXT := Sta.start ev_u_TEXT (Or.inr ⟨(hw _ (List.mem_of_getElem? (i := 1) rfl)), (hw _ (List.mem_of_getElem? (i := 2) rfl))⟩)
  obtain ⟨u_CSV, ev_u_CSV⟩ := exa_v nn2
  have Ex_u_CSV := Exa.start ev_u_CSV nn2
  have St_u_CSV := Sta.start ev_u_CSV (Or.inr ⟨(hw _ (List.mem_of_getElem? (i := 1) rfl)), (hw _ (List.mem_of_getElem? (i := 9) rfl))⟩)
  obtain ⟨u_GEOJSON, ev_u_GEOJSON⟩ := exa_v nn8
  have Ex_u_GEOJSON := Exa.start ev_u_GEOJSON nn8
  have St_u_GEOJSON := Sta.start ev_u_GEOJSON (Or.inr ⟨(hw _ (List.mem_of_getElem? (i := 1) rfl)), (hw _ (List.mem_of_getElem? (i := 11) rfl))⟩)
  obtain ⟨u_JSON, ev_u_JSON⟩ := exa_v nn12
  have Ex_u_JSON := Exa.start ev_u_JSON nn12
  have St_u_JSON := Sta.start ev_u_JSON (Or.inr ⟨(hw _ (List.mem_of_getElem? (i := 1) rfl)), (hw _ (List.mem_of_getElem? (i := 15) rfl))⟩)
  have Fl_u_TEXT_ordinal := own_fld ev_u_TEXT nn4
  have Fl_u_CSV_ordinal := own_fld ev_u_CSV nn6
  have Fl_u_GEOJSON_ordinal := own_fld ev_u_GEOJSON nn10
  have Fl_u_JSON_ordinal := own_fld ev_u_JSON nn13
  obtain ⟨n, o, h1, h2, h3, _, L, rfl, ⟨rfl, N⟩, hq⟩ := rm0 l s _ hw tables_1 i0 u_TEXT u_JSON u_CSV u_GEOJSON s.heap s.heap.size (Nat.le_refl _) St_u_TEXT St_u_JSON St_u_CSV St_u_GEOJSON Ex_u_TEXT Ex_u_JSON Ex_u_CSV Ex_u_GEOJSON (Fld.ne Fl_u_TEXT_ordinal Fl_u_CSV_ordinal (by simp)) (Fld.ne Fl_u_TEXT_ordinal Fl_u_GEOJSON_ordinal (by simp)) (Fld.ne Fl_u_JSON_ordinal Fl_u_CSV_ordinal (by simp)) (Fld.ne Fl_u_JSON_ordinal Fl_u_GEOJSON_ordinal (by simp)) p e ha hc hk s m _ below hf ((Spec.applies_iff_loose hf).mp happ).1 ⟨rfl, State.Warmed39.refl s, rfl⟩ trivial
  refine ⟨n, _, h1, h2, h3, hpost _ _ _ _ _ _ ⟨Cond.after_iff.mpr rfl, Cond.after_iff.mpr (eq_i res_at (Term.int_eval (1)) rfl), trivial⟩ ⟨hq.1, hq.2.1, (hq.2.2.sift fun y hy => Or.inr (N y hy)).mono (by decide) (by decide)⟩⟩
theorem main_1_1 : Claimed_1_1 := comes_1 fun _ _ _ _ _ _ h hF => ⟨h.1, hF⟩
theorem main_1_2 : Claimed_1_2 := comes_1 fun _ _ _ _ _ _ h hF => ⟨h.2.1, hF⟩
end Jvm.Pilot.@@N@@
namespace Jvm.Pilot.@@N@@
open Jvm Jvm.ClassFile Sem Op Lib Jvm.Free Jvm.Stand Jvm.Pilot.@@N@@.Jvm.D
/-! MADE BY PROGRAM (witnessworld.py) out of the Statement's table words and the real class files: 12 classes; the members and pool entries that the words name. The judged class is class 1, her method 1. -/
namespace start1
open Jvm.ClassFile
def u (s : String) : CpInfo := .utf8 (stringToUtf16 s)
/-- a pool by its gaps: so many unusable entries, then the entry; so many at the end -/
def gap : Nat → List CpInfo → List CpInfo
  | 0, r => r
  | n + 1, r => .unusable :: gap n r
def poolList (es : List (Nat × CpInfo)) (last : Nat) : List CpInfo := es.foldr (fun e r => gap e.1 (e.2 :: r)) (gap last [])
def pool (es : List (Nat × CpInfo)) (last : Nat) : Array CpInfo := ⟨poolList es last⟩
def fileOf (pool : Array CpInfo) (this : Nat) (attrs : Array Attribute := #[]) (ms : Array MethodInfo := #[]) (fl : Nat := 33) (sup : Nat := 0) (ifs : Array Nat := #[]) (fds : Array FieldInfo := #[]) : ClassFile where
  minorVersion := 0
  majorVersion := 65
  constantPool := pool
  accessFlags := fl
  thisClass := this
  superClass := sup
  interfaces := ifs
  fields := fds
  methods := ms
  attributes := attrs
def plain (name : String) (sup : Option ClassId) : Class where
  name := name
  kind := .ordinary
  loader := none
  accessFlags := 33
  super := sup
  interfaces := #[]
  cf := none
  fields := #[]
  methods := #[]
  instanceTypes := #[]
  staticTypes := #[]
  resolved := #[]
  callSites := []
  init := .initialized
  statics := none
  mirror := none

def pool0 : Array CpInfo := pool [(5, u "<init>"), (0, u "()V"), (1, .class_ 10), (1, u "java/lang/Object")] 113

def k0m0 : Method := { name := "<init>", desc := "()V", sig := { parameters := [], returnType := none }, accessFlags := 1, code := none }
/-- java/lang/Object -/
def k0 : Class := { plain "java/lang/Object" none with
  accessFlags := 33
  interfaces := #[]
  cf := some (fileOf pool0 8 #[] #[{ accessFlags := 1, nameIndex := 5, descriptorIndex := 6, attributes := #[] }] 33 0 #[] #[])
  fields := #[]
  methods := #[k0m0]
  instanceTypes := #[]
  staticTypes := #[]
  resolved := Array.replicate 124 none
  statics := none }

def pool1 : Array CpInfo := pool [(2, .class_ 4), (1, u "java/lang/Object"), (0, u "<init>"), (0, u "()V"), (0, .fieldref 8 9), (0, .class_ 10), (0, .nameAndType 11 12), (0, u "com/example/catchment/catchment/Format"), (0, u "TEXT"), (0, u "Lcom/example/catchment/catchment/Format;"), (0, .fieldref 8 14), (0, .nameAndType 15 12), (0, u "JSON"), (0, .fieldref 8 17), (0, .nameAndType 18 12), (0, u "CSV"), (0, .fieldref 8 20), (0, .nameAndType 21 12), (0, u "GEOJSON"), (0, .methodref 8 23), (0, .nameAndType 24 25), (0, u "byNode"), (0, u "()Z"), (0, .class_ 27), (0, u "com/example/catchment/catchment/FormatByNodePinLaw"), (2, u "law"), (0, u "(I)Z")] 3

def k1m0 : Method := { name := "<init>", desc := "()V", sig := { parameters := [], returnType := none }, accessFlags := 1, code := none }
def k1c1 : Code := { maxStack := 2, maxLocals := 4, code := code, exceptionTable := #[], attributes := #[] }
def k1m1 : Method := { name := "law", desc := "(I)Z", sig := { parameters := [.int], returnType := some .boolean }, accessFlags := 9, code := some k1c1 }
/-- com/example/catchment/catchment/FormatByNodePinLaw -/
def k1 : Class := { plain "com/example/catchment/catchment/FormatByNodePinLaw" (some 0) with
  accessFlags := 49
  interfaces := #[]
  cf := some (fileOf pool1 26 #[] #[{ accessFlags := 1, nameIndex := 5, descriptorIndex := 6, attributes := #[] }, { accessFlags := 9, nameIndex := 30, descriptorIndex := 31, attributes := #[] }] 49 2 #[] #[])
  fields := #[]
  methods := #[k1m0, k1m1]
  instanceTypes := #[]
  staticTypes := #[]
  resolved := Array.replicate 35 none
  statics := none }

def pool2 : Array CpInfo := pool [(1, .class_ 2), (0, u "java/lang/constant/Constable"), (0, .class_ 4), (0, u "java/lang/Object")] 6

/-- java/lang/constant/Constable -/
def k2 : Class := { plain "java/lang/constant/Constable" (some 0) with
  accessFlags := 1537
  interfaces := #[]
  cf := some (fileOf pool2 1 #[] #[] 1537 3 #[] #[])
  fields := #[]
  methods := #[]
  instanceTypes := #[]
  staticTypes := #[]
  resolved := Array.replicate 11 none
  statics := none }

def pool3 : Array CpInfo := pool [(1, .class_ 2), (0, u "java/lang/Comparable"), (0, .class_ 4), (0, u "java/lang/Object")] 7

/-- java/lang/Comparable -/
def k3 : Class := { plain "java/lang/Comparable" (some 0) with
  accessFlags := 1537
  interfaces := #[]
  cf := some (fileOf pool3 1 #[] #[] 1537 3 #[] #[])
  fields := #[]
  methods := #[]
  instanceTypes := #[]
  staticTypes := #[]
  resolved := Array.replicate 12 none
  statics := none }

def pool4 : Array CpInfo := pool [(1, .class_ 2), (0, u "java/io/Serializable"), (0, .class_ 4), (0, u "java/lang/Object")] 2

/-- java/io/Serializable -/
def k4 : Class := { plain "java/io/Serializable" (some 0) with
  accessFlags := 1537
  interfaces := #[]
  cf := some (fileOf pool4 1 #[] #[] 1537 3 #[] #[])
  fields := #[]
  methods := #[]
  instanceTypes := #[]
  staticTypes := #[]
  resolved := Array.replicate 7 none
  statics := none }

def pool5 : Array CpInfo := pool [(2, .class_ 4), (1, u "java/lang/Enum"), (0, u "name"), (0, u "Ljava/lang/String;"), (2, u "ordinal"), (0, u "I"), (1, .class_ 14), (1, u "java/lang/Object"), (4, u "hash"), (86, .class_ 108), (1, u "java/lang/Enum$EnumDesc"), (2, .class_ 112), (0, u "java/lang/constant/Constable"), (0, .class_ 114), (0, u "java/lang/Comparable"), (0, .class_ 116), (0, u "java/io/Serializable")] 87

/-- java/lang/Enum -/
def k5 : Class := { plain "java/lang/Enum" (some 0) with
  accessFlags := 1057
  interfaces := #[2, 3, 4]
  cf := some (fileOf pool5 2 #[.nestMembers #[106]] #[] 1057 12 #[111, 113, 115] #[{ accessFlags := 18, nameIndex := 5, descriptorIndex := 6, attributes := #[] }, { accessFlags := 18, nameIndex := 9, descriptorIndex := 10, attributes := #[] }, { accessFlags := 2, nameIndex := 19, descriptorIndex := 10, attributes := #[] }])
  fields := #[{ name := "name", type := (.object "java/lang/String"), accessFlags := 18, slot := 0, constantValue := 0 }, { name := "ordinal", type := .int, accessFlags := 18, slot := 1, constantValue := 0 }, { name := "hash", type := .int, accessFlags := 2, slot := 2, constantValue := 0 }]
  methods := #[]
  instanceTypes := #[(.object "java/lang/String"), .int, .int]
  staticTypes := #[]
  resolved := Array.replicate 204 none
  statics := none }

def pool6 : Array CpInfo := pool [(1, .class_ 2), (0, u "com/example/catchment/catchment/Format"), (2, u "TEXT"), (0, u "Lcom/example/catchment/catchment/Format;"), (2, u "JSON"), (0, .fieldref 1 11), (0, .nameAndType 12 6), (0, u "CSV"), (0, .fieldref 1 14), (0, .nameAndType 15 6), (0, u "GEOJSON"), (2, u "$VALUES"), (0, u "[Lcom/example/catchment/catchment/Format;"), (6, .class_ 28), (1, u "java/lang/Enum"), (22, u "byNode"), (0, u "()Z")] 5

def k6c0 : Code := { maxStack := 2, maxLocals := 1, code := prog_17_method_4_code, exceptionTable := #[], attributes := #[] }
def k6m0 : Method := { name := "byNode", desc := "()Z", sig := { parameters := [], returnType := some .boolean }, accessFlags := 0, code := some k6c0 }
/-- com/example/catchment/catchment/Format -/
def k6 : Class := { plain "com/example/catchment/catchment/Format" (some 5) with
  accessFlags := 16432
  interfaces := #[]
  cf := some (fileOf pool6 1 #[] #[{ accessFlags := 0, nameIndex := 51, descriptorIndex := 52, attributes := #[] }] 16432 26 #[] #[{ accessFlags := 16409, nameIndex := 5, descriptorIndex := 6, attributes := #[] }, { accessFlags := 16409, nameIndex := 9, descriptorIndex := 6, attributes := #[] }, { accessFlags := 16409, nameIndex := 12, descriptorIndex := 6, attributes := #[] }, { accessFlags := 16409, nameIndex := 15, descriptorIndex := 6, attributes := #[] }, { accessFlags := 4122, nameIndex := 18, descriptorIndex := 19, attributes := #[] }])
  fields := #[{ name := "TEXT", type := (.object "com/example/catchment/catchment/Format"), accessFlags := 16409, slot := 0, constantValue := 0 }, { name := "JSON", type := (.object "com/example/catchment/catchment/Format"), accessFlags := 16409, slot := 1, constantValue := 0 }, { name := "CSV", type := (.object "com/example/catchment/catchment/Format"), accessFlags := 16409, slot := 2, constantValue := 0 }, { name := "GEOJSON", type := (.object "com/example/catchment/catchment/Format"), accessFlags := 16409, slot := 3, constantValue := 0 }, { name := "$VALUES", type := (.array (.object "com/example/catchment/catchment/Format")), accessFlags := 4122, slot := 4, constantValue := 0 }]
  methods := #[k6m0]
  instanceTypes := #[(.object "java/lang/String"), .int, .int]
  staticTypes := #[(.object "com/example/catchment/catchment/Format"), (.object "com/example/catchment/catchment/Format"), (.object "com/example/catchment/catchment/Format"), (.object "com/example/catchment/catchment/Format"), (.array (.object "com/example/catchment/catchment/Format"))]
  resolved := Array.replicate 58 none
  statics := some 0 }

def pool7 : Array CpInfo := pool [(1, u "java/lang/Cloneable"), (0, .class_ 1), (0, u "java/lang/Object"), (0, .class_ 3)] 3

/-- java/lang/Cloneable -/
def k7 : Class := { plain "java/lang/Cloneable" (some 0) with
  accessFlags := 1537
  interfaces := #[]
  cf := some (fileOf pool7 2 #[] #[] 1537 4 #[] #[])
  fields := #[]
  methods := #[]
  instanceTypes := #[]
  staticTypes := #[]
  resolved := Array.replicate 8 none
  statics := none }

/-- the primitive byte -/
def k8 : Class := { plain "byte" none with kind := .primitive 'B', accessFlags := 0x411 }
/-- [B -/
def k9 : Class := { plain "[B" (some 0) with kind := .array 8 .byte, interfaces := #[7, 4], accessFlags := 1041 }

/-- the primitive int -/
def k10 : Class := { plain "int" none with kind := .primitive 'I', accessFlags := 0x411 }
/-- [I -/
def k11 : Class := { plain "[I" (some 0) with kind := .array 10 .int, interfaces := #[7, 4], accessFlags := 1041 }

def heap : Heap := #[{ cls := 6, slots := #[.ref 1, .ref 2, .ref 3, .ref 4, .null], vm := .statics 6 },
  { cls := 6, slots := #[.null, .int 0, .int 0], vm := .none },
  { cls := 6, slots := #[.null, .int 1, .int 0], vm := .none },
  { cls := 6, slots := #[.null, .int 2, .int 0], vm := .none },
  { cls := 6, slots := #[.null, .int 3, .int 0], vm := .none }]
def classes : Array Class := #[k0, k1, k2, k3, k4, k5, k6, k7, k8, k9, k10, k11]
def interned : List (Array UInt16 × Addr) := []
def slotsUsed : Nat := 17
def theMethod : MethodId := ⟨1, 1⟩
def args0 : Array Value := #[.int 5]
def aboutOver (below : List Frame) : State where
  vm := { classes := classes, interned := interned.toArray }
  heap := heap
  slotsUsed := slotsUsed
  threads := #[{ frames := .invoking theMethod args0 :: below }]
def below0 : List Frame := [.native { method := ⟨0, 0⟩, args := #[] }]
def about1 : State := aboutOver below0
def p0 : Program := .bare "" "" ""
def e0 : Env := launch0.env 0 0 0
theorem w_frames : about1.frames = Frame.invoking theMethod args0 :: below0 := rfl
set_option maxRecDepth 65536 in
theorem w_args : argsFit about1.vm theMethod args0 = true := by decide +kernel
set_option maxRecDepth 65536 in
theorem w_heap : heapFits about1 = true := by decide +kernel
set_option maxRecDepth 65536 in
theorem w_runnable : about1.curStatus? = some .runnable := by decide +kernel
set_option maxRecDepth 65536 in
theorem w_alone : about1.alone = true := by decide +kernel
set_option maxRecDepth 65536 in
theorem w_named : about1.methodNamed? x = some theMethod := by decide +kernel
set_option maxRecDepth 65536 in
theorem w_hears : about1.hears theMethod below0 = true := by decide +kernel
set_option maxRecDepth 65536 in
theorem w_ripe : about1.ripe theMethod args0 below0 = true := by decide +kernel
theorem w_running : about1.status = .running := rfl
set_option maxRecDepth 65536 in
theorem w_room : about1.hasRoom e0.platform room_1 = true :=
  launch0.hasRoom_least _ room_1 (by decide +kernel) (by decide +kernel) (by decide +kernel) (by decide +kernel) (by decide +kernel) (by decide +kernel)
theorem allAtoms_all (ts : List Jvm.Cond) (a : Array Jvm.Value) (st : Jvm.State) : (allAtoms ts).before a st = ts.all (fun c => c.before a st) := by
  induction ts with
  | nil => rfl
  | cons c t ih =>
    show (Jvm.Cond.and c (allAtoms t)).before a st = _
    rw [Jvm.Cond.before_and, ih, List.all_cons]
def words1 : List Jvm.Cond := Jvm.Cond.code x code maxLocals ret :: tables_1
/-- a 'code' word, met by the world's own term for the bytes: nothing is compared byte by byte -/
theorem code_word {y : MethodName} {bytes : ByteArray} {mx : Nat} {rt : Option FieldType} {a : Array Value} {s : State} {m : MethodId} {meth : Method} {c : Code} (h1 : s.methodNamed? y = some m) (h2 : s.vm.method? m = some meth) (h3 : meth.code = some c) (h4 : c.code = bytes)
    (h5 : (c.maxLocals == mx && c.exceptionTable.isEmpty && decide (c.maxStack ≤ mostOperands) && decide (meth.sig.returnType = rt) && !meth.locks && decide (parseMethodDescriptor y.desc = some meth.sig)) = true) : (Jvm.Cond.code y bytes mx rt).before a s = true := by
  simp only [Bool.and_eq_true, beq_iff_eq, Bool.not_eq_true', decide_eq_true_eq] at h5
  obtain ⟨⟨⟨⟨⟨g1, g2⟩, g3⟩, g4⟩, g5⟩, g6⟩ := h5
  simp [Cond.before, Cond.holds, Cond.value, h1, h2, h3, h4, g1, g2, g3, g4, g5, g6]
def isCode : Jvm.Cond → Bool
  | .code _ _ _ _ => true
  | _ => false
theorem all_split {L : List Jvm.Cond} {P : Jvm.Cond → Bool} (h1 : L.all (fun c => isCode c || P c) = true) (h2 : ∀ c ∈ L.filter isCode, P c = true) : L.all P = true := by
  refine List.all_eq_true.mpr fun c hc => ?_
  have h := List.all_eq_true.mp h1 c hc
  rcases Bool.eq_false_or_eq_true (isCode c) with hi | hi
  · exact h2 c (List.mem_filter.mpr ⟨hc, hi⟩)
  · simpa [hi] using h
set_option maxRecDepth 65536 in
theorem w_c0 : (Jvm.Cond.code x code maxLocals ret).before args0 about1 = true := code_word (m := ⟨1, 1⟩) (meth := k1m1) (c := k1c1) (by decide +kernel) rfl rfl rfl (by decide +kernel)
set_option maxRecDepth 65536 in
theorem w_c1 : (Jvm.Cond.code ({ cls := "com/example/catchment/catchment/Format", name := "byNode", desc := "()Z" } : Jvm.MethodName) prog_17_method_4_code (1 : Nat) (Option.some Jvm.ClassFile.FieldType.boolean)).before args0 about1 = true := code_word (m := ⟨6, 0⟩) (meth := k6m0) (c := k6c0) (by decide +kernel) rfl rfl rfl (by decide +kernel)
def codes1 : List Jvm.Cond := [Jvm.Cond.code x code maxLocals ret, Jvm.Cond.code ({ cls := "com/example/catchment/catchment/Format", name := "byNode", desc := "()Z" } : Jvm.MethodName) prog_17_method_4_code (1 : Nat) (Option.some Jvm.ClassFile.FieldType.boolean)]
set_option maxRecDepth 65536 in
theorem codes_eq : words1.filter isCode = codes1 := rfl
theorem w_codes : ∀ c ∈ words1.filter isCode, c.before args0 about1 = true := by
  rw [codes_eq]
  intro c hc
  simp only [codes1, List.mem_cons, List.not_mem_nil, or_false] at hc
  rcases hc with rfl | rfl
  · exact w_c0
  · exact w_c1
set_option maxRecDepth 65536 in
theorem w_t1 : words1.all (fun c => isCode c || c.before args0 about1) = true := by decide +kernel
theorem w_tables : (allAtoms (Jvm.Cond.code x code maxLocals ret :: tables_1)).before args0 about1 = true := by
  rw [allAtoms_all]
  show words1.all (fun c => c.before args0 about1) = true
  refine all_split ?_ w_codes
  rw [w_t1]
set_option maxRecDepth 65536 in
theorem w_case : (Jvm.Cond.and given_1 narrow_1).before args0 about1 = true := by decide +kernel
theorem w_applies : (headSpec (Jvm.Cond.code x code maxLocals ret :: tables_1) room_1).applies x e0.platform about1 = true :=
  (Spec.applies_iff w_frames).mpr ⟨w_running, w_runnable, w_alone, w_named, w_hears, w_ripe, w_room, w_tables⟩
theorem atStart : AtStart classFile x code maxLocals ret World_1 tables_1 room_1 Calls_1 rest_1 Pre_1 launch0 p0 e0 about1 theMethod args0 below0 :=
  ⟨lists_1, trivial, launch0.admits_env _ _ _, launch0.least_env, fairChoices_fair.cas, fairChoices_fair.clock, w_frames, w_args, w_heap, w_applies, trivial, trivial, w_case⟩
end start1
theorem witness_1 : WitnessClaimed_1 := ⟨start1.p0, start1.e0, start1.about1, start1.theMethod, start1.args0, start1.below0, start1.atStart⟩
end Jvm.Pilot.@@N@@
