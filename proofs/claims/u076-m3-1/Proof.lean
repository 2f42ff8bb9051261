import JvmDerived
import JvmDerived.Pilot.@@N@@Statement
import JvmDerived.Pilot.@@N@@Code
set_option linter.unusedVariables false
set_option linter.unusedSimpArgs false
namespace Jvm.RoadKit
open Sem ClassFile Op Lib Jvm.Stand Jvm.Free Jvm.LawKit
section New
variable {p : Program} {l : Launch} {e : Env} {R : Room} {s : State} {m : MethodId} {args : Array Value} {below : List Frame} {meth : Method} {c : Code} {T : State} {locs : List Loc} {cells slots : Nat}
theorem retI (X : Stand p l e R s m args below meth c T locs cells slots) (hx : p.tables.exec = Jvm.exec) {pc : Nat} {Ls : Array Slot} {z : Int32} {rest : List Value} (hret : meth.sig.returnType = some .int) (hd : decode c.code pc = .ok (.ireturn, 1)) {fs : List Frame}
    (hl : ∀ (f : JFrame) (acts : List Action), f.method = m → f.locked = none → f.entered = [] → (doReturn e (T.setTop f) acts (some (.int z))).1 = T.setFrames fs) : Steps p.tables e below (T.setTop (mkF m pc Ls (.int z :: rest))) (T.setFrames fs) := by
  have hm' : T.vm.method? m = some meth := X.method'
  have hn : narrow .int (.int z) = .int z := rfl
  show Steps p.tables e below (T.setTop { method := m, pc := pc, locals := Ls, stack := _ :: rest, locked := none }) _
  jvm_step X.here [X.here.top, hx, hd, hm', hret, hn]
  first | (intro acts; rw [hl _ acts rfl rfl rfl]) | rw [hl _ _ rfl rfl rfl]
  exact Steps.refl _
end New
end Jvm.RoadKit
/- laws to paste: Road.backV, Road.eqW, Road.codOf (cut by pick.py; bodies as the Statement names them) -/
namespace Jvm.Pilot.@@N@@
namespace StrChars
open Jvm Sem ClassFile Op Lib Jvm.Stand Jvm.Free.XT Jvm.Free.ALB Jvm.Free.JM Jvm.Free
open Jvm.Lib.Cold (StaticIs)
/-- a char array whose places are chars -/
def Ch (a : Addr) (A : Cell) (U : State) : Prop := Arr .char a A U ∧ Typed .char A
theorem Ch.mv {a : Addr} {A : Cell} {U U' : State} (h : Ch a A U) (hal : U.vm.Alike U'.vm) (hh : U'.heap = U.heap) : Ch a A U' := ⟨h.1.mv hal hh, h.2⟩
theorem Ch.keep {a : Addr} {A : Cell} {U U' : State} (h : Ch a A U) (hal : U.vm.Alike U'.vm) (hk : U'.heap[a]? = some A) : Ch a A U' := ⟨h.1.keep hal hk, h.2⟩
/-- what place i of a char[]'s cell holds -/
def cv (A : Cell) (i : Nat) : Int32 := match A.slots[i]? with | some (.int x) => x | _ => 0
theorem Ch.get {a : Addr} {A : Cell} {U : State} (h : Ch a A U) {i : Nat} (hi : i < A.slots.size) : A.slots[i]? = some (.int (cv A i)) := by
  have e := Array.getElem?_eq_getElem hi
  have f := h.2 i _ e
  unfold cv; rw [e]
  generalize A.slots[i] = v at f
  cases v <;> simp [fits] at f ⊢
/-- the byte that i2b leaves of a char -/
def lo8 (x : Int32) : Int32 := x.toInt8.toInt32
theorem fits_lo8 (y : Int32) : fits .byte (.int (lo8 y)) = true := by
  have h1 := y.toInt8.le_toInt
  have h2 := y.toInt8.toInt_lt
  simp only [lo8, fits, Bool.and_eq_true, decide_eq_true_eq, Int32.le_iff_toInt_le, Int8.toInt_toInt32, show (-128 : Int32).toInt = -128 from by decide, show (127 : Int32).toInt = 127 from by decide]
  omega
/-- A' is A but that each place j of lo .. hi - 1 holds f j -/
def Laid (A A' : Cell) (lo hi : Nat) (f : Nat → Value) : Prop := A'.cls = A.cls ∧ A'.vm = A.vm ∧ A'.slots.size = A.slots.size ∧ ∀ i, A'.slots[i]? = if lo ≤ i ∧ i < hi then some (f i) else A.slots[i]?
theorem Laid.zero (A : Cell) (lo : Nat) (f : Nat → Value) : Laid A A lo (lo + 0) f := ⟨rfl, rfl, rfl, fun i => by rw [if_neg (by omega)]⟩
theorem Laid.step {A Ak : Cell} {lo k : Nat} {f : Nat → Value} {v : Value} (h : Laid A Ak lo k f) (hlo : lo ≤ k) (hk : k < Ak.slots.size) (hv : v = f k) : Laid A (Ak.setSlot k v) lo (k + 1) f := by
  refine ⟨h.1, h.2.1, by simpa [Cell.setSlot] using h.2.2.1, fun i => ?_⟩
  by_cases e : k = i
  · subst e; rw [Cell.slots_setSlot_self v hk, if_pos (by omega), hv]
  · rw [Cell.slots_setSlot_ne v e, h.2.2.2 i]
    by_cases q : lo ≤ i ∧ i < k
    · rw [if_pos q, if_pos (by omega)]
    · rw [if_neg q, if_neg (by omega)]
def U16 : String := "java/lang/StringUTF16"
namespace Cmp5
def yN : MethodName := ⟨"java/lang/StringUTF16", "compress", "([CI[BII)I"⟩
abbrev yB : ByteArray := jdk_52_method_21_code
theorem d0 : decode yB 0 = .ok (.iconst 0, 1) := by decide +kernel
theorem d1 : decode yB 1 = .ok (.istore 5, 2) := by decide +kernel
theorem d3 : decode yB 3 = .ok (.iload 5, 2) := by decide +kernel
theorem d5 : decode yB 5 = .ok (.iload 4, 2) := by decide +kernel
theorem d7 : decode yB 7 = .ok (.if_icmp (.ge) 37, 3) := by decide +kernel
theorem d10 : decode yB 10 = .ok (.aload_n 0, 1) := by decide +kernel
theorem d11 : decode yB 11 = .ok (.iload_n 1, 1) := by decide +kernel
theorem d12 : decode yB 12 = .ok (.caload, 1) := by decide +kernel
theorem d13 : decode yB 13 = .ok (.istore 6, 2) := by decide +kernel
theorem d15 : decode yB 15 = .ok (.iload 6, 2) := by decide +kernel
theorem d17 : decode yB 17 = .ok (.sipush 255, 3) := by decide +kernel
theorem d20 : decode yB 20 = .ok (.if_icmp (.le) 6, 3) := by decide +kernel
theorem d26 : decode yB 26 = .ok (.aload_n 2, 1) := by decide +kernel
theorem d27 : decode yB 27 = .ok (.iload_n 3, 1) := by decide +kernel
theorem d28 : decode yB 28 = .ok (.iload 6, 2) := by decide +kernel
theorem d30 : decode yB 30 = .ok (.i2b, 1) := by decide +kernel
theorem d31 : decode yB 31 = .ok (.bastore, 1) := by decide +kernel
theorem d32 : decode yB 32 = .ok (.iinc 1 1, 3) := by decide +kernel
theorem d35 : decode yB 35 = .ok (.iinc 3 1, 3) := by decide +kernel
theorem d38 : decode yB 38 = .ok (.iinc 5 1, 3) := by decide +kernel
theorem d41 : decode yB 41 = .ok (.goto (-38), 3) := by decide +kernel
theorem d44 : decode yB 44 = .ok (.iload 4, 2) := by decide +kernel
theorem d46 : decode yB 46 = .ok (.ireturn, 1) := by decide +kernel
def site : List Cond := []
def tab : Cond := tabOf yN yB 7 (some .int) site
def P (b : Addr) (A : Cell) (d : Addr) (B : Cell) (o q len : Nat) (args : Array Value) (s : State) : Prop := args = #[.ref b, .int (Int32.ofNat o), .ref d, .int (Int32.ofNat q), .int (Int32.ofNat len)] ∧ Ch b A s ∧ Arr .byte d B s ∧ b ≠ d ∧ o + len ≤ A.slots.size ∧ q + len ≤ B.slots.size ∧ ∀ i, i < len → ¬ 255 < cv A (o + i)
def E (b : Addr) (A : Cell) (d : Addr) (B : Cell) (o q len : Nat) (r : Option Value) (s u : State) : Prop := r = some (.int (Int32.ofNat len)) ∧ ∃ B', Put d B' s u ∧ Laid B B' q (q + len) (fun j => Value.int (lo8 (cv A (o + (j - q)))))
/-- no char of the range above 255: len; the places written hold each char's low byte -/
theorem law (l : Launch) (b : Addr) (A : Cell) (d : Addr) (B : Cell) (o q len : Nat) : Law l yN 5 5 0 0 yB 7 (some .int) site (P b A d B o q len) (E b A d B o q len) (copyLocs d q len) 0 0 := by
  refine Law.of_walk (plainFor_of_name (by decide +kernel)) (by decide +kernel) (by decide +kernel) (by decide) (fun _ _ h => by rw [h.1]; rfl) (fun _ U U' hal hh h => ⟨h.1, h.2.1.mv hal hh, h.2.2.1.mv hal hh, h.2.2.2⟩) (fun r U U' V V' h1 hal h2 h => ⟨h.1, h.2.elim fun B' q => ⟨B', q.1.mv h1 h2, q.2⟩⟩) ?_
  intro p e s m args below meth c s₁ X0 hexec hbytes hml hret hlk hnm hown hh0 W hP
  obtain ⟨rfl, hA, hB, hne, l1, l2, hp⟩ := hP
  have c1 : Steps p.tables e below (s₁.setTop (entryFrame m #[.ref b, .int (Int32.ofNat o), .ref d, .int (Int32.ofNat q), .int (Int32.ofNat len)] 7)) (s₁.setTop (mkF m 0 #[.val (.ref b), .val (.int (Int32.ofNat o)), .val (.ref d), .val (.int (Int32.ofNat q)), .val (.int (Int32.ofNat len)), .unset, .unset] [])) := entry rfl
  have hA0 := hA.1.mv X0.warmed.alike hh0
  have hB0 := hB.mv X0.warmed.alike hh0
  have a31 := hA.1.2.2.2
  have c2 : Steps p.tables e below (s₁.setTop (entryFrame m #[.ref b, .int (Int32.ofNat o), .ref d, .int (Int32.ofNat q), .int (Int32.ofNat len)] 7)) (s₁.setTop (mkF m 3 #[.val (.ref b), .val (.int (Int32.ofNat o)), .val (.ref d), .val (.int (Int32.ofNat q)), .val (.int (Int32.ofNat len)), .val (.int 0), .unset] [])) := c1.trans (by
    refine iconstV X0.here hexec rfl 0 (hb hbytes d0) (by decide) ?_
    refine XS.istore X0.here hexec rfl (hb hbytes d1) rfl rfl ?_
    exact Steps.refl _)
  have loop : ∀ (r i : Nat), i + r = len → ∀ (z : Slot), (z = .unset ∨ ∃ w, z = .val w ∧ w.category = 1) → ∀ (Tl : State) (Bk : Cell), Stand p l e { frames := 0, locals := 0, cells := 0, slots := 0 } s m #[.ref b, .int (Int32.ofNat o), .ref d, .int (Int32.ofNat q), .int (Int32.ofNat len)] below meth c Tl ([] ++ copyLocs d q i) 0 0 → Put d Bk s₁ Tl → Laid B Bk q (q + i) (fun j => Value.int (lo8 (cv A (o + (j - q))))) →
      Steps p.tables e below (s₁.setTop (entryFrame m #[.ref b, .int (Int32.ofNat o), .ref d, .int (Int32.ofNat q), .int (Int32.ofNat len)] 7)) (Tl.setTop (mkF m 3 #[.val (.ref b), .val (.int (Int32.ofNat (o + i))), .val (.ref d), .val (.int (Int32.ofNat (q + i))), .val (.int (Int32.ofNat len)), .val (.int (Int32.ofNat i)), z] [])) → ∃ (T' : State) (B' : Cell) (z' : Slot), Stand p l e { frames := 0, locals := 0, cells := 0, slots := 0 } s m #[.ref b, .int (Int32.ofNat o), .ref d, .int (Int32.ofNat q), .int (Int32.ofNat len)] below meth c T' ([] ++ copyLocs d q len) 0 0 ∧ Put d B' s₁ T' ∧ Laid B B' q (q + len) (fun j => Value.int (lo8 (cv A (o + (j - q))))) ∧
      Steps p.tables e below (s₁.setTop (entryFrame m #[.ref b, .int (Int32.ofNat o), .ref d, .int (Int32.ofNat q), .int (Int32.ofNat len)] 7)) (T'.setTop (mkF m 3 #[.val (.ref b), .val (.int (Int32.ofNat (o + len))), .val (.ref d), .val (.int (Int32.ofNat (q + len))), .val (.int (Int32.ofNat len)), .val (.int (Int32.ofNat len)), z'] [])) := by
    intro r
    induction r with
    | zero =>
      intro i hi z hz Tl Bk Xl pl fl cl
      have hil : i = len := by omega
      rw [hil] at Xl fl cl
      exact ⟨Tl, Bk, z, Xl, pl, fl, cl⟩
    | succ r ih =>
      intro i hi z hz Tl Bk Xl pl fl cl
      have all := X0.warmed.alike.symm.trans Xl.warmed.alike
      have hAl := hA0.keep all (pl.other hne hA0.1)
      have hBk := hB0.like all pl.1 fl.1 fl.2.1 fl.2.2.1
      have hlt : q + i < Bk.slots.size := by rw [fl.2.2.1]; omega
      have c3 : Steps p.tables e below (s₁.setTop (entryFrame m #[.ref b, .int (Int32.ofNat o), .ref d, .int (Int32.ofNat q), .int (Int32.ofNat len)] 7)) (Tl.setTop (mkF m 12 #[.val (.ref b), .val (.int (Int32.ofNat (o + i))), .val (.ref d), .val (.int (Int32.ofNat (q + i))), .val (.int (Int32.ofNat len)), .val (.int (Int32.ofNat i)), z] [.int (Int32.ofNat (o + i)), .ref b])) := cl.trans (by
        refine XS.iload Xl.here hexec rfl (hb hbytes d3) rfl ?_
        refine XS.iload Xl.here hexec rfl (hb hbytes d5) rfl ?_
        refine XS.icmpNo Xl.here hexec rfl (hb hbytes d7) rfl (ii_ge_f (lt32 (by omega) (by omega))) ?_
        refine XS.aloadN Xl.here hexec rfl (hb hbytes d10) rfl rfl ?_
        refine XS.iloadN Xl.here hexec rfl (hb hbytes d11) rfl ?_
        exact Steps.refl _)
      have c4 : Steps p.tables e below (s₁.setTop (entryFrame m #[.ref b, .int (Int32.ofNat o), .ref d, .int (Int32.ofNat q), .int (Int32.ofNat len)] 7)) (Tl.setTop (mkF m 13 #[.val (.ref b), .val (.int (Int32.ofNat (o + i))), .val (.ref d), .val (.int (Int32.ofNat (q + i))), .val (.int (Int32.ofNat len)), .val (.int (Int32.ofNat i)), z] [.int (cv A (o + i))])) := c3.trans (by
        refine Xl.aget hexec hAl rfl (hA.get (i := o + i) (by omega)) rfl rfl (hb hbytes d12) ?_
        exact Steps.refl _)
      have c5 : Steps p.tables e below (s₁.setTop (entryFrame m #[.ref b, .int (Int32.ofNat o), .ref d, .int (Int32.ofNat q), .int (Int32.ofNat len)] 7)) (Tl.setTop (mkF m 15 #[.val (.ref b), .val (.int (Int32.ofNat (o + i))), .val (.ref d), .val (.int (Int32.ofNat (q + i))), .val (.int (Int32.ofNat len)), .val (.int (Int32.ofNat i)), .val (.int (cv A (o + i)))] [])) := c4.trans (by
        refine XS.istoreS Xl.here hexec rfl (hb hbytes d13) rfl rfl hz ?_
        exact Steps.refl _)
      have c6 : Steps p.tables e below (s₁.setTop (entryFrame m #[.ref b, .int (Int32.ofNat o), .ref d, .int (Int32.ofNat q), .int (Int32.ofNat len)] 7)) (Tl.setTop (mkF m 31 #[.val (.ref b), .val (.int (Int32.ofNat (o + i))), .val (.ref d), .val (.int (Int32.ofNat (q + i))), .val (.int (Int32.ofNat len)), .val (.int (Int32.ofNat i)), .val (.int (cv A (o + i)))] [.int (lo8 (cv A (o + i))), .int (Int32.ofNat (q + i)), .ref d])) := c5.trans (by
        refine XS.iload Xl.here hexec rfl (hb hbytes d15) rfl ?_
        refine sipushV Xl.here hexec rfl 255 (hb hbytes d17) (by decide) ?_
        refine XS.icmpYes Xl.here hexec rfl (pc0 := 20) rfl (hb hbytes d20) rfl (ii_le_t (hp i (by omega))) (by decide) rfl ?_
        refine XS.aloadN Xl.here hexec rfl (hb hbytes d26) rfl rfl ?_
        refine XS.iloadN Xl.here hexec rfl (hb hbytes d27) rfl ?_
        refine XS.iload Xl.here hexec rfl (hb hbytes d28) rfl ?_
        refine i2b Xl.here hexec rfl (hb hbytes d30) rfl ?_
        exact Steps.refl _)
      obtain ⟨T7, X7, p7, st7⟩ := Xl.aput hexec hBk rfl hlt rfl (fits_lo8 (cv A (o + i))) (g := (mkF m 31 #[.val (.ref b), .val (.int (Int32.ofNat (o + i))), .val (.ref d), .val (.int (Int32.ofNat (q + i))), .val (.int (Int32.ofNat len)), .val (.int (Int32.ofNat i)), .val (.int (cv A (o + i)))] [.int (lo8 (cv A (o + i))), .int (Int32.ofNat (q + i)), .ref d])) rfl (rest := []) rfl (hb hbytes d31)
      have c8 : Steps p.tables e below (s₁.setTop (entryFrame m #[.ref b, .int (Int32.ofNat o), .ref d, .int (Int32.ofNat q), .int (Int32.ofNat len)] 7)) (T7.setTop (mkF m 32 #[.val (.ref b), .val (.int (Int32.ofNat (o + i))), .val (.ref d), .val (.int (Int32.ofNat (q + i))), .val (.int (Int32.ofNat len)), .val (.int (Int32.ofNat i)), .val (.int (cv A (o + i)))] [])) := c6.trans (st7 _ (Steps.refl _))
      have c9 : Steps p.tables e below (s₁.setTop (entryFrame m #[.ref b, .int (Int32.ofNat o), .ref d, .int (Int32.ofNat q), .int (Int32.ofNat len)] 7)) (T7.setTop (mkF m 3 #[.val (.ref b), .val (.int (Int32.ofNat (o + i) + 1)), .val (.ref d), .val (.int (Int32.ofNat (q + i) + 1)), .val (.int (Int32.ofNat len)), .val (.int (Int32.ofNat i + 1)), .val (.int (cv A (o + i)))] [])) := c8.trans (by
        refine iincV X7.here hexec rfl 1 (hb hbytes d32) (by decide) rfl rfl ?_
        refine iincV X7.here hexec rfl 1 (hb hbytes d35) (by decide) rfl rfl ?_
        refine iincV X7.here hexec rfl 1 (hb hbytes d38) (by decide) rfl rfl ?_
        refine XS.goto X7.here hexec rfl (pc0 := 41) rfl (hb hbytes d41) (by decide) rfl ?_
        exact Steps.refl _)
      have c10 : Steps p.tables e below (s₁.setTop (entryFrame m #[.ref b, .int (Int32.ofNat o), .ref d, .int (Int32.ofNat q), .int (Int32.ofNat len)] 7)) (T7.setTop (mkF m 3 #[.val (.ref b), .val (.int (Int32.ofNat (o + (i + 1)))), .val (.ref d), .val (.int (Int32.ofNat (q + (i + 1)))), .val (.int (Int32.ofNat len)), .val (.int (Int32.ofNat (i + 1))), .val (.int (cv A (o + i)))] [])) := by
        have := c9
        rw [succ32, succ32, succ32] at this
        exact this
      exact ih (i + 1) (by omega) _ (Or.inr ⟨_, rfl, rfl⟩) T7 _ (by rw [copyLocs_step, ← List.append_assoc]; exact X7) (pl.trans p7) (fl.step (by omega) hlt (by simp)) c10
  obtain ⟨T9, B9, z9, X9, p9, f9, g9⟩ := loop len 0 (by omega) .unset (Or.inl rfl) s₁ B (by simpa [copyLocs] using X0) ⟨hB0.1, fun _ _ => rfl, rfl⟩ (Laid.zero _ _ _) c2
  have c11 : Steps p.tables e below (s₁.setTop (entryFrame m #[.ref b, .int (Int32.ofNat o), .ref d, .int (Int32.ofNat q), .int (Int32.ofNat len)] 7)) (T9.setTop (mkF m 46 #[.val (.ref b), .val (.int (Int32.ofNat (o + len))), .val (.ref d), .val (.int (Int32.ofNat (q + len))), .val (.int (Int32.ofNat len)), .val (.int (Int32.ofNat len)), z9] [.int (Int32.ofNat len)])) := g9.trans (by
    refine XS.iload X9.here hexec rfl (hb hbytes d3) rfl ?_
    refine XS.iload X9.here hexec rfl (hb hbytes d5) rfl ?_
    refine XS.icmpYes X9.here hexec rfl (pc0 := 7) rfl (hb hbytes d7) rfl (ii_ge_t (nlt32 (by omega) (Nat.le_refl _))) (by decide) rfl ?_
    refine XS.iload X9.here hexec rfl (hb hbytes d44) rfl ?_
    exact Steps.refl _)
  exact ⟨T9, some (.int (Int32.ofNat len)), _, _, _, X9, by simp, rfl, rfl, (fun h => by cases h), ⟨rfl, B9, p9.from hh0, f9⟩, fun fs hl => c11.trans (X9.ireturnOut hexec hret rfl (Or.inl rfl) (hb hbytes d46) hl)⟩
end Cmp5
namespace Cmp3
def yN : MethodName := ⟨"java/lang/StringUTF16", "compress", "([CII)[B"⟩
abbrev yB : ByteArray := jdk_52_method_16_code
theorem d0 : decode yB 0 = .ok (.iload_n 2, 1) := by decide +kernel
theorem d1 : decode yB 1 = .ok (.newarray .byte, 2) := by decide +kernel
theorem d3 : decode yB 3 = .ok (.astore_n 3, 1) := by decide +kernel
theorem d4 : decode yB 4 = .ok (.aload_n 0, 1) := by decide +kernel
theorem d5 : decode yB 5 = .ok (.iload_n 1, 1) := by decide +kernel
theorem d6 : decode yB 6 = .ok (.aload_n 3, 1) := by decide +kernel
theorem d7 : decode yB 7 = .ok (.iconst 0, 1) := by decide +kernel
theorem d8 : decode yB 8 = .ok (.iload_n 2, 1) := by decide +kernel
theorem d9 : decode yB 9 = .ok (.invokestatic 115, 3) := by decide +kernel
theorem d12 : decode yB 12 = .ok (.istore 4, 2) := by decide +kernel
theorem d14 : decode yB 14 = .ok (.iload 4, 2) := by decide +kernel
theorem d16 : decode yB 16 = .ok (.iload_n 2, 1) := by decide +kernel
theorem d17 : decode yB 17 = .ok (.if_icmp (.eq) 40, 3) := by decide +kernel
theorem d57 : decode yB 57 = .ok (.aload_n 3, 1) := by decide +kernel
theorem d58 : decode yB 58 = .ok (.areturn, 1) := by decide +kernel
def site : List Cond := [.arrayClass .byte, Cmp5.tab] ++ staticW U16 115 Cmp5.yN
def tab : Cond := tabOf yN yB 6 (some (.array .byte)) site
def P (b : Addr) (A : Cell) (o len : Nat) (args : Array Value) (s : State) : Prop := args = #[.ref b, .int (Int32.ofNat o), .int (Int32.ofNat len)] ∧ Ch b A s ∧ o + len ≤ A.slots.size ∧ len ≤ 536870912 ∧ ∀ i, i < len → ¬ 255 < cv A (o + i)
def E (b : Addr) (A : Cell) (o len : Nat) (r : Option Value) (s u : State) : Prop := NewArr .byte "[B" len (fun j => .int (lo8 (cv A (o + j)))) r s u ∧ u.heap.size = s.heap.size + 1
/-- no char of the range above 255: a new byte[] of their low bytes -/
theorem law (l : Launch) (b : Addr) (A : Cell) (o len : Nat) : Law l yN 3 3 1 18 yB 6 (some (.array .byte)) site (P b A o len) (E b A o len) [] 1 len := by
  refine Law.of_walk (plainFor_of_name (by decide +kernel)) (by decide +kernel) (by decide +kernel) (by decide) (fun _ _ h => by rw [h.1]; rfl) (fun _ U U' hal hh h => ⟨h.1, h.2.1.mv hal hh, h.2.2⟩) (fun r U U' V V' h1 hal h2 h => ⟨NewArr.mv r U U' V V' h1 hal h2 h.1, by rw [h1, h2]; exact h.2⟩) ?_
  intro p e s m args below meth c s₁ X0 hexec hbytes hml hret hlk hnm hown hh0 W hP
  obtain ⟨rfl, hA, l1, l2, hp⟩ := hP
  have a31 := hA.1.2.2.2
  have c1 : Steps p.tables e below (s₁.setTop (entryFrame m #[.ref b, .int (Int32.ofNat o), .int (Int32.ofNat len)] 6)) (s₁.setTop (mkF m 0 #[.val (.ref b), .val (.int (Int32.ofNat o)), .val (.int (Int32.ofNat len)), .unset, .unset, .unset] [])) := entry rfl
  have c2 : Steps p.tables e below (s₁.setTop (entryFrame m #[.ref b, .int (Int32.ofNat o), .int (Int32.ofNat len)] 6)) (s₁.setTop (mkF m 1 #[.val (.ref b), .val (.int (Int32.ofNat o)), .val (.int (Int32.ofNat len)), .unset, .unset, .unset] [.int (Int32.ofNat len)])) := c1.trans (by
    refine XS.iloadN X0.here hexec rfl (hb hbytes d0) rfl ?_
    exact Steps.refl _)
  obtain ⟨T3, B3, X3, ba3, bs3, bv3, bh3, bf3, st3⟩ := X0.anew hexec (atype := .byte) (wk W (.arrayClass .byte)) rfl (by show len * 1 ≤ _; omega) (by omega) (g := (mkF m 1 #[.val (.ref b), .val (.int (Int32.ofNat o)), .val (.int (Int32.ofNat len)), .unset, .unset, .unset] [.int (Int32.ofNat len)])) rfl (hb hbytes d1) (rest := []) rfl (Nat.le_refl _) (by show 0 + len ≤ len; omega)
  rw [hh0] at ba3 st3
  have kp3 : XT.Kept s T3 := (XT.Kept.of_eq hh0).push bh3
  have hA3 := hA.keep X3.warmed.alike (kp3 _ _ hA.1.1)
  have hne : b ≠ s.heap.size := hA.1.ne
  have c4 : Steps p.tables e below (s₁.setTop (entryFrame m #[.ref b, .int (Int32.ofNat o), .int (Int32.ofNat len)] 6)) (T3.setTop (mkF m 3 #[.val (.ref b), .val (.int (Int32.ofNat o)), .val (.int (Int32.ofNat len)), .unset, .unset, .unset] [.ref s.heap.size])) := c2.trans (st3 _ (Steps.refl _))
  have c5 : Steps p.tables e below (s₁.setTop (entryFrame m #[.ref b, .int (Int32.ofNat o), .int (Int32.ofNat len)] 6)) (T3.setTop (mkF m 9 #[.val (.ref b), .val (.int (Int32.ofNat o)), .val (.int (Int32.ofNat len)), .val (.ref s.heap.size), .unset, .unset] [.int (Int32.ofNat len), .int 0, .ref s.heap.size, .int (Int32.ofNat o), .ref b])) := c4.trans (by
    refine XS.astoreN X3.here hexec rfl (hb hbytes d3) rfl rfl rfl ?_
    refine XS.aloadN X3.here hexec rfl (hb hbytes d4) rfl rfl ?_
    refine XS.iloadN X3.here hexec rfl (hb hbytes d5) rfl ?_
    refine XS.aloadN X3.here hexec rfl (hb hbytes d6) rfl rfl ?_
    refine iconstV X3.here hexec rfl 0 (hb hbytes d7) (by decide) ?_
    refine XS.iloadN X3.here hexec rfl (hb hbytes d8) rfl ?_
    exact Steps.refl _)
  obtain ⟨v6, T6, X6, E6, g6⟩ := X3.callS hexec (Cmp5.law l b A s.heap.size B3 o 0 len) hown (wks W (staticW U16 115 Cmp5.yN)) (wk W Cmp5.tab) (W := 0) (Nat.le_of_ble_eq_true rfl) (Nat.le_of_ble_eq_true rfl) (Nat.le_refl _) (by show 0 + len + 0 ≤ len; omega) (g := (mkF m 9 #[.val (.ref b), .val (.int (Int32.ofNat o)), .val (.int (Int32.ofNat len)), .val (.ref s.heap.size), .unset, .unset] [.int (Int32.ofNat len), .int (Int32.ofNat 0), .ref s.heap.size, .int (Int32.ofNat o), .ref b])) rfl (by rw [hml]; rfl) c5 (argsL := [.ref b, .int (Int32.ofNat o), .ref s.heap.size, .int (Int32.ofNat 0), .int (Int32.ofNat len)]) (rest := []) rfl rfl (by show 2 * 0 + 0 ≤ _; decide) (hb hbytes d9) (⟨rfl, hA3, ba3, hne, l1, by rw [bs3]; simp, hp⟩)
  obtain ⟨rfl, B6, p6, f6⟩ := E6
  have c7 : Steps p.tables e below (s₁.setTop (entryFrame m #[.ref b, .int (Int32.ofNat o), .int (Int32.ofNat len)] 6)) (T6.setTop (mkF m 12 #[.val (.ref b), .val (.int (Int32.ofNat o)), .val (.int (Int32.ofNat len)), .val (.ref s.heap.size), .unset, .unset] [.int (Int32.ofNat len)])) := g6
  have c8 : Steps p.tables e below (s₁.setTop (entryFrame m #[.ref b, .int (Int32.ofNat o), .int (Int32.ofNat len)] 6)) (T6.setTop (mkF m 58 #[.val (.ref b), .val (.int (Int32.ofNat o)), .val (.int (Int32.ofNat len)), .val (.ref s.heap.size), .val (.int (Int32.ofNat len)), .unset] [.ref s.heap.size])) := c7.trans (by
    refine XS.istore X6.here hexec rfl (hb hbytes d12) rfl rfl ?_
    refine XS.iload X6.here hexec rfl (hb hbytes d14) rfl ?_
    refine XS.iloadN X6.here hexec rfl (hb hbytes d16) rfl ?_
    refine XS.icmpYes X6.here hexec rfl (pc0 := 17) rfl (hb hbytes d17) rfl (ii_eq_t rfl) (by decide) rfl ?_
    refine XS.aloadN X6.here hexec rfl (hb hbytes d57) rfl rfl ?_
    exact Steps.refl _)
  have X8 := X6.wide (L' := []) (cells' := 1) (slots' := len) (fun x hx hlt => by
    simp only [List.nil_append, copyLocs, List.mem_map, List.mem_range] at hx
    obtain ⟨i, -, rfl⟩ := hx
    exact absurd hlt (Nat.lt_irrefl _)) (Nat.le_refl _) (by omega)
  exact ⟨T6, some (.ref s.heap.size), _, _, _, X8, rfl, rfl, rfl, (fun h => by cases h), ⟨⟨rfl, B6, ba3.like (X3.warmed.alike.symm.trans X6.warmed.alike) p6.1 f6.1 f6.2.1 f6.2.2.1, f6.2.1.trans bv3, by rw [X6.warmed.alike.findClass, f6.1]; exact bf3, by rw [f6.2.2.1, bs3]; simp, fun j hj => by rw [f6.2.2.2 j, if_pos (by omega)]; rfl, kp3.put p6 (Nat.le_refl _)⟩, by rw [p6.2.2, bh3, hh0]; simp⟩, fun fs hl => c8.trans (X8.areturnOut hexec rfl hret rfl (hb hbytes d58) hl)⟩
end Cmp3
namespace CodL
def yN : MethodName := ⟨"java/lang/StringUTF16", "coderFromArrayLen", "([BI)B"⟩
abbrev yB : ByteArray := jdk_52_method_15_code
theorem d0 : decode yB 0 = .ok (.iload_n 1, 1) := by decide +kernel
theorem d1 : decode yB 1 = .ok (.aload_n 0, 1) := by decide +kernel
theorem d2 : decode yB 2 = .ok (.arraylength, 1) := by decide +kernel
theorem d3 : decode yB 3 = .ok (.isub, 1) := by decide +kernel
theorem d4 : decode yB 4 = .ok (.bipush 31, 2) := by decide +kernel
theorem d6 : decode yB 6 = .ok (.iushr, 1) := by decide +kernel
theorem d7 : decode yB 7 = .ok (.i2b, 1) := by decide +kernel
theorem d8 : decode yB 8 = .ok (.ireturn, 1) := by decide +kernel
def site : List Cond := []
def tab : Cond := tabOf yN yB 2 (some .byte) site
def P (d : Addr) (B : Cell) (args : Array Value) (s : State) : Prop := args = #[.ref d, .int (Int32.ofNat B.slots.size)] ∧ Arr .byte d B s
def E (r : Option Value) (s u : State) : Prop := XT.PureE (some (.int 0)) r s u
/-- an array as long as the number of chars: LATIN1 -/
theorem law (l : Launch) (d : Addr) (B : Cell) : Law l yN 2 2 0 0 yB 2 (some .byte) site (P d B) E [] 0 0 := by
  refine Law.of_walk (plainFor_of_name (by decide +kernel)) (by decide +kernel) (by decide +kernel) (by decide) (fun _ _ h => by rw [h.1]; rfl) (fun _ U U' hal hh h => ⟨h.1, h.2.mv hal hh⟩) (fun r U U' V V' h1 hal h2 h => XT.PureE.mv r U U' V V' h1 hal h2 h) ?_
  intro p e s m args below meth c s₁ X0 hexec hbytes hml hret hlk hnm hown hh0 W hP
  obtain ⟨rfl, hB⟩ := hP
  have hB0 := hB.mv X0.warmed.alike hh0
  have c1 : Steps p.tables e below (s₁.setTop (entryFrame m #[.ref d, .int (Int32.ofNat B.slots.size)] 2)) (s₁.setTop (mkF m 0 #[.val (.ref d), .val (.int (Int32.ofNat B.slots.size))] [])) := entry rfl
  have c2 : Steps p.tables e below (s₁.setTop (entryFrame m #[.ref d, .int (Int32.ofNat B.slots.size)] 2)) (s₁.setTop (mkF m 2 #[.val (.ref d), .val (.int (Int32.ofNat B.slots.size))] [.ref d, .int (Int32.ofNat B.slots.size)])) := c1.trans (by
    refine XS.iloadN X0.here hexec rfl (hb hbytes d0) rfl ?_
    refine XS.aloadN X0.here hexec rfl (hb hbytes d1) rfl rfl ?_
    exact Steps.refl _)
  have c3 : Steps p.tables e below (s₁.setTop (entryFrame m #[.ref d, .int (Int32.ofNat B.slots.size)] 2)) (s₁.setTop (mkF m 8 #[.val (.ref d), .val (.int (Int32.ofNat B.slots.size))] [.int (lo8 (ushr (Int32.ofNat B.slots.size - Int32.ofNat B.slots.size) 31))])) := c2.trans (by
    refine X0.alen hexec hB0 rfl rfl (hb hbytes d2) ?_
    refine XS.isub X0.here hexec rfl (hb hbytes d3) rfl ?_
    refine bipushV X0.here hexec rfl 31 (hb hbytes d4) (by decide) ?_
    refine iushr X0.here hexec rfl (hb hbytes d6) rfl ?_
    refine i2b X0.here hexec rfl (hb hbytes d7) rfl ?_
    exact Steps.refl _)
  have e0 : lo8 (ushr (Int32.ofNat B.slots.size - Int32.ofNat B.slots.size) 31) = 0 := by rw [Int32.sub_self]; decide
  rw [e0] at c3
  exact ⟨s₁, some (.int 0), _, _, _, X0, rfl, rfl, rfl, (fun h => by cases h), ⟨rfl, hh0⟩, fun fs hl => c3.trans (X0.ireturnOut hexec hret rfl (Or.inr (Or.inr (Or.inl rfl))) (hb hbytes d8) hl)⟩
end CodL
/-- the String at a is Latin-1 over a new byte[] (the heap's one new cell): the low bytes of the len chars of A from o on; every cell but a is kept -/
def Got (a : Addr) (D : Cell) (fV fC : Field) (A : Cell) (o len : Nat) (r : Option Value) (s u : State) : Prop := r = none ∧ ∃ D' V : Cell, Blank "java/lang/String" a D' u ∧ Same D D' [fV.slot, fC.slot] ∧ D'.slots[fV.slot]? = some (.ref s.heap.size) ∧ D'.slots[fC.slot]? = some (.int 0) ∧ Arr .byte s.heap.size V u ∧ V.vm = .none ∧ u.vm.findClass "[B" = some V.cls ∧ V.slots.size = len ∧ (∀ j, j < len → V.slots[j]? = some (.int (lo8 (cv A (o + j))))) ∧ (∀ (y : Addr) (c : Cell), y ≠ a → s.heap[y]? = some c → u.heap[y]? = some c) ∧ u.heap.size = s.heap.size + 1
theorem Got.mv {a : Addr} {D A : Cell} {fV fC : Field} {o len : Nat} : ∀ r (U U' V V' : State), U'.heap = U.heap → V.vm.Alike V'.vm → V'.heap = V.heap → Got a D fV fC A o len r U V → Got a D fV fC A o len r U' V' :=
  fun r U U' V V' h1 hal h2 ⟨e0, D', X, a1, a2, a3, a4, a5, a6, a7, a8, a9, a10, a11⟩ => ⟨e0, D', X, a1.mv hal h2, a2, by rw [h1]; exact a3, a4, by rw [h1]; exact a5.mv hal h2, a6, by rw [hal.findClass]; exact a7, a8, a9, by rw [h1, h2]; exact a10, by rw [h1, h2]; exact a11⟩
namespace New4
def yN : MethodName := ⟨"java/lang/String", "<init>", "([CIILjava/lang/Void;)V"⟩
abbrev yB : ByteArray := jdk_42_method_149_code
theorem d0 : decode yB 0 = .ok (.aload_n 0, 1) := by decide +kernel
theorem d1 : decode yB 1 = .ok (.invokespecial 1, 3) := by decide +kernel
theorem d4 : decode yB 4 = .ok (.iload_n 3, 1) := by decide +kernel
theorem d5 : decode yB 5 = .ok (.ifCond (.ne) 22, 3) := by decide +kernel
theorem d27 : decode yB 27 = .ok (.getstatic 38, 3) := by decide +kernel
theorem d30 : decode yB 30 = .ok (.ifCond (.eq) 28, 3) := by decide +kernel
theorem d33 : decode yB 33 = .ok (.aload_n 1, 1) := by decide +kernel
theorem d34 : decode yB 34 = .ok (.iload_n 2, 1) := by decide +kernel
theorem d35 : decode yB 35 = .ok (.iload_n 3, 1) := by decide +kernel
theorem d36 : decode yB 36 = .ok (.invokestatic 177, 3) := by decide +kernel
theorem d39 : decode yB 39 = .ok (.astore 5, 2) := by decide +kernel
theorem d41 : decode yB 41 = .ok (.aload_n 0, 1) := by decide +kernel
theorem d42 : decode yB 42 = .ok (.aload 5, 2) := by decide +kernel
theorem d44 : decode yB 44 = .ok (.iload_n 3, 1) := by decide +kernel
theorem d45 : decode yB 45 = .ok (.invokestatic 47, 3) := by decide +kernel
theorem d48 : decode yB 48 = .ok (.putfield 15, 3) := by decide +kernel
theorem d51 : decode yB 51 = .ok (.aload_n 0, 1) := by decide +kernel
theorem d52 : decode yB 52 = .ok (.aload 5, 2) := by decide +kernel
theorem d54 : decode yB 54 = .ok (.putfield 9, 3) := by decide +kernel
theorem d57 : decode yB 57 = .ok (.return_, 1) := by decide +kernel
def site : List Cond := [.fieldLink "java/lang/String" 38 "java/lang/String" "COMPACT_STRINGS" "Z", Cmp3.tab, CodL.tab, .laysFinal "java/lang/String" "java/lang/String" "value" "[B", .fieldLink "java/lang/String" 9 "java/lang/String" "value" "[B", .laysFinal "java/lang/String" "java/lang/String" "coder" "B", .fieldLink "java/lang/String" 15 "java/lang/String" "coder" "B"] ++ objW "java/lang/String" 1 ++ staticW "java/lang/String" 177 Cmp3.yN ++ staticW "java/lang/String" 47 CodL.yN
def tab : Cond := tabOf yN yB 6 none site
def P (a : Addr) (D : Cell) (fV fC : Field) (b : Addr) (A : Cell) (z : Int32) (o len : Nat) (args : Array Value) (s : State) : Prop := args = #[.ref a, .ref b, .int (Int32.ofNat o), .int (Int32.ofNat len), .null] ∧ Blank "java/lang/String" a D s ∧ Found "java/lang/String" "value" "[B" fV s ∧ Found "java/lang/String" "coder" "B" fC s ∧ Ch b A s ∧ StaticIs s "java/lang/String" "COMPACT_STRINGS" "Z" (.int z) ∧ ¬ z = 0 ∧ 0 < len ∧ o + len ≤ A.slots.size ∧ len ≤ 536870912 ∧ ∀ i, i < len → ¬ 255 < cv A (o + i)
def E (a : Addr) (D : Cell) (fV fC : Field) (A : Cell) (o len : Nat) (r : Option Value) (s u : State) : Prop := Got a D fV fC A o len r s u
/-- len > 0, no char of the range above 255: a Latin-1 String of their low bytes -/
theorem law (l : Launch) (a : Addr) (D : Cell) (fV fC : Field) (b : Addr) (A : Cell) (z : Int32) (o len : Nat) : Law l yN 5 4 2 35 yB 6 none site (P a D fV fC b A z o len) (E a D fV fC A o len) [⟨a, fC.slot⟩, ⟨a, fV.slot⟩] 1 len := by
  refine Law.of_walk (plainFor_of_name (by decide +kernel)) (by decide +kernel) (by decide +kernel) (by decide) (fun _ _ h => by rw [h.1]; rfl) (fun _ U U' hal hh h => ⟨h.1, h.2.1.mv hal hh, h.2.2.1.al hal, h.2.2.2.1.al hal, h.2.2.2.2.1.mv hal hh, h.2.2.2.2.2.1.there hal hh, h.2.2.2.2.2.2⟩) (fun r U U' V V' h1 hal h2 h => Got.mv r U U' V V' h1 hal h2 h) ?_
  intro p e s m args below meth c s₁ X0 hexec hbytes hml hret hlk hnm hown hh0 W hP
  obtain ⟨rfl, hB, f1, f2, hA, s1, hz, l0, l1, l2, hp⟩ := hP
  have a31 := hA.1.2.2.2
  have c1 : Steps p.tables e below (s₁.setTop (entryFrame m #[.ref a, .ref b, .int (Int32.ofNat o), .int (Int32.ofNat len), .null] 6)) (s₁.setTop (mkF m 0 #[.val (.ref a), .val (.ref b), .val (.int (Int32.ofNat o)), .val (.int (Int32.ofNat len)), .val .null, .unset] [])) := entry rfl
  have c2 : Steps p.tables e below (s₁.setTop (entryFrame m #[.ref a, .ref b, .int (Int32.ofNat o), .int (Int32.ofNat len), .null] 6)) (s₁.setTop (mkF m 1 #[.val (.ref a), .val (.ref b), .val (.int (Int32.ofNat o)), .val (.int (Int32.ofNat len)), .val .null, .unset] [.ref a])) := c1.trans (by
    refine XS.aloadN X0.here hexec rfl (hb hbytes d0) rfl rfl ?_
    exact Steps.refl _)
  obtain ⟨T3, X3, q3, st3⟩ := X0.oinit hexec hown (wks W (objW "java/lang/String" 1)) (g := (mkF m 1 #[.val (.ref a), .val (.ref b), .val (.int (Int32.ofNat o)), .val (.int (Int32.ofNat len)), .val .null, .unset] [.ref a])) rfl (by rw [hml]; rfl) (rest := []) rfl (hb hbytes d1) (W := 0) (by show 2 * 0 + 0 ≤ _; decide) (Nat.le_of_ble_eq_true rfl) (Nat.le_of_ble_eq_true rfl)
  have hh3 := q3.trans hh0
  have c4 : Steps p.tables e below (s₁.setTop (entryFrame m #[.ref a, .ref b, .int (Int32.ofNat o), .int (Int32.ofNat len), .null] 6)) (T3.setTop (mkF m 27 #[.val (.ref a), .val (.ref b), .val (.int (Int32.ofNat o)), .val (.int (Int32.ofNat len)), .val .null, .unset] [])) := (c2.trans (st3 _ (Steps.refl _))).trans (by
    refine XS.iloadN X3.here hexec rfl (hb hbytes d4) rfl ?_
    refine XS.ifYes X3.here hexec rfl (pc0 := 5) rfl (hb hbytes d5) rfl (i0_ne_t (nz32 (by omega) l0)) (by decide) rfl ?_
    exact Steps.refl _)
  obtain ⟨T5, X5, q5, st5⟩ := X3.sget hexec hown (wk W (.fieldLink "java/lang/String" 38 "java/lang/String" "COMPACT_STRINGS" "Z")) s1 (fun _ _ h => by rw [hh3]; exact h) (g := (mkF m 27 #[.val (.ref a), .val (.ref b), .val (.int (Int32.ofNat o)), .val (.int (Int32.ofNat len)), .val .null, .unset] [])) rfl (hb hbytes d27)
  have hh5 := q5.trans hh3
  have c6 : Steps p.tables e below (s₁.setTop (entryFrame m #[.ref a, .ref b, .int (Int32.ofNat o), .int (Int32.ofNat len), .null] 6)) (T5.setTop (mkF m 30 #[.val (.ref a), .val (.ref b), .val (.int (Int32.ofNat o)), .val (.int (Int32.ofNat len)), .val .null, .unset] [.int z])) := c4.trans (st5 _ (Steps.refl _))
  have c7 : Steps p.tables e below (s₁.setTop (entryFrame m #[.ref a, .ref b, .int (Int32.ofNat o), .int (Int32.ofNat len), .null] 6)) (T5.setTop (mkF m 36 #[.val (.ref a), .val (.ref b), .val (.int (Int32.ofNat o)), .val (.int (Int32.ofNat len)), .val .null, .unset] [.int (Int32.ofNat len), .int (Int32.ofNat o), .ref b])) := c6.trans (by
    refine XS.ifNo X5.here hexec rfl (hb hbytes d30) rfl (i0_eq_f hz) ?_
    refine XS.aloadN X5.here hexec rfl (hb hbytes d33) rfl rfl ?_
    refine XS.iloadN X5.here hexec rfl (hb hbytes d34) rfl ?_
    refine XS.iloadN X5.here hexec rfl (hb hbytes d35) rfl ?_
    exact Steps.refl _)
  obtain ⟨v8, T8, X8, E8, g8⟩ := X5.callS hexec (Cmp3.law l b A o len) hown (wks W (staticW "java/lang/String" 177 Cmp3.yN)) (wk W Cmp3.tab) (W := 0) (Nat.le_of_ble_eq_true rfl) (Nat.le_of_ble_eq_true rfl) (Nat.le_refl _) (by show 0 + len ≤ len; omega) (g := (mkF m 36 #[.val (.ref a), .val (.ref b), .val (.int (Int32.ofNat o)), .val (.int (Int32.ofNat len)), .val .null, .unset] [.int (Int32.ofNat len), .int (Int32.ofNat o), .ref b])) rfl (by rw [hml]; rfl) c7 (argsL := [.ref b, .int (Int32.ofNat o), .int (Int32.ofNat len)]) (rest := []) rfl rfl (by show 2 * 0 + 0 ≤ _; decide) (hb hbytes d36) (⟨rfl, hA.mv X5.warmed.alike hh5, l1, l2, hp⟩)
  obtain ⟨e8, z8⟩ := E8
  obtain ⟨rfl, N, n1, n2, n3, n4, n5, n6⟩ := NewArr.mv _ T5 s _ _ hh5.symm (Vm.Alike.refl _) rfl e8
  rw [hh5] at z8
  have hB1 := hB.keep X8.warmed.alike (n6 _ _ hB.1)
  have hne : s.heap.size ≠ a := (Nat.ne_of_lt (Array.getElem?_eq_some_iff.mp hB.1).1).symm
  have c9 : Steps p.tables e below (s₁.setTop (entryFrame m #[.ref a, .ref b, .int (Int32.ofNat o), .int (Int32.ofNat len), .null] 6)) (T8.setTop (mkF m 39 #[.val (.ref a), .val (.ref b), .val (.int (Int32.ofNat o)), .val (.int (Int32.ofNat len)), .val .null, .unset] [.ref s.heap.size])) := g8
  have c10 : Steps p.tables e below (s₁.setTop (entryFrame m #[.ref a, .ref b, .int (Int32.ofNat o), .int (Int32.ofNat len), .null] 6)) (T8.setTop (mkF m 45 #[.val (.ref a), .val (.ref b), .val (.int (Int32.ofNat o)), .val (.int (Int32.ofNat len)), .val .null, .val (.ref s.heap.size)] [.int (Int32.ofNat N.slots.size), .ref s.heap.size, .ref a])) := by
    have hc : Steps p.tables e below (s₁.setTop (entryFrame m #[.ref a, .ref b, .int (Int32.ofNat o), .int (Int32.ofNat len), .null] 6)) (T8.setTop (mkF m 45 #[.val (.ref a), .val (.ref b), .val (.int (Int32.ofNat o)), .val (.int (Int32.ofNat len)), .val .null, .val (.ref s.heap.size)] [.int (Int32.ofNat len), .ref s.heap.size, .ref a])) := c9.trans (by
      refine XS.astore X8.here hexec rfl (hb hbytes d39) rfl rfl rfl ?_
      refine XS.aloadN X8.here hexec rfl (hb hbytes d41) rfl rfl ?_
      refine XS.aload X8.here hexec rfl (hb hbytes d42) rfl rfl ?_
      refine XS.iloadN X8.here hexec rfl (hb hbytes d44) rfl ?_
      exact Steps.refl _)
    rw [n4]; exact hc
  obtain ⟨v11, T11, X11, E11, g11⟩ := X8.callS hexec (CodL.law l s.heap.size N) hown (wks W (staticW "java/lang/String" 47 CodL.yN)) (wk W CodL.tab) (W := 1) (Nat.le_of_ble_eq_true rfl) (Nat.le_of_ble_eq_true rfl) (Nat.le_refl _) (by show 0 + len + 0 ≤ len; omega) (g := (mkF m 45 #[.val (.ref a), .val (.ref b), .val (.int (Int32.ofNat o)), .val (.int (Int32.ofNat len)), .val .null, .val (.ref s.heap.size)] [.int (Int32.ofNat N.slots.size), .ref s.heap.size, .ref a])) rfl (by rw [hml]; rfl) c10 (argsL := [.ref s.heap.size, .int (Int32.ofNat N.slots.size)]) (rest := [.ref a]) rfl rfl (by show 2 * 0 + (1 + 0) ≤ _; decide) (hb hbytes d45) (⟨rfl, n1⟩)
  obtain ⟨rfl, q11⟩ := E11
  have hB11 := hB1.mv (X8.warmed.alike.symm.trans X11.warmed.alike) q11
  have c12 : Steps p.tables e below (s₁.setTop (entryFrame m #[.ref a, .ref b, .int (Int32.ofNat o), .int (Int32.ofNat len), .null] 6)) (T11.setTop (mkF m 48 #[.val (.ref a), .val (.ref b), .val (.int (Int32.ofNat o)), .val (.int (Int32.ofNat len)), .val .null, .val (.ref s.heap.size)] [.int 0, .ref a])) := g11
  obtain ⟨T13, X13, p13, bl13, sl13, st13⟩ := X11.finit hexec hown (wk W (.fieldLink "java/lang/String" 15 "java/lang/String" "coder" "B")) (Or.inr ⟨_, (wk W (.laysFinal "java/lang/String" "java/lang/String" "coder" "B"))⟩) (Or.inl ⟨rfl, hnm⟩) f2 (Or.inl rfl) hB11 (t := .byte) (by decide +kernel) rfl (g := (mkF m 48 #[.val (.ref a), .val (.ref b), .val (.int (Int32.ofNat o)), .val (.int (Int32.ofNat len)), .val .null, .val (.ref s.heap.size)] [.int 0, .ref a])) rfl (rest := []) rfl (hb hbytes d48)
  have c14 : Steps p.tables e below (s₁.setTop (entryFrame m #[.ref a, .ref b, .int (Int32.ofNat o), .int (Int32.ofNat len), .null] 6)) (T13.setTop (mkF m 54 #[.val (.ref a), .val (.ref b), .val (.int (Int32.ofNat o)), .val (.int (Int32.ofNat len)), .val .null, .val (.ref s.heap.size)] [.ref s.heap.size, .ref a])) := (c12.trans (st13 _ (Steps.refl _))).trans (by
    refine XS.aloadN X13.here hexec rfl (hb hbytes d51) rfl rfl ?_
    refine XS.aload X13.here hexec rfl (hb hbytes d52) rfl rfl ?_
    exact Steps.refl _)
  obtain ⟨T15, X15, p15, bl15, sl15, st15⟩ := X13.finit hexec hown (wk W (.fieldLink "java/lang/String" 9 "java/lang/String" "value" "[B")) (Or.inr ⟨_, (wk W (.laysFinal "java/lang/String" "java/lang/String" "value" "[B"))⟩) (Or.inl ⟨rfl, hnm⟩) f1 (Or.inl rfl) bl13 (t := (.array .byte)) (by decide +kernel) rfl (g := (mkF m 54 #[.val (.ref a), .val (.ref b), .val (.int (Int32.ofNat o)), .val (.int (Int32.ofNat len)), .val .null, .val (.ref s.heap.size)] [.ref s.heap.size, .ref a])) rfl (rest := []) rfl (hb hbytes d54)
  have c16 : Steps p.tables e below (s₁.setTop (entryFrame m #[.ref a, .ref b, .int (Int32.ofNat o), .int (Int32.ofNat len), .null] 6)) (T15.setTop (mkF m 57 #[.val (.ref a), .val (.ref b), .val (.int (Int32.ofNat o)), .val (.int (Int32.ofNat len)), .val .null, .val (.ref s.heap.size)] [])) := c14.trans (st15 _ (Steps.refl _))
  have ap := apart (Or.inr ⟨_, (wk W (.laysFinal "java/lang/String" "java/lang/String" "value" "[B"))⟩) (Or.inr ⟨_, (wk W (.laysFinal "java/lang/String" "java/lang/String" "coder" "B"))⟩) f1 f2 (t₁ := .array .byte) (t₂ := .byte) (by decide +kernel) (by decide +kernel) (by decide)
  have al := X8.warmed.alike.symm.trans X15.warmed.alike
  have n7 : T11.heap[s.heap.size]? = some N := by rw [q11]; exact n1.1
  exact ⟨T15, none, _, _, _, X15, by simp, rfl, by omega, (fun _ => rfl), ⟨rfl, _, N, bl15, ((Same.refl D _).set _ (by simp)).set _ (by simp), sl15, (Cell.slots_setSlot_ne _ ap).trans sl13, n1.keep al (p15.other hne (p13.other hne n7)), n2, by rw [al.findClass]; exact n3, n4, n5, fun y c h1 h2 => p15.other h1 (p13.other h1 (by rw [q11]; exact n6 y c h2)), by rw [p15.2.2, p13.2.2, q11]; exact z8⟩, fun fs hl => c16.trans (X15.returnOut hexec hret (hb hbytes d57) hl)⟩
end New4
namespace New1
def yN : MethodName := ⟨"java/lang/String", "<init>", "([C)V"⟩
abbrev yB : ByteArray := jdk_42_method_3_code
theorem d0 : decode yB 0 = .ok (.aload_n 0, 1) := by decide +kernel
theorem d1 : decode yB 1 = .ok (.aload_n 1, 1) := by decide +kernel
theorem d2 : decode yB 2 = .ok (.iconst 0, 1) := by decide +kernel
theorem d3 : decode yB 3 = .ok (.aload_n 1, 1) := by decide +kernel
theorem d4 : decode yB 4 = .ok (.arraylength, 1) := by decide +kernel
theorem d5 : decode yB 5 = .ok (.aconst_null, 1) := by decide +kernel
theorem d6 : decode yB 6 = .ok (.invokespecial 27, 3) := by decide +kernel
theorem d9 : decode yB 9 = .ok (.return_, 1) := by decide +kernel
def site : List Cond := [New4.tab] ++ initW "java/lang/String" 27 New4.yN
def tab : Cond := tabOf yN yB 2 none site
def P (a : Addr) (D : Cell) (fV fC : Field) (b : Addr) (A : Cell) (z : Int32) (args : Array Value) (s : State) : Prop := args = #[.ref a, .ref b] ∧ Blank "java/lang/String" a D s ∧ Found "java/lang/String" "value" "[B" fV s ∧ Found "java/lang/String" "coder" "B" fC s ∧ Ch b A s ∧ StaticIs s "java/lang/String" "COMPACT_STRINGS" "Z" (.int z) ∧ ¬ z = 0 ∧ 0 < A.slots.size ∧ A.slots.size ≤ 536870912 ∧ ∀ i, i < A.slots.size → ¬ 255 < cv A i
def E (a : Addr) (D : Cell) (fV fC : Field) (A : Cell) (r : Option Value) (s u : State) : Prop := Got a D fV fC A 0 A.slots.size r s u
/-- new String(chars), not empty, no char above 255: a Latin-1 String of their low bytes -/
theorem law (l : Launch) (a : Addr) (D : Cell) (fV fC : Field) (b : Addr) (A : Cell) (z : Int32) : Law l yN 2 1 3 52 yB 2 none site (P a D fV fC b A z) (E a D fV fC A) [⟨a, fC.slot⟩, ⟨a, fV.slot⟩] 1 A.slots.size := by
  refine Law.of_walk (plainFor_of_name (by decide +kernel)) (by decide +kernel) (by decide +kernel) (by decide) (fun _ _ h => by rw [h.1]; rfl) (fun _ U U' hal hh h => ⟨h.1, h.2.1.mv hal hh, h.2.2.1.al hal, h.2.2.2.1.al hal, h.2.2.2.2.1.mv hal hh, h.2.2.2.2.2.1.there hal hh, h.2.2.2.2.2.2⟩) (fun r U U' V V' h1 hal h2 h => Got.mv r U U' V V' h1 hal h2 h) ?_
  intro p e s m args below meth c s₁ X0 hexec hbytes hml hret hlk hnm hown hh0 W hP
  obtain ⟨rfl, hB, f1, f2, hA, s1, hz, l0, l2, hp⟩ := hP
  have c1 : Steps p.tables e below (s₁.setTop (entryFrame m #[.ref a, .ref b] 2)) (s₁.setTop (mkF m 0 #[.val (.ref a), .val (.ref b)] [])) := entry rfl
  have c2 : Steps p.tables e below (s₁.setTop (entryFrame m #[.ref a, .ref b] 2)) (s₁.setTop (mkF m 6 #[.val (.ref a), .val (.ref b)] [.null, .int (Int32.ofNat A.slots.size), .int 0, .ref b, .ref a])) := c1.trans (by
    refine XS.aloadN X0.here hexec rfl (hb hbytes d0) rfl rfl ?_
    refine XS.aloadN X0.here hexec rfl (hb hbytes d1) rfl rfl ?_
    refine iconstV X0.here hexec rfl 0 (hb hbytes d2) (by decide) ?_
    refine XS.aloadN X0.here hexec rfl (hb hbytes d3) rfl rfl ?_
    refine X0.alen hexec (hA.1.mv X0.warmed.alike hh0) rfl rfl (hb hbytes d4) ?_
    refine XS.aconstNull X0.here hexec rfl (hb hbytes d5) ?_
    exact Steps.refl _)
  obtain ⟨v3, T3, X3, E3, g3⟩ := X0.callN hexec (New4.law l a D fV fC b A z 0 A.slots.size) rfl hown (wks W (initW "java/lang/String" 27 New4.yN)) (W New4.tab (by simp only [site, List.mem_cons, List.mem_append, true_or, or_true])) (W := 0) (Nat.le_of_ble_eq_true rfl) (Nat.le_of_ble_eq_true rfl) (Nat.le_refl _) (by show 0 + A.slots.size ≤ A.slots.size; omega) (g := (mkF m 6 #[.val (.ref a), .val (.ref b)] [.null, .int (Int32.ofNat A.slots.size), .int (Int32.ofNat 0), .ref b, .ref a])) rfl (by rw [hml]; rfl) c2 (argsL := [.ref b, .int (Int32.ofNat 0), .int (Int32.ofNat A.slots.size), .null]) (rest := []) rfl rfl (by show 2 * 0 + 0 ≤ _; decide) (hb hbytes d6) (⟨rfl, hB.mv X0.warmed.alike hh0, f1.al X0.warmed.alike, f2.al X0.warmed.alike, hA.mv X0.warmed.alike hh0, s1.there X0.warmed.alike hh0, hz, l0, by omega, l2, fun i hi => by rw [Nat.zero_add]; exact hp i hi⟩)
  have e0 := Got.mv _ s₁ s _ _ hh0.symm (Vm.Alike.refl _) rfl E3
  obtain rfl := e0.1
  have c4 : Steps p.tables e below (s₁.setTop (entryFrame m #[.ref a, .ref b] 2)) (T3.setTop (mkF m 9 #[.val (.ref a), .val (.ref b)] [])) := g3
  exact ⟨T3, none, _, _, _, X3, by simp, rfl, by omega, (fun _ => rfl), e0, fun fs hl => c4.trans (X3.returnOut hexec hret (hb hbytes d9) hl)⟩
theorem pays {l : Launch} {R : Room} {p : Program} {e : Env} {below : List Frame} {s : State} {sargs : Array Value} {len W : Nat} (a : Addr) (D : Cell) (fV fC : Field) (b : Addr) (A : Cell) (z : Int32) (htab : tab.before sargs s = true) (hfr : 4 ≤ R.frames) (hlo : W + 65 ≤ R.locals) :
    Back l R p e below s sargs yN len W (fun A₁ a₁ => A₁.cells + 1 ≤ R.cells ∧ A₁.slots + A.slots.size ≤ R.slots ∧ P a D fV fC b A z a₁ A₁.U) (fun A₁ _ v₁ B₁ => E a D fV fC A v₁ A₁.U B₁.U ∧ B₁.locs = A₁.locs ++ [⟨a, fC.slot⟩, ⟨a, fV.slot⟩] ∧ B₁.cells = A₁.cells + 1 ∧ B₁.slots = A₁.slots + A.slots.size) :=
  (law l a D fV fC b A z).pays htab hfr (by omega)
end New1
/-- the byte, read back as charAt reads it, is the char -/
theorem lo8_mask {x : Int32} (h0 : ¬ x < 0) (h1 : ¬ 255 < x) : lo8 x &&& 255 = x := by
  have t : ∀ k : Fin 256, lo8 (Int32.ofNat k.val) &&& 255 = Int32.ofNat k.val := by decide +kernel
  rw [Int32.lt_iff_toInt_lt] at h0 h1
  have e0 : (0 : Int32).toInt = 0 := rfl
  have e1 : (255 : Int32).toInt = 255 := rfl
  obtain ⟨k, hk⟩ : ∃ k : Nat, x.toInt = k := ⟨x.toInt.toNat, by omega⟩
  have hx : x = Int32.ofNat k := Int32.toInt_inj.mp (by rw [hk, Int32.toInt_ofNat_small (by omega)])
  rw [hx]
  exact t ⟨k, by omega⟩
end StrChars
namespace StrChars.Road
open Jvm Sem ClassFile Op Lib Jvm.Stand Jvm.Free Jvm.Free.XT
open Jvm.Lib.Cold (StaticIs)
abbrev ST : String := "java/lang/String"
/-- every table word that New1's law asks, flat -/
abbrev words : List Jvm.Cond := [.code New1.yN New1.yB 2 none, .initialized ST, .methodLink ST 27 New4.yN, .instanceMethod New4.yN,
  .code New4.yN New4.yB 6 none, .fieldLink ST 38 ST "COMPACT_STRINGS" "Z", .laysFinal ST ST "value" "[B", .fieldLink ST 9 ST "value" "[B", .laysFinal ST ST "coder" "B", .fieldLink ST 15 ST "coder" "B",
  .methodLink ST 1 Lib.objectInit, .instanceMethod Lib.objectInit, .code Lib.objectInit ⟨#[0xb1]⟩ 1 none, .methodLink ST 177 Cmp3.yN, .static Cmp3.yN, .methodLink ST 47 CodL.yN, .static CodL.yN,
  .code Cmp3.yN Cmp3.yB 6 (some (.array .byte)), .initialized U16, .arrayClass .byte, .methodLink U16 115 Cmp5.yN, .static Cmp5.yN, .code Cmp5.yN Cmp5.yB 7 (some .int), .code CodL.yN CodL.yB 2 (some .byte)]
theorem tab_of {a : Array Value} {s : State} (h : ∀ w ∈ words, w.before a s = true) : New1.tab.before a s = true := by
  have h5 : Cmp5.tab.before a s = true := unparts (wk h (.code Cmp5.yN Cmp5.yB 7 (some .int))) (wks h (.initialized Cmp5.yN.cls :: Cmp5.site))
  have hc : CodL.tab.before a s = true := unparts (wk h (.code CodL.yN CodL.yB 2 (some .byte))) (wks h (.initialized CodL.yN.cls :: CodL.site))
  have q5 : ∀ w ∈ Cmp5.tab :: words, w.before a s = true := fun w hw => (List.mem_cons.mp hw).elim (fun e => e ▸ h5) (h w)
  have h3 : Cmp3.tab.before a s = true := unparts (wk q5 (.code Cmp3.yN Cmp3.yB 6 (some (.array .byte)))) (wks q5 (.initialized Cmp3.yN.cls :: Cmp3.site))
  have q3 : ∀ w ∈ Cmp3.tab :: CodL.tab :: words, w.before a s = true := fun w hw => (List.mem_cons.mp hw).elim (fun e => e ▸ h3) fun hw => (List.mem_cons.mp hw).elim (fun e => e ▸ hc) (h w)
  have h4 : New4.tab.before a s = true := unparts (wk q3 (.code New4.yN New4.yB 6 none)) (wks q3 (.initialized New4.yN.cls :: New4.site))
  have q4 : ∀ w ∈ New4.tab :: words, w.before a s = true := fun w hw => (List.mem_cons.mp hw).elim (fun e => e ▸ h4) (h w)
  exact unparts (wk q4 (.code New1.yN New1.yB 2 none)) (wks q4 (.initialized New1.yN.cls :: New1.site))
/-- the words ride from the start Z to the walk's own state -/
theorem moved {Z s : State} {a0 args : Array Value} (hZ : Z.Warmed39 s.vm) (hw : ∀ d ∈ words, d.before a0 Z = true) : ∀ d ∈ words, d.before args s = true := fun d hd => by
  have q := hw d hd
  have t : ∀ d ∈ words, d = .arrayClass .byte ∨ (d.onTables && d.keepsFace) = true := by decide +kernel
  rcases t d hd with rfl | t
  · exact RoadKit.mvA hZ q
  · exact RoadKit.mv hZ q t
/-- WHAT COMES BACK, over the tables of the start Z: h the heap at the call, h' behind it -/
def Q (Z : State) (x : Addr) (A : Cell) (h : Heap) (v : Option Value) (h' : Heap) (L : List Loc) : Prop := v = none ∧ (∀ y ∈ L, y.base = x) ∧ RoadKit.Keep h h' [x] ∧ h'.size = h.size + 1 ∧ RoadKit.Exa Z h' x ST ∧ RoadKit.Fld Z h' x ST "value" "[B" (.ref h.size) ∧ RoadKit.Fld Z h' x ST "coder" "B" (.int 0) ∧
  (∃ V : Cell, RoadKit.Arr Z h' h.size V .byte ∧ V.vm = .none ∧ Z.vm.findClass "[B" = some V.cls ∧ V.slots.size = A.slots.size ∧ ∀ j, j < A.slots.size → V.slots[j]? = some (.int (lo8 (cv A j)))) ∧
  ∀ (O n d : String) (w : Value), RoadKit.Fld Z h x O n d w → RoadKit.slotOf Z O n d ≠ RoadKit.slotOf Z ST "value" "[B" → RoadKit.slotOf Z O n d ≠ RoadKit.slotOf Z ST "coder" "B" → RoadKit.Fld Z h' x O n d w
/-- **new String(chars) AT A CALL, IN THE ROAD'S FORM**: for specialBack behind newO: x the fresh String, b the char[] with the cell A -/
theorem back {p : Program} {l : Launch} {e : Env} {R : Room} {s : State} {args : Array Value} {below : List Frame} {len W : Nat} {Z : State} {a0 : Array Value} {h : Heap} (hZ : Z.Warmed39 s.vm) (hw : ∀ d ∈ words, d.before a0 Z = true) {kI : Nat} (wi : (Jvm.Cond.instantiable ST kI).before a0 Z = true)
    {x b : Addr} {A : Cell} {z : Int32} {v0 c0 : Value} (E : RoadKit.Exa Z h x ST) (V : RoadKit.Fld Z h x ST "value" "[B" v0) (C : RoadKit.Fld Z h x ST "coder" "B" c0) (K : RoadKit.Arr Z h b A .char) (hty : Typed .char A) (S : RoadKit.Sta Z h ST "COMPACT_STRINGS" "Z" (.int z)) (hz : ¬ z = 0)
    (l0 : 0 < A.slots.size) (l2 : A.slots.size ≤ 536870912) (hp : ∀ i, i < A.slots.size → ¬ 255 < cv A i) (hfr : 4 ≤ R.frames) (hlo : W + 65 ≤ R.locals) :
    Back l R p e below s args New1.yN len W (fun P a => a = #[.ref x, .ref b] ∧ P.U.heap = h ∧ P.cells + 1 ≤ R.cells ∧ P.slots + A.slots.size ≤ R.slots)
      (fun P _ v B => ∃ L, Q Z x A h v B.U.heap L ∧ B.locs = P.locs ++ L ∧ B.cells = P.cells + 1 ∧ B.slots = P.slots + A.slots.size) := by
  intro m meth c P g ig mk a X hg hsize hdg hW hn hp'
  obtain ⟨rfl, rfl, r1, r2⟩ := hp'
  have al : Z.vm.Alike P.U.vm := hZ.alike.trans X.warmed.alike
  obtain ⟨D, cfV, kV, iV, fV, hD, gV, stV, knV, obV, asV, slV⟩ := id V
  obtain ⟨D', cfC, kC, iC, fC, hD', gC, stC, -, -, asC, slC⟩ := id C
  cases hD.symm.trans hD'
  obtain ⟨D2, kD, e1, e2, e3, e4, e5⟩ := id E
  cases hD.symm.trans e1
  obtain ⟨c2, k2, i1, i2, i3, -⟩ := Cond.instantiable_spec wi
  cases e2.symm.trans i1
  cases e3.symm.trans i2
  obtain ⟨kU, u1, u2⟩ := al.2.2 _ _ e3
  have hB : Blank ST x D P.U := ⟨hD, ⟨knV, fun q hq => by rw [hq] at obV; cases obV⟩, by rw [al.findClass]; exact e2, kU, u1, by rw [u2]; exact i3, by rw [u2]; exact e5 i3⟩
  have F1 : Found ST "value" "[B" fV P.U := ⟨SBG.found_only al ⟨cfV, kV, iV, gV⟩, stV⟩
  have F2 : Found ST "coder" "B" fC P.U := ⟨SBG.found_only al ⟨cfC, kC, iC, gC⟩, stC⟩
  have hA : Ch b A P.U := ⟨⟨K.1, State.isArrayOf_alike al K.2.1, K.2.2, by omega⟩, hty⟩
  have hS : StaticIs P.U ST "COMPACT_STRINGS" "Z" (.int z) := by
    obtain ⟨cfS, iS, kS, fS, st, cS, t1, t2, t3, t4, t5, t6, t7⟩ := S
    exact StaticIs.there (s := { Z with heap := P.U.heap }) ⟨cfS, iS, kS, fS, st, cS, t1, t2, t3, t4, t5, (fun q => by rw [q] at t6; cases t6), t7⟩ al rfl
  obtain ⟨v, B, X', ⟨⟨hv, E', V', q1, q2, q3, q4, q5, q6, q7, q8, q9, q10, q11⟩, hl, hc, hs⟩, st⟩ := New1.pays x D fV fC b A z (tab_of (moved hZ hw)) hfr hlo m meth c P g ig mk _ X hg hsize hdg hW hn ⟨r1, r2, rfl, hB, F1, F2, hA, hS, hz, l0, l2, hp⟩
  have al' : Z.vm.Alike B.U.vm := hZ.alike.trans X'.warmed.alike
  have hsz : E'.slots.size = D.slots.size := by
    obtain ⟨-, -, -, kB, w1, w2, w3⟩ := q1
    obtain ⟨kB', y1, y2⟩ := al'.2.2 _ _ e3
    rw [q2.2.1] at w1
    cases w1.symm.trans y1
    rw [w3, e5 i3, y2]
  refine ⟨v, B, X', ⟨_, ⟨hv, ?_, ⟨by omega, fun y cy hy hn' => q10 y cy (by simpa using hn') hy, fun y cy hy => ?_⟩, q11, ⟨E', _, q1.1, by rw [q2.2.1]; exact e2, by rw [q2.2.1]; exact e3, by rw [q2.1]; exact obV, fun _ => by rw [hsz]; exact e5 i3⟩,
    ⟨E', cfV, kV, iV, fV, q1.1, gV, stV, by rw [q2.1]; exact knV, by rw [q2.1]; exact obV, by rw [q2.2.1]; exact asV, q3⟩, ⟨E', cfC, kC, iC, fC, q1.1, gC, stC, by rw [q2.1]; exact knV, by rw [q2.1]; exact obV, by rw [q2.2.1]; exact asC, q4⟩,
    ⟨V', ⟨q5.1, State.isArrayOf_alike al'.symm q5.2.1, q5.2.2.1⟩, q6, by rw [← al'.findClass]; exact q7, q8, fun j hj => by have := q9 j hj; rwa [Nat.zero_add] at this⟩, fun O n d w F n1 n2 => ?_⟩, hl, hc, hs⟩, st⟩
  · intro y hy
    simp only [List.mem_cons, List.not_mem_nil, or_false] at hy
    rcases hy with rfl | rfl <;> rfl
  · by_cases q : y = x
    · subst q
      cases hD.symm.trans hy
      exact ⟨E', q1.1, q2.2.1, q2.1, hsz⟩
    · exact ⟨cy, q10 y cy q hy, rfl, rfl, rfl⟩
  · obtain ⟨D3, cf, k, i, f, g1, g2, g3, g4, g5, g6, g7⟩ := F
    cases hD.symm.trans g1
    simp only [RoadKit.slotOf, g2, gV, gC, Option.map_some, Option.getD_some] at n1 n2
    exact ⟨E', cf, k, i, f, q1.1, g2, g3, by rw [q2.1]; exact g4, by rw [q2.1]; exact g5, by rw [q2.2.1]; exact g6, by rw [q2.2.2 f.slot (by simp [n1, n2])]; exact g7⟩
end StrChars.Road
namespace StrChars.Road
open Jvm Sem ClassFile Op Lib Jvm.Stand Jvm.Free Jvm.Free.XT
/-- WHAT COMES BACK, the byte[] as a list of values -/
def QA (Z : State) (x : Addr) (zn : Int32) (cs : List Int32) (h : Heap) (v : Option Value) (h' : Heap) (L : List Loc) : Prop := v = none ∧ (∀ y ∈ L, y.base = x) ∧ RoadKit.Keep h h' [x] ∧ h'.size = h.size + 1 ∧ RoadKit.Exa Z h' x ST ∧ RoadKit.Fld Z h' x ST "value" "[B" (.ref h.size) ∧ RoadKit.Fld Z h' x ST "coder" "B" (.int 0) ∧
  (∃ kb, Z.vm.findClass "[B" = some kb ∧ RoadKit.Arv Z h' h.size kb .byte zn (cs.map fun c => .int (lo8 c)) (.int 0)) ∧
  ∀ (O n d : String) (w : Value), RoadKit.Fld Z h x O n d w → RoadKit.slotOf Z O n d ≠ RoadKit.slotOf Z ST "value" "[B" → RoadKit.slotOf Z O n d ≠ RoadKit.slotOf Z ST "coder" "B" → RoadKit.Fld Z h' x O n d w
/-- **new String(chars) AT A CALL, THE ARRAYS AS LISTS**: the char[] at b holds cs, not empty, no char above 255 -/
theorem backArv {p : Program} {l : Launch} {e : Env} {R : Room} {s : State} {args : Array Value} {below : List Frame} {len W : Nat} {Z : State} {a0 : Array Value} {h : Heap} (hZ : Z.Warmed39 s.vm) (hw : ∀ d ∈ words, d.before a0 Z = true) {kI : Nat} (wi : (Jvm.Cond.instantiable ST kI).before a0 Z = true)
    {x b : Addr} {k : ClassId} {zn z : Int32} {cs : List Int32} {dv v0 c0 : Value} (E : RoadKit.Exa Z h x ST) (V : RoadKit.Fld Z h x ST "value" "[B" v0) (C : RoadKit.Fld Z h x ST "coder" "B" c0) (K : RoadKit.Arv Z h b k .char zn (cs.map Value.int) dv) (S : RoadKit.Sta Z h ST "COMPACT_STRINGS" "Z" (.int z)) (hz : ¬ z = 0)
    (hlen : zn.toNatClampNeg = cs.length) (h0 : 0 < cs.length) (hbig : cs.length ≤ 536870912) (hall : ∀ c ∈ cs, ¬ 255 < c) (hfr : 4 ≤ R.frames) (hlo : W + 65 ≤ R.locals) :
    Back l R p e below s args New1.yN len W (fun P a => a = #[.ref x, .ref b] ∧ P.U.heap = h ∧ P.cells + 1 ≤ R.cells ∧ P.slots + cs.length ≤ R.slots)
      (fun P _ v B => ∃ L, QA Z x zn cs h v B.U.heap L ∧ B.locs = P.locs ++ L ∧ B.cells = P.cells + 1 ∧ B.slots = P.slots + cs.length) := by
  obtain ⟨A, K1, K2, K3, K4, K5, K6⟩ := K
  have e : A.slots.size = cs.length := K3.trans hlen
  have hat : ∀ (i : Nat) (hi : i < cs.length), A.slots[i]? = some (.int cs[i]) := fun i hi => by rw [K5 i (by omega)]; simp [List.getD_eq_getElem?_getD, hi]
  have hcv : ∀ (i : Nat) (hi : i < cs.length), cv A i = cs[i] := fun i hi => by unfold cv; rw [hat i hi]
  have hty : Typed .char A := fun i v hv => by
    have hi : i < A.slots.size := (Array.getElem?_eq_some_iff.mp hv).1
    have q := K5 i hi
    rw [hv] at q
    rw [Option.some.inj q]
    exact K6 i hi
  refine Back.mono (back hZ hw wi E V C K1 hty S hz (by omega) (by omega) (fun i hi => by rw [hcv i (by omega)]; exact hall _ (List.getElem_mem _)) hfr hlo) (fun P a hp => ⟨hp.1, hp.2.1, hp.2.2.1, by rw [e]; exact hp.2.2.2⟩) (fun P a v B hp hq => ?_)
  obtain ⟨L, ⟨q1, q2, q3, q4, q5, q6, q7, ⟨V', v1, v2, v3, v4, v5⟩, q9⟩, hl, hc, hs⟩ := hq
  refine ⟨L, ⟨q1, q2, q3, q4, q5, q6, q7, ⟨V'.cls, v3, V', v1, rfl, by rw [v4, e, hlen], K4, fun i hi => ?_, fun i hi => ?_⟩, q9⟩, hl, hc, by rw [hs, e]⟩
  · have hi' : i < cs.length := by omega
    rw [v5 i (by omega), hcv i hi']; simp [List.getD_eq_getElem?_getD, hi']
  · have hi' : i < cs.length := by omega
    simp only [List.getD_eq_getElem?_getD, List.getElem?_map, List.getElem?_eq_getElem hi', Option.map_some, Option.getD_some]
    exact fits_lo8 _
end StrChars.Road
namespace StrChars.Road
open Jvm Sem ClassFile Op Lib Jvm.Stand Jvm.Free Jvm.Free.XT
/-- WHAT COMES BACK, in the writer's own shape -/
def QV (Z : State) (x : Addr) (N : Int32) (bs : List Int32) (h : Heap) (n0 : Nat) (v : Option Value) (h' : Heap) (L : List Loc) : Prop := v = none ∧ RoadKit.Fr n0 L ∧ RoadKit.Keep h h' [x] ∧ RoadKit.Exa Z h' x ST ∧ RoadKit.Fld Z h' x ST "coder" "B" (.int 0) ∧
  ∃ (t : Addr) (kb : ClassId), n0 ≤ t ∧ h.size ≤ t ∧ ¬ t = x ∧ RoadKit.Fld Z h' x ST "value" "[B" (.ref t) ∧ RoadKit.Arv Z h' t kb .byte N (bs.map Value.int) (.int 0)
/-- **new String(chars) AT A CALL, FOR THE WRITER**: a char[] of n known ints, each 0 to 255 -/
theorem backV {p : Program} {l : Launch} {e : Env} {R : Room} {s : State} {args : Array Value} {below : List Frame} {len W : Nat} {Z : State} {a0 : Array Value} {h : Heap} (hZ : Z.Warmed39 s.vm) (hw : ∀ d ∈ words, d.before a0 Z = true) {kI : Nat} (wi : (Jvm.Cond.instantiable ST kI).before a0 Z = true)
    {x b : Addr} {kC : ClassId} {cs bs : List Int32} {d v0 c0 : Value} {z N : Int32} {n n0 : Nat} (hx0 : n0 ≤ x) (hh0 : n0 ≤ h.size) (E : RoadKit.Exa Z h x ST) (V : RoadKit.Fld Z h x ST "value" "[B" v0) (C : RoadKit.Fld Z h x ST "coder" "B" c0) (K : RoadKit.Arv Z h b kC .char N (cs.map Value.int) d) (S : RoadKit.Sta Z h ST "COMPACT_STRINGS" "Z" (.int z)) (hz : ¬ z = 0)
    (hn : cs.length = n) (hN : N = Int32.ofNat n) (l0 : 0 < n) (l2 : n ≤ 4000) (hp : ∀ c ∈ cs, ¬ c < 0 ∧ ¬ (255 : Int32) < c) (hb : bs = cs.map (fun c => c.toInt8.toInt32)) (hfr : 4 ≤ R.frames) (hlo : W + 65 ≤ R.locals) :
    Back l R p e below s args (⟨"java/lang/String", "<init>", "([C)V"⟩ : MethodName) len W (fun P a => a = #[.ref x, .ref b] ∧ P.U.heap = h ∧ P.cells + 1 ≤ R.cells ∧ P.slots + n ≤ R.slots)
      (fun P _ v B => ∃ L, QV Z x N bs h n0 v B.U.heap L ∧ B.locs = P.locs ++ L ∧ B.cells = P.cells + 1 ∧ B.slots = P.slots + n) := by
  subst hn hN hb
  refine Back.mono (backArv hZ hw wi E V C K S hz (n32 (by omega)) l0 (by omega) (fun c hc => (hp c hc).2) hfr hlo) (fun P a hp => hp) (fun P a v B hp hq => ?_)
  obtain ⟨L, ⟨q1, q2, q3, q4, q5, q6, q7, ⟨kb, v1, v2⟩, q9⟩, hl, hc, hs⟩ := hq
  exact ⟨L, ⟨q1, fun y hy => by rw [q2 y hy]; exact hx0, q3, q5, q7, h.size, kb, hh0, Nat.le_refl _, Nat.ne_of_gt E.lt, q6, by rw [List.map_map]; exact v2⟩, hl, hc, hs⟩
end StrChars.Road
namespace StrChars
open Jvm Sem ClassFile Op Lib Jvm.Stand Jvm.Free.XT Jvm.Free.ALB Jvm.Free.JM Jvm.Free
open Jvm.Lib.Cold (StaticIs)
def hi8 (x : Int32) : Int32 := lo8 (x >>> ((8 : Int32) &&& 31))
/-- what StringUTF16.getChar makes of two bytes -/
def pairCh (u v : Int32) : Int32 := (((u &&& 255) <<< ((0 : Int32) &&& 31)) ||| ((v &&& 255) <<< ((8 : Int32) &&& 31))).toUInt32.toUInt16.toUInt32.toInt32
theorem lo8_and (x : Int32) : (lo8 x &&& 255).toBitVec.toNat = x.toBitVec.toNat % 256 := by
  have h : (lo8 x).toBitVec = (x.toBitVec.signExtend 8).signExtend 32 := by rw [lo8, Int8.toBitVec_toInt32, Int32.toBitVec_toInt8]
  rw [Int32.toBitVec_and, BitVec.toNat_and, h]
  have e : ((x.toBitVec.signExtend 8).signExtend 32).toNat % 256 = x.toBitVec.toNat % 256 := by
    rw [BitVec.toNat_signExtend]
    have hlt := x.toBitVec.isLt
    simp only [BitVec.toNat_setWidth, BitVec.toNat_signExtend]
    split <;> split <;> omega
  rw [← e]
  exact Nat.and_two_pow_sub_one_eq_mod _ 8
theorem pair_says {c : Int32} (h0 : ¬ c < 0) (h1 : ¬ 65535 < c) : pairCh (lo8 c) (hi8 c) = c := by
  rw [Int32.lt_iff_toInt_lt] at h0 h1
  have e0 : (0 : Int32).toInt = 0 := rfl
  have e1 : (65535 : Int32).toInt = 65535 := rfl
  have hc : c.toInt = c.toBitVec.toNat := by
    have := c.toBitVec.isLt
    have e : c.toInt = c.toBitVec.toInt := rfl
    rw [e] at h0 h1
    rw [e]
    rw [BitVec.toInt_eq_toNat_cond] at h0 h1 ⊢
    split at h0 <;> split <;> omega
  have hn : c.toBitVec.toNat < 65536 := by omega
  have a1 := lo8_and c
  have a2 : (hi8 c &&& 255).toBitVec.toNat = c.toBitVec.toNat / 256 := by
    rw [hi8, lo8_and]
    have e : ((8 : Int32) &&& 31) = 8 := by decide
    rw [e, Int32.toBitVec_shiftRight]
    have e2 : ((8 : Int32).toBitVec.smod 32) = 8#32 := by decide
    rw [e2, BitVec.sshiftRight_eq', BitVec.toNat_sshiftRight_of_msb_false (by rw [BitVec.msb_eq_false_iff_two_mul_lt]; omega)]
    show c.toBitVec.toNat >>> 8 % 256 = _
    rw [Nat.shiftRight_eq_div_pow]
    omega
  unfold pairCh
  apply Int32.toBitVec_inj.mp
  apply BitVec.eq_of_toNat_eq
  have f0 : ((0 : Int32) &&& 31) = 0 := by decide
  have f8 : ((8 : Int32) &&& 31) = 8 := by decide
  rw [f0, f8]
  have g : (((lo8 c &&& 255) <<< (0 : Int32)) ||| ((hi8 c &&& 255) <<< (8 : Int32))).toBitVec.toNat = c.toBitVec.toNat := by
    rw [Int32.toBitVec_or, Int32.toBitVec_shiftLeft, Int32.toBitVec_shiftLeft]
    have s0 : ((0 : Int32).toBitVec.smod 32) = 0#32 := by decide
    have s8 : ((8 : Int32).toBitVec.smod 32) = 8#32 := by decide
    rw [s0, s8, BitVec.toNat_or]
    simp only [BitVec.shiftLeft_eq', BitVec.toNat_shiftLeft, a1, a2]
    show (c.toBitVec.toNat % 256) <<< 0 % 2 ^ 32 ||| (c.toBitVec.toNat / 256) <<< 8 % 2 ^ 32 = _
    rw [Nat.shiftLeft_zero, Nat.mod_eq_of_lt (show c.toBitVec.toNat % 256 < 2 ^ 32 by omega), Nat.mod_eq_of_lt (show (c.toBitVec.toNat / 256) <<< 8 < 2 ^ 32 by rw [Nat.shiftLeft_eq]; omega), Nat.or_comm, ← Nat.shiftLeft_add_eq_or_of_lt (by omega), Nat.shiftLeft_eq]
    omega
  show BitVec.toNat (((((lo8 c &&& 255) <<< (0 : Int32)) ||| ((hi8 c &&& 255) <<< (8 : Int32))).toBitVec.setWidth 16).setWidth 32) = _
  rw [BitVec.toNat_setWidth, BitVec.toNat_setWidth, g]
  omega
end StrChars
namespace StrChars
open Jvm Sem ClassFile Op Lib Jvm.Stand Jvm.Free.XT Jvm.Free.ALB Jvm.Free.JM Jvm.Free
open Jvm.Lib.Cold (StaticIs)
/-- the array's cell V codes the n chars f 0 .. f (n - 1) by the coder cd, as the JDK does: coder 1 just where some char is above 255 -/
def Cod (cd : Int32) (n : Nat) (f : Nat → Int32) (V : Cell) : Prop := (cd = 0 ∧ V.slots.size = n ∧ ∀ j, j < n → V.slots[j]? = some (.int (lo8 (f j))) ∧ ¬ 255 < f j) ∨ (cd = 1 ∧ V.slots.size = 2 * n ∧ (∀ j, j < n → V.slots[2 * j]? = some (.int (lo8 (f j))) ∧ V.slots[2 * j + 1]? = some (.int (hi8 (f j)))) ∧ ∃ j, j < n ∧ 255 < f j)
/-- **x is a String of the n chars f 0 .. f (n - 1)**, Latin-1 or UTF-16; its array at t has the cell V -/
def Txt (x t : Addr) (V : Cell) (cd : Int32) (n : Nat) (f : Nat → Int32) (U : State) : Prop := Exact "java/lang/String" x U ∧ Has x "java/lang/String" "value" "[B" (.ref t) U ∧ Has x "java/lang/String" "coder" "B" (.int cd) U ∧ XT.Arr .byte t V U ∧ Cod cd n f V ∧ ∀ j, j < n → ¬ f j < 0 ∧ ¬ 65535 < f j
theorem Txt.mv {x t : Addr} {V : Cell} {cd : Int32} {n : Nat} {f : Nat → Int32} {U U' : State} (h : Txt x t V cd n f U) (hal : U.vm.Alike U'.vm) (hh : U'.heap = U.heap) : Txt x t V cd n f U' := ⟨h.1.mv hal hh, h.2.1.mv hal hh, h.2.2.1.mv hal hh, h.2.2.2.1.mv hal hh, h.2.2.2.2⟩
end StrChars
namespace StrChars.Road
open Jvm Sem ClassFile Op Lib Jvm.Stand Jvm.Free Jvm.Free.XT
open Jvm.Lib.Cold (StaticIs)
theorem consq {a : Array Value} {s : State} {c : Jvm.Cond} {L : List Jvm.Cond} (h0 : c.before a s = true) (h : ∀ w ∈ L, w.before a s = true) : ∀ w ∈ c :: L, w.before a s = true := fun w hw => (List.mem_cons.mp hw).elim (fun e => e ▸ h0) (h w)
/-- the bytes of the chars cs, low before high -/
def wideBytes : List Int32 → List Value
  | [] => []
  | c :: cs => .int (lo8 c) :: .int (hi8 c) :: wideBytes cs
theorem wide_lo (d : Value) : ∀ (cs : List Int32) (j : Nat), j < cs.length → (wideBytes cs).getD (2 * j) d = .int (lo8 (cs.getD j 0))
  | [], j, h => absurd h (Nat.not_lt_zero j)
  | c :: cs, 0, _ => rfl
  | c :: cs, j + 1, h => by
    have q := wide_lo d cs j (by simpa using h)
    rw [show 2 * (j + 1) = 2 * j + 1 + 1 from by omega]
    simpa [wideBytes] using q
theorem wide_hi (d : Value) : ∀ (cs : List Int32) (j : Nat), j < cs.length → (wideBytes cs).getD (2 * j + 1) d = .int (hi8 (cs.getD j 0))
  | [], j, h => absurd h (Nat.not_lt_zero j)
  | c :: cs, 0, _ => rfl
  | c :: cs, j + 1, h => by
    have q := wide_hi d cs j (by simpa using h)
    rw [show 2 * (j + 1) + 1 = 2 * j + 1 + 1 + 1 from by omega]
    simpa [wideBytes] using q
theorem low_at (d : Value) (cs : List Int32) (j : Nat) (h : j < cs.length) : (cs.map fun c => Value.int (lo8 c)).getD j d = .int (lo8 (cs.getD j 0)) := by
  simp [List.getD_eq_getElem?_getD, h]
/-- an array of N2 bytes vs codes the chars cs by the coder cd -/
def CodA (cs : List Int32) (cd N2 : Int32) (vs : List Value) : Prop := (cd = 0 ∧ N2 = Int32.ofNat cs.length ∧ vs = (cs.map fun c => Value.int (lo8 c)) ∧ ∀ c ∈ cs, ¬ 255 < c) ∨ (cd = 1 ∧ N2 = Int32.ofNat (2 * cs.length) ∧ vs = wideBytes cs ∧ ∃ c ∈ cs, 255 < c)
theorem CodA.cod {cs : List Int32} {cd N2 : Int32} {vs : List Value} {V : Cell} (h : CodA cs cd N2 vs) (hn : 2 * cs.length < 2 ^ 31) (hs : V.slots.size = N2.toNatClampNeg) (hv : RoadKit.Has V vs (.int 0)) : Cod cd cs.length (fun j => cs.getD j 0) V := by
  rcases h with ⟨rfl, rfl, rfl, h⟩ | ⟨rfl, rfl, rfl, c, hc, hw⟩
  · rw [n32 (by omega)] at hs
    exact Or.inl ⟨rfl, hs, fun j hj => ⟨by rw [hv j (by omega), low_at _ _ _ hj], by
      have e : cs.getD j 0 = cs[j] := by simp [List.getD_eq_getElem?_getD, hj]
      show ¬ 255 < cs.getD j 0
      rw [e]; exact h _ (List.getElem_mem _)⟩⟩
  · rw [n32 (by omega)] at hs
    obtain ⟨j, hj, rfl⟩ := List.getElem_of_mem hc
    exact Or.inr ⟨rfl, hs, fun j hj => ⟨by rw [hv _ (by omega), wide_lo _ _ _ hj], by rw [hv _ (by omega), wide_hi _ _ _ hj]⟩, j, hj, by
      have e : cs.getD j 0 = cs[j] := by simp [List.getD_eq_getElem?_getD, hj]
      show 255 < cs.getD j 0
      rw [e]; exact hw⟩
/-- an object of exactly java/lang/String, its two fields found: as the laws ask it -/
theorem strObj {Z U : State} {a0 : Array Value} {kI : Nat} (wi : (Jvm.Cond.instantiable ST kI).before a0 Z = true) (al : Z.vm.Alike U.vm) {x : Addr} {v0 c0 : Value} (E : RoadKit.Exa Z U.heap x ST) (V : RoadKit.Fld Z U.heap x ST "value" "[B" v0) (C : RoadKit.Fld Z U.heap x ST "coder" "B" c0) :
    ∃ (D : Cell) (fV fC : Field), Blank ST x D U ∧ Found ST "value" "[B" fV U ∧ Found ST "coder" "B" fC U ∧ D.slots[fV.slot]? = some v0 ∧ D.slots[fC.slot]? = some c0 ∧ RoadKit.slotOf Z ST "value" "[B" = fV.slot ∧ RoadKit.slotOf Z ST "coder" "B" = fC.slot := by
  obtain ⟨D, cfV, kV, iV, fV, hD, gV, stV, knV, obV, asV, slV⟩ := V
  obtain ⟨D', cfC, kC, iC, fC, hD', gC, stC, -, -, asC, slC⟩ := C
  cases hD.symm.trans hD'
  obtain ⟨D2, kD, e1, e2, e3, e4, e5⟩ := E
  cases hD.symm.trans e1
  obtain ⟨c2, k2, i1, i2, i3, -⟩ := Cond.instantiable_spec wi
  cases e2.symm.trans i1
  cases e3.symm.trans i2
  obtain ⟨kU, u1, u2⟩ := al.2.2 _ _ e3
  exact ⟨D, fV, fC, ⟨hD, ⟨knV, fun q hq => by rw [hq] at obV; cases obV⟩, by rw [al.findClass]; exact e2, kU, u1, by rw [u2]; exact i3, by rw [u2]; exact e5 i3⟩, ⟨SBG.found_only al ⟨cfV, kV, iV, gV⟩, stV⟩, ⟨SBG.found_only al ⟨cfC, kC, iC, gC⟩, stC⟩, slV, slC, by simp [RoadKit.slotOf, gV], by simp [RoadKit.slotOf, gC]⟩
theorem sta_is {Z U : State} (al : Z.vm.Alike U.vm) {C n d : String} {v : Value} (S : RoadKit.Sta Z U.heap C n d v) : StaticIs U C n d v := by
  obtain ⟨cfS, iS, kS, fS, st, cS, t1, t2, t3, t4, t5, t6, t7⟩ := S
  exact StaticIs.there (s := { Z with heap := U.heap }) ⟨cfS, iS, kS, fS, st, cS, t1, t2, t3, t4, t5, (fun q => by rw [q] at t6; cases t6), t7⟩ al rfl
end StrChars.Road
namespace StrChars
open Jvm Sem ClassFile Op Lib Jvm.Stand Jvm.Free.XT Jvm.Free.ALB Jvm.Free.JM Jvm.Free
open Jvm.Lib.Cold (StaticIs)
/-- what place i of a byte[]'s cell holds -/
def yv (A : Cell) (i : Nat) : Int32 := match A.slots[i]? with | some (.int x) => x | _ => 0
theorem yv_get {a : Addr} {A : Cell} {U : State} (h : XT.Arr .byte a A U) (ht : Typed .byte A) {i : Nat} (hi : i < A.slots.size) : A.slots[i]? = some (.int (yv A i)) := by
  have e := Array.getElem?_eq_getElem hi
  have f := ht i _ e
  unfold yv; rw [e]
  generalize A.slots[i] = v at f
  cases v <;> simp [fits] at f ⊢
/-- the two arrays are equal, place for place -/
def EqC (A B : Cell) : Prop := A.slots.size = B.slots.size ∧ ∀ i, i < A.slots.size → yv A i = yv B i
/-- a boolean that says whether p -/
def Says01 (q : Prop) (r : Option Value) (s u : State) : Prop := ∃ v : Int32, r = some (.int v) ∧ u.heap = s.heap ∧ ((v = 1 ∧ q) ∨ (v = 0 ∧ ¬ q))
theorem Says01.mv {q : Prop} : ∀ r (U U' V V' : State), U'.heap = U.heap → V.vm.Alike V'.vm → V'.heap = V.heap → Says01 q r U V → Says01 q r U' V' :=
  fun r U U' V V' h1 _ h2 ⟨v, a, b, c⟩ => ⟨v, a, by rw [h1, h2]; exact b, c⟩
namespace LEq
def yN : MethodName := ⟨"java/lang/StringLatin1", "equals", "([B[B)Z"⟩
abbrev yB : ByteArray := jdk_43_method_13_code
theorem d0 : decode yB 0 = .ok (.aload_n 0, 1) := by decide +kernel
theorem d1 : decode yB 1 = .ok (.arraylength, 1) := by decide +kernel
theorem d2 : decode yB 2 = .ok (.aload_n 1, 1) := by decide +kernel
theorem d3 : decode yB 3 = .ok (.arraylength, 1) := by decide +kernel
theorem d4 : decode yB 4 = .ok (.if_icmp (.ne) 30, 3) := by decide +kernel
theorem d7 : decode yB 7 = .ok (.iconst 0, 1) := by decide +kernel
theorem d8 : decode yB 8 = .ok (.istore_n 2, 1) := by decide +kernel
theorem d9 : decode yB 9 = .ok (.iload_n 2, 1) := by decide +kernel
theorem d10 : decode yB 10 = .ok (.aload_n 0, 1) := by decide +kernel
theorem d11 : decode yB 11 = .ok (.arraylength, 1) := by decide +kernel
theorem d12 : decode yB 12 = .ok (.if_icmp (.ge) 20, 3) := by decide +kernel
theorem d15 : decode yB 15 = .ok (.aload_n 0, 1) := by decide +kernel
theorem d16 : decode yB 16 = .ok (.iload_n 2, 1) := by decide +kernel
theorem d17 : decode yB 17 = .ok (.baload, 1) := by decide +kernel
theorem d18 : decode yB 18 = .ok (.aload_n 1, 1) := by decide +kernel
theorem d19 : decode yB 19 = .ok (.iload_n 2, 1) := by decide +kernel
theorem d20 : decode yB 20 = .ok (.baload, 1) := by decide +kernel
theorem d21 : decode yB 21 = .ok (.if_icmp (.eq) 5, 3) := by decide +kernel
theorem d24 : decode yB 24 = .ok (.iconst 0, 1) := by decide +kernel
theorem d25 : decode yB 25 = .ok (.ireturn, 1) := by decide +kernel
theorem d26 : decode yB 26 = .ok (.iinc 2 1, 3) := by decide +kernel
theorem d29 : decode yB 29 = .ok (.goto (-20), 3) := by decide +kernel
theorem d32 : decode yB 32 = .ok (.iconst 1, 1) := by decide +kernel
theorem d33 : decode yB 33 = .ok (.ireturn, 1) := by decide +kernel
theorem d34 : decode yB 34 = .ok (.iconst 0, 1) := by decide +kernel
theorem d35 : decode yB 35 = .ok (.ireturn, 1) := by decide +kernel
def site : List Cond := []
def tab : Cond := tabOf yN yB 3 (some .boolean) site
def P (a : Addr) (A : Cell) (b : Addr) (B : Cell) (args : Array Value) (s : State) : Prop := args = #[.ref a, .ref b] ∧ XT.Arr .byte a A s ∧ Typed .byte A ∧ XT.Arr .byte b B s ∧ Typed .byte B
/-- whether two byte[] are equal, place for place -/
theorem law (l : Launch) (a : Addr) (A : Cell) (b : Addr) (B : Cell) : Law l yN 2 2 0 0 yB 3 (some .boolean) site (P a A b B) (Says01 (EqC A B)) [] 0 0 := by
  refine Law.of_walk (plainFor_of_name (by decide +kernel)) (by decide +kernel) (by decide +kernel) (by decide) (fun _ _ h => by rw [h.1]; rfl) (fun _ U U' hal hh h => ⟨h.1, h.2.1.mv hal hh, h.2.2.1, h.2.2.2.1.mv hal hh, h.2.2.2.2⟩) (fun r U U' V V' h1 hal h2 h => Says01.mv r U U' V V' h1 hal h2 h) ?_
  intro p e s m args below meth c s₁ X0 hexec hbytes hml hret hlk hnm hown hh0 W hP
  obtain ⟨rfl, hA, tA, hB, tB⟩ := hP
  have a31 := hA.2.2.2
  have b31 := hB.2.2.2
  have hA0 := hA.mv X0.warmed.alike hh0
  have hB0 := hB.mv X0.warmed.alike hh0
  have c1 : Steps p.tables e below (s₁.setTop (entryFrame m #[.ref a, .ref b] 3)) (s₁.setTop (mkF m 0 #[.val (.ref a), .val (.ref b), .unset] [])) := entry rfl
  have c2 : Steps p.tables e below (s₁.setTop (entryFrame m #[.ref a, .ref b] 3)) (s₁.setTop (mkF m 4 #[.val (.ref a), .val (.ref b), .unset] [.int (Int32.ofNat B.slots.size), .int (Int32.ofNat A.slots.size)])) := c1.trans (by
    refine XS.aloadN X0.here hexec rfl (hb hbytes d0) rfl rfl ?_
    refine X0.alen hexec hA0 rfl rfl (hb hbytes d1) ?_
    refine XS.aloadN X0.here hexec rfl (hb hbytes d2) rfl rfl ?_
    refine X0.alen hexec hB0 rfl rfl (hb hbytes d3) ?_
    exact Steps.refl _)
  by_cases hs : A.slots.size = B.slots.size
  · have c3 : Steps p.tables e below (s₁.setTop (entryFrame m #[.ref a, .ref b] 3)) (s₁.setTop (mkF m 9 #[.val (.ref a), .val (.ref b), .val (.int 0)] [])) := c2.trans (by
      refine XS.icmpNo X0.here hexec rfl (hb hbytes d4) rfl (ii_ne_f (by rw [hs])) ?_
      refine iconstV X0.here hexec rfl 0 (hb hbytes d7) (by decide) ?_
      refine XS.istoreN X0.here hexec rfl (hb hbytes d8) rfl rfl ?_
      exact Steps.refl _)
    have loop : ∀ (r i : Nat), i + r = A.slots.size → (∀ j, j < i → yv A j = yv B j) → Steps p.tables e below (s₁.setTop (entryFrame m #[.ref a, .ref b] 3)) (s₁.setTop (mkF m 9 #[.val (.ref a), .val (.ref b), .val (.int (Int32.ofNat i))] [])) → ∃ (pc : Nat) (Ls : Array Slot) (v : Int32), (pc = 25 ∨ pc = 33) ∧ ((v = 1 ∧ EqC A B) ∨ (v = 0 ∧ ¬ EqC A B)) ∧ Steps p.tables e below (s₁.setTop (entryFrame m #[.ref a, .ref b] 3)) (s₁.setTop (mkF m pc Ls [.int v])) := by
      intro r
      induction r with
      | zero =>
        intro i hi he cl
        exact ⟨33, _, 1, Or.inr rfl, Or.inl ⟨rfl, hs, fun j hj => he j (by omega)⟩, cl.trans (by
          refine XS.iloadN X0.here hexec rfl (hb hbytes d9) rfl ?_
          refine XS.aloadN X0.here hexec rfl (hb hbytes d10) rfl rfl ?_
          refine X0.alen hexec hA0 rfl rfl (hb hbytes d11) ?_
          refine XS.icmpYes X0.here hexec rfl (pc0 := 12) rfl (hb hbytes d12) rfl (ii_ge_t (nlt32 (by omega) (by omega))) (by decide) rfl ?_
          refine iconstV X0.here hexec rfl 1 (hb hbytes d32) (by decide) ?_
          exact Steps.refl _)⟩
      | succ r ih =>
        intro i hi he cl
        have c4 : Steps p.tables e below (s₁.setTop (entryFrame m #[.ref a, .ref b] 3)) (s₁.setTop (mkF m 21 #[.val (.ref a), .val (.ref b), .val (.int (Int32.ofNat i))] [.int (yv B i), .int (yv A i)])) := cl.trans (by
          refine XS.iloadN X0.here hexec rfl (hb hbytes d9) rfl ?_
          refine XS.aloadN X0.here hexec rfl (hb hbytes d10) rfl rfl ?_
          refine X0.alen hexec hA0 rfl rfl (hb hbytes d11) ?_
          refine XS.icmpNo X0.here hexec rfl (hb hbytes d12) rfl (ii_ge_f (lt32 (by omega) (by omega))) ?_
          refine XS.aloadN X0.here hexec rfl (hb hbytes d15) rfl rfl ?_
          refine XS.iloadN X0.here hexec rfl (hb hbytes d16) rfl ?_
          refine X0.aget hexec hA0 rfl (yv_get hA tA (i := i) (by omega)) rfl rfl (hb hbytes d17) ?_
          refine XS.aloadN X0.here hexec rfl (hb hbytes d18) rfl rfl ?_
          refine XS.iloadN X0.here hexec rfl (hb hbytes d19) rfl ?_
          refine X0.aget hexec hB0 rfl (yv_get hB tB (i := i) (by omega)) rfl rfl (hb hbytes d20) ?_
          exact Steps.refl _)
        by_cases hv : yv A i = yv B i
        · have c5 : Steps p.tables e below (s₁.setTop (entryFrame m #[.ref a, .ref b] 3)) (s₁.setTop (mkF m 9 #[.val (.ref a), .val (.ref b), .val (.int (Int32.ofNat i + 1))] [])) := c4.trans (by
            refine XS.icmpYes X0.here hexec rfl (pc0 := 21) rfl (hb hbytes d21) rfl (ii_eq_t hv) (by decide) rfl ?_
            refine iincV X0.here hexec rfl 1 (hb hbytes d26) (by decide) rfl rfl ?_
            refine XS.goto X0.here hexec rfl (pc0 := 29) rfl (hb hbytes d29) (by decide) rfl ?_
            exact Steps.refl _)
          rw [succ32] at c5
          exact ih (i + 1) (by omega) (fun j hj => by
            by_cases e : j = i
            · rw [e]; exact hv
            · exact he j (by omega)) c5
        · exact ⟨25, _, 0, Or.inl rfl, Or.inr ⟨rfl, fun q => hv (q.2 i (by omega))⟩, c4.trans (by
            refine XS.icmpNo X0.here hexec rfl (hb hbytes d21) rfl (ii_eq_f hv) ?_
            refine iconstV X0.here hexec rfl 0 (hb hbytes d24) (by decide) ?_
            exact Steps.refl _)⟩
    obtain ⟨pc, Ls, v, hpc, hv, cz⟩ := loop A.slots.size 0 (by omega) (fun j hj => absurd hj (Nat.not_lt_zero j)) c3
    have nv : narrow .boolean (.int v) = .int v := by rcases hv with ⟨rfl, -⟩ | ⟨rfl, -⟩ <;> rfl
    rcases hpc with rfl | rfl
    · exact ⟨s₁, some (.int v), _, _, _, X0, rfl, rfl, rfl, (fun h => by cases h), ⟨v, rfl, hh0, hv⟩, fun fs hl => cz.trans (X0.ireturnOut hexec hret nv (Or.inr (Or.inl rfl)) (hb hbytes d25) hl)⟩
    · exact ⟨s₁, some (.int v), _, _, _, X0, rfl, rfl, rfl, (fun h => by cases h), ⟨v, rfl, hh0, hv⟩, fun fs hl => cz.trans (X0.ireturnOut hexec hret nv (Or.inr (Or.inl rfl)) (hb hbytes d33) hl)⟩
  · have c3 : Steps p.tables e below (s₁.setTop (entryFrame m #[.ref a, .ref b] 3)) (s₁.setTop (mkF m 35 #[.val (.ref a), .val (.ref b), .unset] [.int 0])) := c2.trans (by
      refine XS.icmpYes X0.here hexec rfl (pc0 := 4) rfl (hb hbytes d4) rfl (ii_ne_t (ne32 a31 b31 hs)) (by decide) rfl ?_
      refine iconstV X0.here hexec rfl 0 (hb hbytes d34) (by decide) ?_
      exact Steps.refl _)
    exact ⟨s₁, some (.int 0), _, _, _, X0, rfl, rfl, rfl, (fun h => by cases h), ⟨0, rfl, hh0, Or.inr ⟨rfl, fun q => hs q.1⟩⟩, fun fs hl => c3.trans (X0.ireturnOut hexec hret rfl (Or.inr (Or.inl rfl)) (hb hbytes d35) hl)⟩
end LEq
theorem Cod.ty {cd : Int32} {n : Nat} {f : Nat → Int32} {V : Cell} (h : Cod cd n f V) : Typed .byte V := fun i v hv => by
  have hi : i < V.slots.size := (Array.getElem?_eq_some_iff.mp hv).1
  rcases h with ⟨-, k1, k2⟩ | ⟨-, k1, k2, -⟩
  · rw [(k2 i (by omega)).1] at hv; cases hv; exact fits_lo8 _
  · rcases Nat.mod_two_eq_zero_or_one i with e | e
    · obtain ⟨j, rfl⟩ : ∃ j, i = 2 * j := ⟨i / 2, by omega⟩
      rw [(k2 j (by omega)).1] at hv; cases hv; exact fits_lo8 _
    · obtain ⟨j, rfl⟩ : ∃ j, i = 2 * j + 1 := ⟨i / 2, by omega⟩
      rw [(k2 j (by omega)).2] at hv; cases hv; exact fits_lo8 _
/-- the same text -/
def SameT (n : Nat) (f : Nat → Int32) (k : Nat) (g : Nat → Int32) : Prop := n = k ∧ ∀ j, j < n → f j = g j
theorem lo8_inj {x y : Int32} (h0 : ¬ x < 0) (h1 : ¬ 255 < x) (k0 : ¬ y < 0) (k1 : ¬ 255 < y) (h : lo8 x = lo8 y) : x = y := by
  rw [← lo8_mask h0 h1, ← lo8_mask k0 k1, h]
/-- arrays coded by one coder are equal just where the texts are -/
theorem Cod.eqv {cd : Int32} {n k : Nat} {f g : Nat → Int32} {V V' : Cell} (h : Cod cd n f V) (h' : Cod cd k g V') (hf : ∀ j, j < n → ¬ f j < 0 ∧ ¬ 65535 < f j) (hg : ∀ j, j < k → ¬ g j < 0 ∧ ¬ 65535 < g j) : EqC V V' ↔ SameT n f k g := by
  have yvv : ∀ {W : Cell} {i : Nat} {x : Int32}, W.slots[i]? = some (.int x) → yv W i = x := fun q => by unfold yv; rw [q]
  rcases h with ⟨rfl, k1, k2⟩ | ⟨rfl, k1, k2, -⟩
  · rcases h' with ⟨-, m1, m2⟩ | ⟨e, -⟩
    · constructor
      · rintro ⟨e1, e2⟩
        refine ⟨by omega, fun j hj => ?_⟩
        have q := e2 j (by omega)
        rw [yvv (k2 j hj).1, yvv (m2 j (by omega)).1] at q
        exact lo8_inj (hf j hj).1 (k2 j hj).2 (hg j (by omega)).1 (m2 j (by omega)).2 q
      · rintro ⟨rfl, e2⟩
        refine ⟨by omega, fun j hj => ?_⟩
        rw [yvv (k2 j (by omega)).1, yvv (m2 j (by omega)).1, e2 j (by omega)]
    · exact absurd e (by decide)
  · rcases h' with ⟨e, -⟩ | ⟨-, m1, m2, -⟩
    · exact absurd e (by decide)
    · constructor
      · rintro ⟨e1, e2⟩
        refine ⟨by omega, fun j hj => ?_⟩
        have q1 := e2 (2 * j) (by omega)
        have q2 := e2 (2 * j + 1) (by omega)
        rw [yvv (k2 j hj).1, yvv (m2 j (by omega)).1] at q1
        rw [yvv (k2 j hj).2, yvv (m2 j (by omega)).2] at q2
        rw [← pair_says (hf j hj).1 (hf j hj).2, ← pair_says (hg j (by omega)).1 (hg j (by omega)).2, q1, q2]
      · rintro ⟨rfl, e2⟩
        refine ⟨by omega, fun i hi => ?_⟩
        rcases Nat.mod_two_eq_zero_or_one i with e | e
        · obtain ⟨j, rfl⟩ : ∃ j, i = 2 * j := ⟨i / 2, by omega⟩
          rw [yvv (k2 j (by omega)).1, yvv (m2 j (by omega)).1, e2 j (by omega)]
        · obtain ⟨j, rfl⟩ : ∃ j, i = 2 * j + 1 := ⟨i / 2, by omega⟩
          rw [yvv (k2 j (by omega)).2, yvv (m2 j (by omega)).2, e2 j (by omega)]
/-- two codings differ: so do the texts -/
theorem Cod.dif {cd cd' : Int32} {n k : Nat} {f g : Nat → Int32} {V V' : Cell} (h : Cod cd n f V) (h' : Cod cd' k g V') (hne : ¬ cd = cd') : ¬ SameT n f k g := by
  rintro ⟨rfl, e⟩
  rcases h with ⟨rfl, -, k2⟩ | ⟨rfl, -, -, j, hj, hw⟩
  · rcases h' with ⟨rfl, -⟩ | ⟨-, -, -, j, hj, hw⟩
    · exact hne rfl
    · exact (k2 j hj).2 (by rw [e j hj]; exact hw)
  · rcases h' with ⟨-, -, m2⟩ | ⟨rfl, -⟩
    · exact (m2 j hj).2 (by rw [← e j hj]; exact hw)
    · exact hne rfl
/-- an object of exactly C is an instance of C -/
theorem cinst {p : Program} {l : Launch} {e : Env} {R : Room} {s : State} {m : MethodId} {args : Array Value} {below : List Frame} {meth : Method} {c : Code} {T : State} {locs : List Loc} {cells slots : Nat} (X : Stand p l e R s m args below meth c T locs cells slots) (hexec : p.tables.exec = Jvm.exec) {own C : String} {index : Nat} (hown : s.vm.findClass own = some m.cls) (hlink : (Cond.classLink own index C).before args s = true) {a : Addr} (hE : Exact C a T)
    {g : JFrame} (hg : g.method = m) {rest : List Value} (hstack : g.stack = .ref a :: rest) (hdg : decode c.code g.pc = .ok (.instanceof index, 3)) :
    ∃ T', Stand p l e R s m args below meth c T' locs cells slots ∧ T'.heap = T.heap ∧ ∀ target, Steps p.tables e below (T'.setTop { g with pc := g.pc + 3, stack := .int 1 :: rest }) target → Steps p.tables e below (T.setTop g) target := by
  obtain ⟨cB, h1, D, h2, h3, h4⟩ := hE
  have h1' : s.vm.findClass C = some cB := by rw [← X.warmed.alike.findClass]; exact h1
  obtain ⟨vm', X', st⟩ := X.instanceofYes hexec hown hlink h2 h4 h1' (by rw [h3]; exact Jvm.Free.SB.assignable_self _ _) hg hstack hdg
  exact ⟨_, X', rfl, st⟩
theorem cself {p : Program} {l : Launch} {e : Env} {R : Room} {s : State} {m : MethodId} {args : Array Value} {below : List Frame} {meth : Method} {c : Code} {T : State} {locs : List Loc} {cells slots : Nat} (X : Stand p l e R s m args below meth c T locs cells slots) (hexec : p.tables.exec = Jvm.exec) {own C : String} {index : Nat} (hown : s.vm.findClass own = some m.cls) (hlink : (Cond.classLink own index C).before args s = true) {a : Addr} (hE : Exact C a T)
    {g : JFrame} (hg : g.method = m) {rest : List Value} (hstack : g.stack = .ref a :: rest) (hdg : decode c.code g.pc = .ok (.checkcast index, 3)) :
    ∃ T', Stand p l e R s m args below meth c T' locs cells slots ∧ T'.heap = T.heap ∧ ∀ target, Steps p.tables e below (T'.setTop { g with pc := g.pc + 3, stack := .ref a :: rest }) target → Steps p.tables e below (T.setTop g) target := by
  obtain ⟨cB, h1, D, h2, h3, h4⟩ := hE
  have h1' : s.vm.findClass C = some cB := by rw [← X.warmed.alike.findClass]; exact h1
  obtain ⟨vm', X', st⟩ := X.checkcastYes hexec hown hlink h2 h4 h1' (by rw [h3]; exact Jvm.Free.SB.assignable_self _ _) hg hstack hdg
  exact ⟨_, X', rfl, fun t h => st t (by rw [← hstack] at h; exact h)⟩
namespace SEq
def yN : MethodName := ⟨"java/lang/String", "equals", "(Ljava/lang/Object;)Z"⟩
abbrev yB : ByteArray := jdk_42_method_66_code
theorem d0 : decode yB 0 = .ok (.aload_n 0, 1) := by decide +kernel
theorem d1 : decode yB 1 = .ok (.aload_n 1, 1) := by decide +kernel
theorem d2 : decode yB 2 = .ok (.if_acmp (.ne) 5, 3) := by decide +kernel
theorem d5 : decode yB 5 = .ok (.iconst 1, 1) := by decide +kernel
theorem d6 : decode yB 6 = .ok (.ireturn, 1) := by decide +kernel
theorem d7 : decode yB 7 = .ok (.aload_n 1, 1) := by decide +kernel
theorem d8 : decode yB 8 = .ok (.instanceof 10, 3) := by decide +kernel
theorem d11 : decode yB 11 = .ok (.ifCond (.eq) 43, 3) := by decide +kernel
theorem d14 : decode yB 14 = .ok (.aload_n 1, 1) := by decide +kernel
theorem d15 : decode yB 15 = .ok (.checkcast 10, 3) := by decide +kernel
theorem d18 : decode yB 18 = .ok (.astore_n 2, 1) := by decide +kernel
theorem d19 : decode yB 19 = .ok (.getstatic 38, 3) := by decide +kernel
theorem d22 : decode yB 22 = .ok (.ifCond (.eq) 14, 3) := by decide +kernel
theorem d25 : decode yB 25 = .ok (.aload_n 0, 1) := by decide +kernel
theorem d26 : decode yB 26 = .ok (.getfield 15, 3) := by decide +kernel
theorem d29 : decode yB 29 = .ok (.aload_n 2, 1) := by decide +kernel
theorem d30 : decode yB 30 = .ok (.getfield 15, 3) := by decide +kernel
theorem d33 : decode yB 33 = .ok (.if_icmp (.ne) 21, 3) := by decide +kernel
theorem d36 : decode yB 36 = .ok (.aload_n 0, 1) := by decide +kernel
theorem d37 : decode yB 37 = .ok (.getfield 9, 3) := by decide +kernel
theorem d40 : decode yB 40 = .ok (.aload_n 2, 1) := by decide +kernel
theorem d41 : decode yB 41 = .ok (.getfield 9, 3) := by decide +kernel
theorem d44 : decode yB 44 = .ok (.invokestatic 541, 3) := by decide +kernel
theorem d47 : decode yB 47 = .ok (.ifCond (.eq) 7, 3) := by decide +kernel
theorem d50 : decode yB 50 = .ok (.iconst 1, 1) := by decide +kernel
theorem d51 : decode yB 51 = .ok (.goto 4, 3) := by decide +kernel
theorem d54 : decode yB 54 = .ok (.iconst 0, 1) := by decide +kernel
theorem d55 : decode yB 55 = .ok (.ireturn, 1) := by decide +kernel
def site : List Cond := [.classLink "java/lang/String" 10 "java/lang/String", .fieldLink "java/lang/String" 38 "java/lang/String" "COMPACT_STRINGS" "Z", .fieldLink "java/lang/String" 15 "java/lang/String" "coder" "B", .fieldLink "java/lang/String" 9 "java/lang/String" "value" "[B", LEq.tab] ++ staticW "java/lang/String" 541 LEq.yN
def tab : Cond := tabOf yN yB 3 (some .boolean) site
def P (x t : Addr) (V : Cell) (cd : Int32) (n : Nat) (f : Nat → Int32) (y t' : Addr) (V' : Cell) (cd' : Int32) (k : Nat) (g : Nat → Int32) (z : Int32) (args : Array Value) (s : State) : Prop := args = #[.ref x, .ref y] ∧ Txt x t V cd n f s ∧ Txt y t' V' cd' k g s ∧ StaticIs s "java/lang/String" "COMPACT_STRINGS" "Z" (.int z) ∧ ¬ z = 0
/-- equals(Object) of two Strings: whether the texts are the same -/
theorem law (l : Launch) (x t : Addr) (V : Cell) (cd : Int32) (n : Nat) (f : Nat → Int32) (y t' : Addr) (V' : Cell) (cd' : Int32) (k : Nat) (g : Nat → Int32) (z : Int32) : Law l yN 2 1 1 14 yB 3 (some .boolean) site (P x t V cd n f y t' V' cd' k g z) (Says01 (SameT n f k g)) [] 0 0 := by
  refine Law.of_walk (plainFor_of_name (by decide +kernel)) (by decide +kernel) (by decide +kernel) (by decide) (fun _ _ h => by rw [h.1]; rfl) (fun _ U U' hal hh h => ⟨h.1, h.2.1.mv hal hh, h.2.2.1.mv hal hh, h.2.2.2.1.there hal hh, h.2.2.2.2⟩) (fun r U U' V V' h1 hal h2 h => Says01.mv r U U' V V' h1 hal h2 h) ?_
  intro p e s m args below meth c s₁ X0 hexec hbytes hml hret hlk hnm hown hh0 W hP
  obtain ⟨rfl, hx, hy, s1, hz⟩ := hP
  have c1 : Steps p.tables e below (s₁.setTop (entryFrame m #[.ref x, .ref y] 3)) (s₁.setTop (mkF m 2 #[.val (.ref x), .val (.ref y), .unset] [.ref y, .ref x])) := Steps.trans (entry rfl) (by
    show Steps p.tables e below (s₁.setTop (mkF m 0 #[.val (.ref x), .val (.ref y), .unset] [])) _
    refine XS.aloadN X0.here hexec rfl (hb hbytes d0) rfl rfl ?_
    refine XS.aloadN X0.here hexec rfl (hb hbytes d1) rfl rfl ?_
    exact Steps.refl _)
  by_cases hxy : x = y
  · have c2 : Steps p.tables e below (s₁.setTop (entryFrame m #[.ref x, .ref y] 3)) (s₁.setTop (mkF m 6 #[.val (.ref x), .val (.ref y), .unset] [.int 1])) := c1.trans (by
      refine acmpNo X0.here hexec rfl (hb hbytes d2) rfl rfl rfl (by simp [acmp, hxy]) ?_
      refine iconstV X0.here hexec rfl 1 (hb hbytes d5) (by decide) ?_
      exact Steps.refl _)
    subst hxy
    have ec : cd = cd' := by
      obtain ⟨D, fd, a1, a2, a3⟩ := hx.2.2.1
      obtain ⟨D', fd', b1, b2, b3⟩ := hy.2.2.1
      cases a1.symm.trans b1
      obtain ⟨q1, q2, q3, q4⟩ := a2.1
      obtain ⟨r1, r2, r3, r4⟩ := b2.1
      cases q4.symm.trans r4
      cases a3.symm.trans b3; rfl
    have et : t = t' := by
      obtain ⟨D, fd, a1, a2, a3⟩ := hx.2.1
      obtain ⟨D', fd', b1, b2, b3⟩ := hy.2.1
      cases a1.symm.trans b1
      obtain ⟨q1, q2, q3, q4⟩ := a2.1
      obtain ⟨r1, r2, r3, r4⟩ := b2.1
      cases q4.symm.trans r4
      cases a3.symm.trans b3; rfl
    subst ec et
    have ev : V = V' := by cases hx.2.2.2.1.1.symm.trans hy.2.2.2.1.1; rfl
    subst ev
    have hs : SameT n f k g := (Cod.eqv hx.2.2.2.2.1 hy.2.2.2.2.1 hx.2.2.2.2.2 hy.2.2.2.2.2).mp ⟨rfl, fun _ _ => rfl⟩
    exact ⟨s₁, some (.int 1), _, _, _, X0, rfl, rfl, rfl, (fun h => by cases h), ⟨1, rfl, hh0, Or.inl ⟨rfl, hs⟩⟩, fun fs hl => c2.trans (X0.ireturnOut hexec hret rfl (Or.inr (Or.inl rfl)) (hb hbytes d6) hl)⟩
  · have c2 : Steps p.tables e below (s₁.setTop (entryFrame m #[.ref x, .ref y] 3)) (s₁.setTop (mkF m 8 #[.val (.ref x), .val (.ref y), .unset] [.ref y])) := c1.trans (by
      refine acmpYes X0.here hexec rfl (pc0 := 2) rfl (hb hbytes d2) rfl rfl rfl (by simp [acmp, hxy]) (by decide) rfl ?_
      refine XS.aloadN X0.here hexec rfl (hb hbytes d7) rfl rfl ?_
      exact Steps.refl _)
    obtain ⟨T3, X3, q3, st3⟩ := cinst X0 hexec hown (wk W (.classLink "java/lang/String" 10 "java/lang/String")) (hy.mv X0.warmed.alike hh0).1 (g := (mkF m 8 #[.val (.ref x), .val (.ref y), .unset] [.ref y])) rfl (rest := []) rfl (hb hbytes d8)
    have hh3 := q3.trans hh0
    have c4 : Steps p.tables e below (s₁.setTop (entryFrame m #[.ref x, .ref y] 3)) (T3.setTop (mkF m 15 #[.val (.ref x), .val (.ref y), .unset] [.ref y])) := (c2.trans (st3 _ (Steps.refl _))).trans (by
      refine XS.ifNo X3.here hexec rfl (hb hbytes d11) rfl (i0_eq_f (by decide)) ?_
      refine XS.aloadN X3.here hexec rfl (hb hbytes d14) rfl rfl ?_
      exact Steps.refl _)
    obtain ⟨T5, X5, q5, st5⟩ := cself X3 hexec hown (wk W (.classLink "java/lang/String" 10 "java/lang/String")) (hy.mv X3.warmed.alike hh3).1 (g := (mkF m 15 #[.val (.ref x), .val (.ref y), .unset] [.ref y])) rfl (rest := []) rfl (hb hbytes d15)
    have hh5 := q5.trans hh3
    have c6 : Steps p.tables e below (s₁.setTop (entryFrame m #[.ref x, .ref y] 3)) (T5.setTop (mkF m 19 #[.val (.ref x), .val (.ref y), .val (.ref y)] [])) := (c4.trans (st5 _ (Steps.refl _))).trans (by
      refine XS.astoreN X5.here hexec rfl (hb hbytes d18) rfl rfl rfl ?_
      exact Steps.refl _)
    obtain ⟨T7, X7, q7, st7⟩ := X5.sget hexec hown (wk W (.fieldLink "java/lang/String" 38 "java/lang/String" "COMPACT_STRINGS" "Z")) s1 (fun _ _ h => by rw [hh5]; exact h) (g := (mkF m 19 #[.val (.ref x), .val (.ref y), .val (.ref y)] [])) rfl (hb hbytes d19)
    have hh7 := q7.trans hh5
    have c8 : Steps p.tables e below (s₁.setTop (entryFrame m #[.ref x, .ref y] 3)) (T7.setTop (mkF m 26 #[.val (.ref x), .val (.ref y), .val (.ref y)] [.ref x])) := (c6.trans (st7 _ (Steps.refl _))).trans (by
      refine XS.ifNo X7.here hexec rfl (hb hbytes d22) rfl (i0_eq_f hz) ?_
      refine XS.aloadN X7.here hexec rfl (hb hbytes d25) rfl rfl ?_
      exact Steps.refl _)
    obtain ⟨T9, X9, q9, st9⟩ := X7.hget hexec hown (wk W (.fieldLink "java/lang/String" 15 "java/lang/String" "coder" "B")) (hx.mv X7.warmed.alike hh7).2.2.1 (g := (mkF m 26 #[.val (.ref x), .val (.ref y), .val (.ref y)] [.ref x])) rfl (rest := []) rfl (hb hbytes d26)
    have hh9 := q9.trans hh7
    have c10 : Steps p.tables e below (s₁.setTop (entryFrame m #[.ref x, .ref y] 3)) (T9.setTop (mkF m 30 #[.val (.ref x), .val (.ref y), .val (.ref y)] [.ref y, .int cd])) := (c8.trans (st9 _ (Steps.refl _))).trans (by
      refine XS.aloadN X9.here hexec rfl (hb hbytes d29) rfl rfl ?_
      exact Steps.refl _)
    obtain ⟨T11, X11, q11, st11⟩ := X9.hget hexec hown (wk W (.fieldLink "java/lang/String" 15 "java/lang/String" "coder" "B")) (hy.mv X9.warmed.alike hh9).2.2.1 (g := (mkF m 30 #[.val (.ref x), .val (.ref y), .val (.ref y)] [.ref y, .int cd])) rfl (rest := [.int cd]) rfl (hb hbytes d30)
    have hh11 := q11.trans hh9
    have c12 : Steps p.tables e below (s₁.setTop (entryFrame m #[.ref x, .ref y] 3)) (T11.setTop (mkF m 33 #[.val (.ref x), .val (.ref y), .val (.ref y)] [.int cd', .int cd])) := c10.trans (st11 _ (Steps.refl _))
    by_cases hcd : cd = cd'
    · subst hcd
      have c13 : Steps p.tables e below (s₁.setTop (entryFrame m #[.ref x, .ref y] 3)) (T11.setTop (mkF m 37 #[.val (.ref x), .val (.ref y), .val (.ref y)] [.ref x])) := c12.trans (by
        refine XS.icmpNo X11.here hexec rfl (hb hbytes d33) rfl (ii_ne_f rfl) ?_
        refine XS.aloadN X11.here hexec rfl (hb hbytes d36) rfl rfl ?_
        exact Steps.refl _)
      obtain ⟨T14, X14, q14, st14⟩ := X11.hget hexec hown (wk W (.fieldLink "java/lang/String" 9 "java/lang/String" "value" "[B")) (hx.mv X11.warmed.alike hh11).2.1 (g := (mkF m 37 #[.val (.ref x), .val (.ref y), .val (.ref y)] [.ref x])) rfl (rest := []) rfl (hb hbytes d37)
      have hh14 := q14.trans hh11
      have c15 : Steps p.tables e below (s₁.setTop (entryFrame m #[.ref x, .ref y] 3)) (T14.setTop (mkF m 41 #[.val (.ref x), .val (.ref y), .val (.ref y)] [.ref y, .ref t])) := (c13.trans (st14 _ (Steps.refl _))).trans (by
        refine XS.aloadN X14.here hexec rfl (hb hbytes d40) rfl rfl ?_
        exact Steps.refl _)
      obtain ⟨T16, X16, q16, st16⟩ := X14.hget hexec hown (wk W (.fieldLink "java/lang/String" 9 "java/lang/String" "value" "[B")) (hy.mv X14.warmed.alike hh14).2.1 (g := (mkF m 41 #[.val (.ref x), .val (.ref y), .val (.ref y)] [.ref y, .ref t])) rfl (rest := [.ref t]) rfl (hb hbytes d41)
      have hh16 := q16.trans hh14
      have c17 : Steps p.tables e below (s₁.setTop (entryFrame m #[.ref x, .ref y] 3)) (T16.setTop (mkF m 44 #[.val (.ref x), .val (.ref y), .val (.ref y)] [.ref t', .ref t])) := c15.trans (st16 _ (Steps.refl _))
      obtain ⟨v18, T18, X18, E18, g18⟩ := X16.callS hexec (LEq.law l t V t' V') hown (wks W (staticW "java/lang/String" 541 LEq.yN)) (wk W LEq.tab) (W := 0) (Nat.le_of_ble_eq_true rfl) (Nat.le_of_ble_eq_true rfl) (Nat.le_refl _) (Nat.le_refl _) (g := (mkF m 44 #[.val (.ref x), .val (.ref y), .val (.ref y)] [.ref t', .ref t])) rfl (by rw [hml]; rfl) c17 (argsL := [.ref t, .ref t']) (rest := []) rfl rfl (by show 2 * 0 + 0 ≤ _; decide) (hb hbytes d44) (⟨rfl, hx.2.2.2.1.mv X16.warmed.alike hh16, hx.2.2.2.2.1.ty, hy.2.2.2.1.mv X16.warmed.alike hh16, hy.2.2.2.2.1.ty⟩)
      obtain ⟨v, rfl, q18, hv⟩ := E18
      have iff := Cod.eqv hx.2.2.2.2.1 hy.2.2.2.2.1 hx.2.2.2.2.2 hy.2.2.2.2.2
      rcases hv with ⟨rfl, he⟩ | ⟨rfl, he⟩
      · have c19 : Steps p.tables e below (s₁.setTop (entryFrame m #[.ref x, .ref y] 3)) (T18.setTop (mkF m 55 #[.val (.ref x), .val (.ref y), .val (.ref y)] [.int 1])) := Steps.trans g18 (by
          refine XS.ifNo X18.here hexec rfl (hb hbytes d47) rfl (i0_eq_f (by decide)) ?_
          refine iconstV X18.here hexec rfl 1 (hb hbytes d50) (by decide) ?_
          refine XS.goto X18.here hexec rfl (pc0 := 51) rfl (hb hbytes d51) (by decide) rfl ?_
          exact Steps.refl _)
        exact ⟨T18, some (.int 1), _, _, _, X18, rfl, rfl, rfl, (fun h => by cases h), ⟨1, rfl, q18.trans hh16, Or.inl ⟨rfl, iff.mp he⟩⟩, fun fs hl => c19.trans (X18.ireturnOut hexec hret rfl (Or.inr (Or.inl rfl)) (hb hbytes d55) hl)⟩
      · have c19 : Steps p.tables e below (s₁.setTop (entryFrame m #[.ref x, .ref y] 3)) (T18.setTop (mkF m 55 #[.val (.ref x), .val (.ref y), .val (.ref y)] [.int 0])) := Steps.trans g18 (by
          refine XS.ifYes X18.here hexec rfl (pc0 := 47) rfl (hb hbytes d47) rfl (i0_eq_t rfl) (by decide) rfl ?_
          refine iconstV X18.here hexec rfl 0 (hb hbytes d54) (by decide) ?_
          exact Steps.refl _)
        exact ⟨T18, some (.int 0), _, _, _, X18, rfl, rfl, rfl, (fun h => by cases h), ⟨0, rfl, q18.trans hh16, Or.inr ⟨rfl, fun q => he (iff.mpr q)⟩⟩, fun fs hl => c19.trans (X18.ireturnOut hexec hret rfl (Or.inr (Or.inl rfl)) (hb hbytes d55) hl)⟩
    · have c13 : Steps p.tables e below (s₁.setTop (entryFrame m #[.ref x, .ref y] 3)) (T11.setTop (mkF m 55 #[.val (.ref x), .val (.ref y), .val (.ref y)] [.int 0])) := c12.trans (by
        refine XS.icmpYes X11.here hexec rfl (pc0 := 33) rfl (hb hbytes d33) rfl (ii_ne_t hcd) (by decide) rfl ?_
        refine iconstV X11.here hexec rfl 0 (hb hbytes d54) (by decide) ?_
        exact Steps.refl _)
      exact ⟨T11, some (.int 0), _, _, _, X11, rfl, rfl, rfl, (fun h => by cases h), ⟨0, rfl, hh11, Or.inr ⟨rfl, Cod.dif hx.2.2.2.2.1 hy.2.2.2.2.1 hcd⟩⟩, fun fs hl => c13.trans (X11.ireturnOut hexec hret rfl (Or.inr (Or.inl rfl)) (hb hbytes d55) hl)⟩
theorem pays {l : Launch} {R : Room} {p : Program} {e : Env} {below : List Frame} {s : State} {sargs : Array Value} {len W : Nat} (x t : Addr) (V : Cell) (cd : Int32) (n : Nat) (f : Nat → Int32) (y t' : Addr) (V' : Cell) (cd' : Int32) (k : Nat) (g : Nat → Int32) (z : Int32) (htab : tab.before sargs s = true) (hfr : 2 ≤ R.frames) (hlo : W + 28 ≤ R.locals) :
    Back l R p e below s sargs yN len W (fun A₁ a₁ => A₁.cells + 0 ≤ R.cells ∧ A₁.slots + 0 ≤ R.slots ∧ P x t V cd n f y t' V' cd' k g z a₁ A₁.U) (fun A₁ _ v₁ B₁ => Says01 (SameT n f k g) v₁ A₁.U B₁.U ∧ B₁.locs = A₁.locs ++ [] ∧ B₁.cells = A₁.cells + 0 ∧ B₁.slots = A₁.slots + 0) :=
  (law l x t V cd n f y t' V' cd' k g z).pays htab hfr (by omega)
end SEq
end StrChars
namespace StrChars.Road
open Jvm Sem ClassFile Op Lib Jvm.Stand Jvm.Free Jvm.Free.XT
open Jvm.Lib.Cold (StaticIs)
/-- the words of String.equals(Object) -/
abbrev wordsEq : List Jvm.Cond := [.code SEq.yN SEq.yB 3 (some .boolean), .initialized ST, .classLink ST 10 ST, .fieldLink ST 38 ST "COMPACT_STRINGS" "Z", .fieldLink ST 15 ST "coder" "B", .fieldLink ST 9 ST "value" "[B", .methodLink ST 541 LEq.yN, .static LEq.yN, .code LEq.yN LEq.yB 3 (some .boolean), .initialized "java/lang/StringLatin1"]
theorem tabEq_of {a : Array Value} {s : State} (h : ∀ w ∈ wordsEq, w.before a s = true) : SEq.tab.before a s = true := by
  have hl : LEq.tab.before a s = true := unparts (wk h (.code LEq.yN LEq.yB 3 (some .boolean))) (wks h (.initialized LEq.yN.cls :: LEq.site))
  have q := consq hl h
  exact unparts (wk q (.code SEq.yN SEq.yB 3 (some .boolean))) (wks q (.initialized SEq.yN.cls :: SEq.site))
theorem movedEq {Z s : State} {a0 args : Array Value} (hZ : Z.Warmed39 s.vm) (hw : ∀ d ∈ wordsEq, d.before a0 Z = true) : ∀ d ∈ wordsEq, d.before args s = true := fun d hd => by
  have t : ∀ d ∈ wordsEq, (d.onTables && d.keepsFace) = true := by decide +kernel
  exact RoadKit.mv hZ (hw d hd) (t d hd)
/-- the road's facts of a String, as the laws ask it -/
theorem txt_of {Z U : State} {a0 : Array Value} {kI : Nat} (wi : (Jvm.Cond.instantiable ST kI).before a0 Z = true) (al : Z.vm.Alike U.vm) {x t : Addr} {kb : ClassId} {cs : List Int32} {cd N2 : Int32} {vs : List Value} (E : RoadKit.Exa Z U.heap x ST) (V : RoadKit.Fld Z U.heap x ST "value" "[B" (.ref t)) (C : RoadKit.Fld Z U.heap x ST "coder" "B" (.int cd)) (K : RoadKit.Arv Z U.heap t kb .byte N2 vs (.int 0)) (hc : CodA cs cd N2 vs) (hb : ∀ c ∈ cs, ¬ c < 0 ∧ ¬ (65535 : Int32) < c) (l2 : cs.length ≤ 4000) :
    ∃ A, Txt x t A cd cs.length (fun j => cs.getD j 0) U := by
  obtain ⟨A, K1, K2, K3, K4, K5, K6⟩ := K
  have hcod := hc.cod (by omega) K3 K5
  obtain ⟨D, fV, fC, hB, F1, F2, g1, g2, -, -⟩ := strObj wi al E V C
  exact ⟨A, ⟨_, hB.2.2.1, D, hB.1, rfl, by cases q : D.vm <;> first | rfl | exact absurd q (hB.2.1.2 _)⟩, Has.of hB F1 g1, Has.of hB F2 g2, ⟨K1.1, State.isArrayOf_alike al K1.2.1, K1.2.2, by rcases hcod with ⟨-, q, -⟩ | ⟨-, q, -⟩ <;> omega⟩, hcod, fun j hj => by
    have e : cs.getD j 0 = cs[j] := by simp [List.getD_eq_getElem?_getD, hj]
    show ¬ cs.getD j 0 < 0 ∧ ¬ 65535 < cs.getD j 0
    rw [e]; exact hb _ (List.getElem_mem _)⟩
theorem same_list (cs ds : List Int32) : SameT cs.length (fun j => cs.getD j 0) ds.length (fun j => ds.getD j 0) ↔ cs = ds := by
  constructor
  · rintro ⟨e, q⟩
    refine List.ext_getElem e fun j h1 h2 => ?_
    have := q j h1
    simpa [List.getD_eq_getElem?_getD, h1, h2] using this
  · rintro rfl
    exact ⟨rfl, fun _ _ => rfl⟩
/-- **equals(Object) OF TWO SUCH STRINGS**: 1 just where the chars are the same -/
theorem eqW {p : Program} {l : Launch} {e : Env} {R : Room} {s : State} {args : Array Value} {below : List Frame} {len W : Nat} {Z : State} {a0 : Array Value} {h : Heap} (hZ : Z.Warmed39 s.vm) (hw : ∀ d ∈ wordsEq, d.before a0 Z = true) {kI : Nat} (wi : (Jvm.Cond.instantiable ST kI).before a0 Z = true)
    {x t : Addr} {kb : ClassId} {cs : List Int32} {cd N2 : Int32} {vs : List Value} (E : RoadKit.Exa Z h x ST) (V : RoadKit.Fld Z h x ST "value" "[B" (.ref t)) (C : RoadKit.Fld Z h x ST "coder" "B" (.int cd)) (K : RoadKit.Arv Z h t kb .byte N2 vs (.int 0)) (hc : CodA cs cd N2 vs) (hb : ∀ c ∈ cs, ¬ c < 0 ∧ ¬ (65535 : Int32) < c) (l2 : cs.length ≤ 4000)
    {y t' : Addr} {kb' : ClassId} {ds : List Int32} {cd' N2' : Int32} {vs' : List Value} (E' : RoadKit.Exa Z h y ST) (V' : RoadKit.Fld Z h y ST "value" "[B" (.ref t')) (C' : RoadKit.Fld Z h y ST "coder" "B" (.int cd')) (K' : RoadKit.Arv Z h t' kb' .byte N2' vs' (.int 0)) (hc' : CodA ds cd' N2' vs') (hb' : ∀ c ∈ ds, ¬ c < 0 ∧ ¬ (65535 : Int32) < c) (l2' : ds.length ≤ 4000)
    {z : Int32} (S : RoadKit.Sta Z h ST "COMPACT_STRINGS" "Z" (.int z)) (hz : ¬ z = 0) (hfr : 2 ≤ R.frames) (hlo : W + 28 ≤ R.locals) :
    Back l R p e below s args (⟨"java/lang/String", "equals", "(Ljava/lang/Object;)Z"⟩ : MethodName) len W (fun P a => a = #[.ref x, .ref y] ∧ P.U.heap = h ∧ P.cells + 0 ≤ R.cells ∧ P.slots + 0 ≤ R.slots)
      (fun P _ v B => ∃ L, (((v = some (.int 1) ∧ cs = ds) ∨ (v = some (.int 0) ∧ ¬ cs = ds)) ∧ L = [] ∧ B.U.heap = h) ∧ B.locs = P.locs ++ L ∧ B.cells = P.cells + 0 ∧ B.slots = P.slots + 0) := by
  intro m meth c P g ig mk a X hg hsize hdg hW hn hp'
  obtain ⟨rfl, rfl, r1, r2⟩ := hp'
  have al : Z.vm.Alike P.U.vm := hZ.alike.trans X.warmed.alike
  obtain ⟨A, hx⟩ := txt_of wi al E V C K hc hb l2
  obtain ⟨A', hy⟩ := txt_of wi al E' V' C' K' hc' hb' l2'
  obtain ⟨v, B, X', ⟨⟨w, hv, hh, hq⟩, hl, hk, hs⟩, st⟩ := SEq.pays x t A cd cs.length (fun j => cs.getD j 0) y t' A' cd' ds.length (fun j => ds.getD j 0) z (tabEq_of (movedEq hZ hw)) hfr hlo m meth c P g ig mk _ X hg hsize hdg hW hn ⟨r1, r2, rfl, hx, hy, sta_is al S, hz⟩
  refine ⟨v, B, X', ⟨[], ⟨?_, rfl, hh⟩, hl, hk, hs⟩, st⟩
  rcases hq with ⟨rfl, q⟩ | ⟨rfl, q⟩
  · exact Or.inl ⟨hv, (same_list cs ds).mp q⟩
  · exact Or.inr ⟨hv, fun e => q ((same_list cs ds).mpr e)⟩
end StrChars.Road
namespace StrChars.Road
open Jvm Sem ClassFile Op Lib Jvm.Stand Jvm.Free Jvm.Free.XT
open Jvm.Lib.Cold (StaticIs)
/-- what backV says of its String, as the contracts of this text ask it: cs's low bytes, coder 0 -/
theorem codOf {cs : List Int32} {n : Nat} (hn : cs.length = n) (hb : ∀ c ∈ cs, ¬ 255 < c) : CodA cs 0 (Int32.ofNat n) ((cs.map lo8).map Value.int) := Or.inl ⟨rfl, by rw [hn], by simp [List.map_map, Function.comp_def], hb⟩
end StrChars.Road
end Jvm.Pilot.@@N@@

namespace Jvm.Pilot.@@N@@
open Jvm Jvm.ClassFile Sem Op Lib Jvm.Free Jvm.Stand Jvm.LawKit Jvm.RoadKit Bundle Jvm.Pilot.@@N@@.Jvm.D
/-- what is left of a walk: from the frame f of T the run comes to its end, where Qe holds -/
def own_Rest (p : Program) (e : Env) (below : List Frame) (Qe : Outcome → State → Prop) (T : State) (f : JFrame) : Prop :=
  ∃ s₂ o, Steps p.tables e below (T.setTop f) s₂ ∧ s₂.status = .running ∧ Ended s₂ below o ∧ Qe o s₂
abbrev own_S (p : Program) (e : Env) (below : List Frame) (T : State) (f : JFrame) (t : State) : Prop := Steps p.tables e below (T.setTop f) t
theorem own_by {p : Program} {e : Env} {below : List Frame} {Qe : Outcome → State → Prop} {T T' : State} {f f' : JFrame}
    (h : ∀ t, Steps p.tables e below (T'.setTop f') t → Steps p.tables e below (T.setTop f) t) (k : own_Rest p e below Qe T' f') : own_Rest p e below Qe T f := by
  obtain ⟨s₂, o, h1, h2⟩ := k
  exact ⟨s₂, o, h _ h1, h2⟩
theorem own_at {p : Program} {e : Env} {below : List Frame} {Qe : Outcome → State → Prop} {T : State} {f f' : JFrame}
    (h : ∀ {t}, Steps p.tables e below (T.setTop f') t → Steps p.tables e below (T.setTop f) t) (k : own_Rest p e below Qe T f') :
    ∃ s₂ o, Steps p.tables e below (T.setTop f) s₂ ∧ s₂.status = .running ∧ Ended s₂ below o ∧ Qe o s₂ := by
  obtain ⟨s₂, o, h1, h2⟩ := k
  exact ⟨s₂, o, h h1, h2⟩
theorem own_cat1 {v : Value} (h : v.isRef = true) : v.category = 1 := by cases v <;> simp_all [Value.isRef, Value.category]
theorem own_catr (a : Addr) : (Value.ref a).category = 1 := rfl
theorem own_catn : Value.null.category = 1 := rfl
theorem own_c255 (x : Int32) : ¬ (x &&& (255 : Int32)).toUInt32.toUInt16.toUInt32.toInt32 < 0 ∧ ¬ (255 : Int32) < (x &&& (255 : Int32)).toUInt32.toUInt16.toUInt32.toInt32 := by
  have h1 := c_mask x 255 8 (by decide) (by decide)
  have h2 := c_i2c (x &&& (255 : Int32))
  simp only [Int32.lt_iff_toInt_lt, Int32.reduceToInt]
  omega
theorem own_narc {z : Int32} (h : ¬ z < 0 ∧ ¬ (255 : Int32) < z) : nar .char z = z := by
  have h2 := c_i2c z
  obtain ⟨h3, h4⟩ := h
  simp only [Int32.lt_iff_toInt_lt, Int32.reduceToInt] at h3 h4
  have e : (nar .char z).toInt = z.toInt := by
    show z.toUInt32.toUInt16.toUInt32.toInt32.toInt = z.toInt
    omega
  exact Int32.toInt_inj.mp e
theorem own_nrb {z : Int32} (h : z = 0 ∨ z = 1) : narrow .boolean (.int z) = .int z := by rcases h with rfl | rfl <;> rfl
theorem own_ftb {z : Int32} (h : z = 0 ∨ z = 1) : fits .boolean (.int z) = true := by rcases h with rfl | rfl <;> rfl
theorem own_eqi {t : Term} {n : Int32} {args : Array Value} {Z : State} (h : (Jvm.Cond.eq t (.int n)).value args Z none Z [] = some true) : t.eval args Z none [] Z = some (.int n) := by
  obtain ⟨x, y, h1, h2, h3, -⟩ := cmp_v (Or.inl h)
  have e : y = .int n := (Option.some.inj h2).symm
  subst e
  cases x <;> simp [Kin, Value.isRef] at h3
  rename_i z
  have : z = n := by simpa [Cond.value, h1, Term.eval] using h
  rw [h1, this]
theorem own_fld {t : Term} {n : Int32} {args : Array Value} {Z : State} {a : Addr} {C f d : String} (ev : t.eval args Z none [] Z = some (.ref a)) (h : (Jvm.Cond.eq (.field t C f d) (.int n)).value args Z none Z [] = some true) : Fld Z Z.heap a C f d (.int n) :=
  Fld.start ((fld_at ev).symm.trans (own_eqi h))
theorem own_nb {z : Int32} (h : z = 0 ∨ z = 1) : nar .boolean z = z := by rcases h with rfl | rfl <;> rfl
abbrev own_ARUUUU (x0 : Addr) : Array Slot := #[.val (.ref x0), .unset, .unset, .unset, .unset]
abbrev own_ARRUUU (x0 : Addr) (x1 : Addr) : Array Slot := #[.val (.ref x0), .val (.ref x1), .unset, .unset, .unset]
abbrev own_ARRIUU (x0 : Addr) (x1 : Addr) (x2 : Int32) : Array Slot := #[.val (.ref x0), .val (.ref x1), .val (.int x2), .unset, .unset]
abbrev own_ARRIIU (x0 : Addr) (x1 : Addr) (x2 : Int32) (x3 : Int32) : Array Slot := #[.val (.ref x0), .val (.ref x1), .val (.int x2), .val (.int x3), .unset]
abbrev own_ARRIIR (x0 : Addr) (x1 : Addr) (x2 : Int32) (x3 : Int32) (x4 : Addr) : Array Slot := #[.val (.ref x0), .val (.ref x1), .val (.int x2), .val (.int x3), .val (.ref x4)]
abbrev own_ANUUUU  : Array Slot := #[.val .null, .unset, .unset, .unset, .unset]
abbrev own_ANRUUU (x1 : Addr) : Array Slot := #[.val .null, .val (.ref x1), .unset, .unset, .unset]
abbrev own_ANRIUU (x1 : Addr) (x2 : Int32) : Array Slot := #[.val .null, .val (.ref x1), .val (.int x2), .unset, .unset]
abbrev own_ANRIIU (x1 : Addr) (x2 : Int32) (x3 : Int32) : Array Slot := #[.val .null, .val (.ref x1), .val (.int x2), .val (.int x3), .unset]
abbrev own_ANRIIR (x1 : Addr) (x2 : Int32) (x3 : Int32) (x4 : Addr) : Array Slot := #[.val .null, .val (.ref x1), .val (.int x2), .val (.int x3), .val (.ref x4)]
abbrev own_ARRIINU (x0 : Addr) (x1 : Addr) (x2 : Int32) (x3 : Int32) : Array Slot := #[.val (.ref x0), .val (.ref x1), .val (.int x2), .val (.int x3), .val .null, .unset]
abbrev own_AIIIIUUUUUU (x0 : Int32) (x1 : Int32) (x2 : Int32) (x3 : Int32) : Array Slot := #[.val (.int x0), .val (.int x1), .val (.int x2), .val (.int x3), .unset, .unset, .unset, .unset, .unset, .unset]
abbrev own_AIIIIIUUUUU (x0 : Int32) (x1 : Int32) (x2 : Int32) (x3 : Int32) (x4 : Int32) : Array Slot := #[.val (.int x0), .val (.int x1), .val (.int x2), .val (.int x3), .val (.int x4), .unset, .unset, .unset, .unset, .unset]
abbrev own_AIIIIIIUUUU (x0 : Int32) (x1 : Int32) (x2 : Int32) (x3 : Int32) (x4 : Int32) (x5 : Int32) : Array Slot := #[.val (.int x0), .val (.int x1), .val (.int x2), .val (.int x3), .val (.int x4), .val (.int x5), .unset, .unset, .unset, .unset]
abbrev own_AIIIIIIIUUU (x0 : Int32) (x1 : Int32) (x2 : Int32) (x3 : Int32) (x4 : Int32) (x5 : Int32) (x6 : Int32) : Array Slot := #[.val (.int x0), .val (.int x1), .val (.int x2), .val (.int x3), .val (.int x4), .val (.int x5), .val (.int x6), .unset, .unset, .unset]
abbrev own_AIIIIIIIIUU (x0 : Int32) (x1 : Int32) (x2 : Int32) (x3 : Int32) (x4 : Int32) (x5 : Int32) (x6 : Int32) (x7 : Int32) : Array Slot := #[.val (.int x0), .val (.int x1), .val (.int x2), .val (.int x3), .val (.int x4), .val (.int x5), .val (.int x6), .val (.int x7), .unset, .unset]
abbrev own_AIIIIIIIIRU (x0 : Int32) (x1 : Int32) (x2 : Int32) (x3 : Int32) (x4 : Int32) (x5 : Int32) (x6 : Int32) (x7 : Int32) (x8 : Addr) : Array Slot := #[.val (.int x0), .val (.int x1), .val (.int x2), .val (.int x3), .val (.int x4), .val (.int x5), .val (.int x6), .val (.int x7), .val (.ref x8), .unset]
abbrev own_AIIIIIIIIRV (x0 : Int32) (x1 : Int32) (x2 : Int32) (x3 : Int32) (x4 : Int32) (x5 : Int32) (x6 : Int32) (x7 : Int32) (x8 : Addr) (x9 : Value) : Array Slot := #[.val (.int x0), .val (.int x1), .val (.int x2), .val (.int x3), .val (.int x4), .val (.int x5), .val (.int x6), .val (.int x7), .val (.ref x8), .val x9]
abbrev own_AIIIIIIIIUR (x0 : Int32) (x1 : Int32) (x2 : Int32) (x3 : Int32) (x4 : Int32) (x5 : Int32) (x6 : Int32) (x7 : Int32) (x9 : Addr) : Array Slot := #[.val (.int x0), .val (.int x1), .val (.int x2), .val (.int x3), .val (.int x4), .val (.int x5), .val (.int x6), .val (.int x7), .unset, .val (.ref x9)]
abbrev own_AIIIIIIIIRR (x0 : Int32) (x1 : Int32) (x2 : Int32) (x3 : Int32) (x4 : Int32) (x5 : Int32) (x6 : Int32) (x7 : Int32) (x8 : Addr) (x9 : Addr) : Array Slot := #[.val (.int x0), .val (.int x1), .val (.int x2), .val (.int x3), .val (.int x4), .val (.int x5), .val (.int x6), .val (.int x7), .val (.ref x8), .val (.ref x9)]
abbrev own_AIIIIIIIINU (x0 : Int32) (x1 : Int32) (x2 : Int32) (x3 : Int32) (x4 : Int32) (x5 : Int32) (x6 : Int32) (x7 : Int32) : Array Slot := #[.val (.int x0), .val (.int x1), .val (.int x2), .val (.int x3), .val (.int x4), .val (.int x5), .val (.int x6), .val (.int x7), .val .null, .unset]
abbrev own_AIIIIIIIINN (x0 : Int32) (x1 : Int32) (x2 : Int32) (x3 : Int32) (x4 : Int32) (x5 : Int32) (x6 : Int32) (x7 : Int32) : Array Slot := #[.val (.int x0), .val (.int x1), .val (.int x2), .val (.int x3), .val (.int x4), .val (.int x5), .val (.int x6), .val (.int x7), .val .null, .val .null]
def own_Str (Z : State) (h : Heap) (a : Addr) (cs : List Int32) : Prop := ∃ (t : Addr) (kb : ClassId) (cd N : Int32) (vs : List Value), Exa Z h a "java/lang/String" ∧ Fld Z h a "java/lang/String" "value" "[B" (.ref t) ∧ Fld Z h a "java/lang/String" "coder" "B" (.int cd) ∧ Arv Z h t kb .byte N vs (.int 0) ∧ StrChars.Road.CodA cs cd N vs ∧ (∀ c ∈ cs, ¬ c < 0 ∧ ¬ (65535 : Int32) < c) ∧ cs.length ≤ 4000
theorem own_Str.ext {Z : State} {h h' : Heap} {a : Addr} {cs : List Int32} (F : own_Str Z h a cs) (E : Ext h h') : own_Str Z h' a cs := by
  obtain ⟨t, kb, cd, N, vs, h1, h2, h3, h4, r⟩ := F
  exact ⟨t, kb, cd, N, vs, h1.ext E, h2.ext E, h3.ext E, h4.ext E, r⟩
theorem own_Str.exa {Z : State} {h : Heap} {a : Addr} {cs : List Int32} (F : own_Str Z h a cs) : Exa Z h a "java/lang/String" := by obtain ⟨_, _, _, _, _, h1, -⟩ := F; exact h1
theorem own_Str.lt {Z : State} {h : Heap} {a : Addr} {cs : List Int32} (F : own_Str Z h a cs) : a < h.size := F.exa.lt
theorem own_kx {h h' : Heap} (K : Keep h h' []) : Ext h h' := ⟨K.1, fun x c q => K.2.1 x c q List.not_mem_nil⟩
theorem own_Str.keepX {Z : State} {h h' : Heap} {a x : Addr} {cs : List Int32} {C : String} {a0 : Array Value} {k : Nat} (F : own_Str Z h a cs) (K : Keep h h' [x]) (E : Exa Z h x C) (hC : C ≠ "java/lang/String") (wi : (Jvm.Cond.instantiable C k).before a0 Z = true) : own_Str Z h' a cs := by
  obtain ⟨t, kb, cd, N, vs, h1, h2, h3, h4, r⟩ := F
  have n1 : a ∉ [x] := fun q => (E.ne h1 hC) (List.mem_singleton.mp q).symm
  have n2 : t ∉ [x] := fun q => (E.neArv h4 wi) (List.mem_singleton.mp q).symm
  exact ⟨t, kb, cd, N, vs, h1.keep K, h2.keep K n1, h3.keep K n1, h4.keep K n2, r⟩
theorem own_Str.keepA {Z : State} {h h' : Heap} {a x : Addr} {cs : List Int32} {k : ClassId} {z : Int32} {us : List Value} {d : Value} {a0 : Array Value} {kI : Nat} (F : own_Str Z h a cs) (K : Keep h h' [x]) (A : Arv Z h x k .char z us d) (wi : (Jvm.Cond.instantiable "java/lang/String" kI).before a0 Z = true) : own_Str Z h' a cs := by
  obtain ⟨t, kb, cd, N, vs, h1, h2, h3, h4, r⟩ := F
  have n1 : a ∉ [x] := fun q => (h1.neArv A wi) (List.mem_singleton.mp q)
  have n2 : t ∉ [x] := fun q => by
    rw [List.mem_singleton.mp q] at h4
    obtain ⟨c, A1, -⟩ := A
    obtain ⟨c2, A2, -⟩ := h4
    cases A1.1.symm.trans A2.1
    obtain ⟨-, kA, hkA, comp, hkind⟩ := A1.2.1
    obtain ⟨-, kB, hkB, compB, hkindB⟩ := A2.2.1
    cases hkA.symm.trans hkB
    rw [hkind] at hkindB; cases hkindB
  exact ⟨t, kb, cd, N, vs, h1.keep K, h2.keep K n1, h3.keep K n1, h4.keep K n2, r⟩
theorem own_up (cs : List Int32) (h : ∀ c ∈ cs, ¬ c < 0 ∧ ¬ (255 : Int32) < c) : ∀ c ∈ cs, ¬ c < 0 ∧ ¬ (65535 : Int32) < c := fun c hc => ⟨(h c hc).1, fun q => (h c hc).2 (by rw [Int32.lt_iff_toInt_lt] at q ⊢; have e1 : (65535 : Int32).toInt = 65535 := rfl; have e2 : (255 : Int32).toInt = 255 := rfl; omega)⟩
theorem own_eqv {v : Option Value} {cs ds : List Int32} (h : (v = some (.int 1) ∧ cs = ds) ∨ (v = some (.int 0) ∧ ¬ cs = ds)) : v = some (.int (if cs = ds then (1 : Int32) else (0 : Int32))) := by
  rcases h with ⟨h, q⟩ | ⟨h, q⟩ <;> rw [h]
  · rw [if_pos q]
  · rw [if_neg q]
theorem own_if1 {P : Prop} [Decidable P] {c : Int32} (h : c = if P then (1 : Int32) else (0 : Int32)) (q : ¬ c = 0) : P := by
  by_cases p : P
  · exact p
  · rw [if_neg p] at h; exact absurd h q
theorem own_if0 {P : Prop} [Decidable P] {c : Int32} (h : c = if P then (1 : Int32) else (0 : Int32)) (q : c = 0) : ¬ P := by
  intro p; rw [if_pos p] at h; rw [h] at q; exact absurd q (by decide)
theorem own_safe0 {Z : State} {EL : List (String × Nat)} {vm : Vm} {h : Heap} {x : Addr} {a0 : Array Value} {k : Nat} (hal : Z.vm.Alike vm) (E : Exa Z h x "java/lang/String") (F : Fld Z h x "java/lang/String" "value" "[B" .null) (wi : (Jvm.Cond.instantiable "java/lang/String" k).before a0 Z = true) : Safe Z EL vm h x := fun B => by
  obtain ⟨p, -, u, a, -, q, -, G, rfl | rfl⟩ := B
  · obtain ⟨cell, cf, kk, i, f, e1, e2, e3, -, -, -, e7⟩ := F
    cases (show h[q.sa]? = some q.sC from G.ha).symm.trans e1
    obtain ⟨cS, ⟨⟨-, -, -, ⟨c1, k1, i1, f1, -⟩, -, -, -, v1, -⟩, -⟩, -⟩ := G
    obtain ⟨k3, w3, -⟩ := State.fieldFound?_setVm (s := Z) hal e2
    have w4 := (show (Wst Z vm h).fieldFound? _ _ _ = _ from w3).symm.trans f1
    simp only [Option.some.injEq, Prod.mk.injEq] at w4
    rw [← w4.2.2.2, e7] at v1
    cases v1
  · obtain ⟨cell, kk, e1, e2, e3, -, -⟩ := E
    cases (show h[q.sd]? = some q.SA from G.hd).symm.trans e1
    obtain ⟨cS, -, -, f, -⟩ := G
    rw [show (Wst Z vm h).vm = vm from rfl, hal.findClass] at f
    obtain ⟨k1, q1, q2⟩ := Vm.findClass_spec f
    obtain ⟨k2, q3, q4⟩ := Vm.findClass_spec e2
    cases q1.symm.trans q3
    exact absurd (q2.symm.trans q4) (by decide)
theorem own_isr {P : Prop} [Decidable P] {a b : Value} (ha : a.isRef = true) (hb : b.isRef = true) : (if P then a else b).isRef = true := by
  by_cases p : P
  · rw [if_pos p]; exact ha
  · rw [if_neg p]; exact hb
theorem own_clamp {j : Int32} {z : Int32} {n : Nat} (h : ¬ j < 0 ∧ j < z) (hz : z.toNatClampNeg = n) : j.toNatClampNeg < n := by
  subst hz
  obtain ⟨h1, h2⟩ := h
  simp only [Int32.lt_iff_toInt_lt, Int32.reduceToInt] at h1 h2
  simp only [Int32.toNatClampNeg]; omega
theorem own_hpset {cs : List Int32} {i : Nat} {z : Int32} (h : ∀ c ∈ cs, ¬ c < 0 ∧ ¬ (255 : Int32) < c) (hz : ¬ z < 0 ∧ ¬ (255 : Int32) < z) : ∀ c ∈ cs.set i z, ¬ c < 0 ∧ ¬ (255 : Int32) < c := fun c hc => by
  rcases List.mem_or_eq_of_mem_set hc with q | q
  · exact h c q
  · rw [q]; exact hz
theorem own_len {t : Term} {n : Nat} {args : Array Value} {Z : State} {a : Addr} {cl : Cell} {ty : FieldType} (ev : t.eval args Z none [] Z = some (.ref a)) (A : Arr Z Z.heap a cl ty) (hn : n < 2 ^ 31) (h : (Term.length t).eval args Z none [] Z = some (.int n.toInt32)) : cl.slots.size = n := by
  obtain ⟨b, cell, e1, e2, e3, e4⟩ := Lib.length_spec h
  cases ev.symm.trans e1
  have q : cell = cl := Option.some.inj ((Lib.arrayAt_spec e2).1.symm.trans A.1)
  subst q
  have e5 := congrArg Int32.toInt (Value.int.inj e4)
  rw [len_toInt e3, len_toInt hn] at e5
  omega
theorem own_elr {t u : Term} {args : Array Value} {Z : State} {a b : Addr} {cl : Cell} {j : Int32} {i : Nat} (hj : j.toNatClampNeg = i) (ev : t.eval args Z none [] Z = some (.ref a)) (eu : u.eval args Z none [] Z = some (.ref b)) (hc : Z.heap[a]? = some cl) (h : (Jvm.Cond.eq (.elem t (.int j)) u).value args Z none Z [] = some true) : cl.slots[i]? = some (.ref b) := by
  subst hj
  obtain ⟨x, y, h1, h2, h3, h4⟩ := cmp_v (Or.inl h)
  cases eu.symm.trans h2
  have q := (elem_in h1 ev (Term.int_eval _) hc).2
  cases x <;> simp [Kin, Value.isRef] at h3 h4
  all_goals first | (simp [Cond.value, h1, eu] at h; done) | (simp [Cond.value, h1, eu] at h; rw [q, h])
theorem own_hpapp (cs : List Int32) (c : Int32) (h : ∀ y ∈ cs, ¬ y < 0 ∧ ¬ (255 : Int32) < y) (hc : ¬ c < 0 ∧ ¬ (255 : Int32) < c) : ∀ z ∈ cs ++ [c], ¬ z < 0 ∧ ¬ (255 : Int32) < z := fun z hz => by
  rcases List.mem_append.mp hz with q | q
  · exact h z q
  · rw [List.mem_singleton.mp q]; exact hc
theorem own_i2b2 (x : Int32) : x.toInt8.toInt32.toInt8.toInt32 = x.toInt8.toInt32 := by
  have a := c_i2b x; have b := c_i2b x.toInt8.toInt32
  exact Int32.toInt_inj.mp (by omega)
theorem own_and3 (x : Int32) : (x.toUInt32 >>> ((3 : Int32) &&& 31).toUInt32).toInt32 &&& (3 : Int32) = 0 ∨ (x.toUInt32 >>> ((3 : Int32) &&& 31).toUInt32).toInt32 &&& (3 : Int32) = 1 ∨ (x.toUInt32 >>> ((3 : Int32) &&& 31).toUInt32).toInt32 &&& (3 : Int32) = 2 ∨ (x.toUInt32 >>> ((3 : Int32) &&& 31).toUInt32).toInt32 &&& (3 : Int32) = 3 := by
  generalize (x.toUInt32 >>> ((3 : Int32) &&& 31).toUInt32).toInt32 = y
  have h := c_mask y 3 2 (by decide) (by decide)
  have q : (y &&& 3).toInt = (0 : Int32).toInt ∨ (y &&& 3).toInt = (1 : Int32).toInt ∨ (y &&& 3).toInt = (2 : Int32).toInt ∨ (y &&& 3).toInt = (3 : Int32).toInt := by
    simp only [Int32.reduceToInt]; omega
  simpa only [Int32.toInt_inj] using q
theorem own_p2 (x : Int32) : ¬ (x &&& 2147483647) % 2 < 0 ∧ (x &&& 2147483647) % 2 < (2 : Int32) := by
  have h := c_mask x 2147483647 31 (by decide) (by decide)
  have h2 := (c_irem (x &&& 2147483647) 2 2 (by decide)).1 (by omega)
  simp only [Int32.lt_iff_toInt_lt, Int32.reduceToInt]; omega
theorem own_p6 (x : Int32) : ¬ (x &&& 2147483647) % 6 < 0 ∧ (x &&& 2147483647) % 6 < (6 : Int32) := by
  have h := c_mask x 2147483647 31 (by decide) (by decide)
  have h2 := (c_irem (x &&& 2147483647) 6 6 (by decide)).1 (by omega)
  simp only [Int32.lt_iff_toInt_lt, Int32.reduceToInt]; omega
theorem own_p11 (x : Int32) : ¬ (x &&& 2147483647) % 11 < 0 ∧ (x &&& 2147483647) % 11 < (11 : Int32) := by
  have h := c_mask x 2147483647 31 (by decide) (by decide)
  have h2 := (c_irem (x &&& 2147483647) 11 11 (by decide)).1 (by omega)
  simp only [Int32.lt_iff_toInt_lt, Int32.reduceToInt]; omega
def own_word (w : Int32) : List Int32 := if w = (0 : Int32) then [(110 : Int32), (111 : Int32)] else if w = (1 : Int32) then [(98 : Int32), (121 : Int32), (78 : Int32), (97 : Int32), (109 : Int32), (101 : Int32)] else if w = (2 : Int32) then [(98 : Int32), (121 : Int32), (84 : Int32), (121 : Int32), (112 : Int32), (101 : Int32)] else [(99 : Int32), (111 : Int32), (110 : Int32), (115 : Int32), (116 : Int32), (114 : Int32), (117 : Int32), (99 : Int32), (116 : Int32), (111 : Int32), (114 : Int32)]
theorem own_word_hp (w : Int32) : ∀ z ∈ own_word w, ¬ z < 0 ∧ ¬ (255 : Int32) < z := by
  unfold own_word
  by_cases h0 : w = (0 : Int32)
  · rw [if_pos h0]; decide
  · by_cases h1 : w = (1 : Int32)
    · rw [if_neg h0, if_pos h1]; decide
    · by_cases h2 : w = (2 : Int32)
      · rw [if_neg h0, if_neg h1, if_pos h2]; decide
      · rw [if_neg h0, if_neg h1, if_neg h2]; decide
def own_shorter (w : Int32) : List Int32 := if w = (0 : Int32) then [(110 : Int32)] else if w = (1 : Int32) then [(98 : Int32), (121 : Int32), (78 : Int32), (97 : Int32), (109 : Int32)] else if w = (2 : Int32) then [(98 : Int32), (121 : Int32), (84 : Int32), (121 : Int32), (112 : Int32)] else [(99 : Int32), (111 : Int32), (110 : Int32), (115 : Int32), (116 : Int32), (114 : Int32), (117 : Int32), (99 : Int32), (116 : Int32), (111 : Int32)]
theorem own_shorter_hp (w : Int32) : ∀ z ∈ own_shorter w, ¬ z < 0 ∧ ¬ (255 : Int32) < z := by
  unfold own_shorter
  by_cases h0 : w = (0 : Int32)
  · rw [if_pos h0]; decide
  · by_cases h1 : w = (1 : Int32)
    · rw [if_neg h0, if_pos h1]; decide
    · by_cases h2 : w = (2 : Int32)
      · rw [if_neg h0, if_neg h1, if_pos h2]; decide
      · rw [if_neg h0, if_neg h1, if_neg h2]; decide
def own_longer (w c : Int32) : List Int32 := if w = (0 : Int32) then [(110 : Int32), (111 : Int32), c] else if w = (1 : Int32) then [(98 : Int32), (121 : Int32), (78 : Int32), (97 : Int32), (109 : Int32), (101 : Int32), c] else if w = (2 : Int32) then [(98 : Int32), (121 : Int32), (84 : Int32), (121 : Int32), (112 : Int32), (101 : Int32), c] else [(99 : Int32), (111 : Int32), (110 : Int32), (115 : Int32), (116 : Int32), (114 : Int32), (117 : Int32), (99 : Int32), (116 : Int32), (111 : Int32), (114 : Int32), c]
theorem own_longer_hp (w c : Int32) (hc : ¬ c < 0 ∧ ¬ (255 : Int32) < c) : ∀ z ∈ own_longer w c, ¬ z < 0 ∧ ¬ (255 : Int32) < z := by
  unfold own_longer
  by_cases h0 : w = (0 : Int32)
  · rw [if_pos h0]; exact own_hpapp ([(110 : Int32), (111 : Int32)] : List Int32) c (by decide) hc
  · by_cases h1 : w = (1 : Int32)
    · rw [if_neg h0, if_pos h1]; exact own_hpapp ([(98 : Int32), (121 : Int32), (78 : Int32), (97 : Int32), (109 : Int32), (101 : Int32)] : List Int32) c (by decide) hc
    · by_cases h2 : w = (2 : Int32)
      · rw [if_neg h0, if_neg h1, if_pos h2]; exact own_hpapp ([(98 : Int32), (121 : Int32), (84 : Int32), (121 : Int32), (112 : Int32), (101 : Int32)] : List Int32) c (by decide) hc
      · rw [if_neg h0, if_neg h1, if_neg h2]; exact own_hpapp ([(99 : Int32), (111 : Int32), (110 : Int32), (115 : Int32), (116 : Int32), (114 : Int32), (117 : Int32), (99 : Int32), (116 : Int32), (111 : Int32), (114 : Int32)] : List Int32) c (by decide) hc
theorem d9_0 : decode prog_10_method_1_code 0 = .ok (.getstatic 16, 3) := by decide +kernel
theorem d9_3 : decode prog_10_method_1_code 3 = .ok (.invokevirtual 20, 3) := by decide +kernel
theorem d9_6 : decode prog_10_method_1_code 6 = .ok (.checkcast 21, 3) := by decide +kernel
theorem d9_9 : decode prog_10_method_1_code 9 = .ok (.areturn, 1) := by decide +kernel
theorem pn_9 : plainFor (⟨"com/example/spojka/spojka/AutowireMode", "values", "()[Lcom/example/spojka/spojka/AutowireMode;"⟩ : MethodName) = true := by first | exact plainFor_of_name (by first | (simp [plainName, overriddenIn]; done) | decide +kernel) | decide +kernel | exact Jvm.Free.JP.mathPlain rfl (by decide +kernel)
theorem ef_9 (m : MethodId)  : entryFrame m #[] 0 = mkF m 0 #[] [] := by first | (simp [entryFrame, mkF, argsToLocals, Value.category]; done) | rfl
def Q9 (Z : State) (wV : Addr) (cl : Cell) (wNO : Addr) (wBY_NAME : Addr) (wBY_TYPE : Addr) (wCONSTRUCTOR : Addr) (h0 : Heap) (n0 : Nat) (v : Option Value) (h : Heap) (L : List Loc) : Prop := ∃ r, v = some (.ref r) ∧ h0.size ≤ r ∧ Fr n0 L ∧ Keep h0 h [] ∧ Arr Z h r (cloneOf cl) (.object "com/example/spojka/spojka/AutowireMode")
set_option maxRecDepth 65536 in
set_option maxHeartbeats 40000000 in
theorem rm9 (l : Launch) (Z : State) (a0 : Array Value) (hw : ∀ d ∈ tables_1, d.before a0 Z = true) (ws : List Jvm.Cond) (wV : Addr) (cl : Cell) (wNO : Addr) (wBY_NAME : Addr) (wBY_TYPE : Addr) (wCONSTRUCTOR : Addr) (h0 : Heap) (n0 : Nat) (Z0 : n0 ≤ h0.size) (S_V : Sta Z h0 "com/example/spojka/spojka/AutowireMode" "$VALUES" "[Lcom/example/spojka/spojka/AutowireMode;" (.ref wV)) (Ar_V : Arr Z h0 wV cl (.object "com/example/spojka/spojka/AutowireMode")) (E_V : Exa Z h0 wV "[Lcom/example/spojka/spojka/AutowireMode;") (FC : FitC Z cl) (hsz : cl.slots.size = 4) (hat0 : cl.slots[0]? = some (.ref wNO)) (hat1 : cl.slots[1]? = some (.ref wBY_NAME)) (hat2 : cl.slots[2]? = some (.ref wBY_TYPE)) (hat3 : cl.slots[3]? = some (.ref wCONSTRUCTOR)) :
    MetFree l (⟨"com/example/spojka/spojka/AutowireMode", "values", "()[Lcom/example/spojka/spojka/AutowireMode;"⟩ : MethodName) (head1 (Jvm.Cond.code (⟨"com/example/spojka/spojka/AutowireMode", "values", "()[Lcom/example/spojka/spojka/AutowireMode;"⟩ : MethodName) prog_10_method_1_code 0 (some (.array (.object "com/example/spojka/spojka/AutowireMode"))) :: ws) ({ frames := 1, cells := 1, slots := 4, locals := 14 } : Room)) (fun a U => a = #[] ∧ Z.Warmed39 U.vm ∧ U.heap = h0) (fun _ _ _ _ _ => True) (fun _ U o U' => ∃ v L, o = .returned v ∧ Q9 Z wV cl wNO wBY_NAME wBY_TYPE wCONSTRUCTOR h0 n0 v U'.heap L ∧ FrameEnd U o U' L ({ frames := 1, cells := 1, slots := 4, locals := 14 } : Room).cells ({ frames := 1, cells := 1, slots := 4, locals := 14 } : Room).slots) := by
  refine MetFree.of_bodySF pn_9 hisR ?_
  intro p e s m args below meth c s₁ Bd hml0 hP hK
  obtain ⟨rfl, hZ, hh⟩ := hP
  have hx := Bd.exec
  have hby := Bd.bytes
  have hml : c.maxLocals = 0 := hml0
  have hown : s.vm.findClass "com/example/spojka/spojka/AutowireMode" = some m.cls := findClass_of_methodNamed Bd.named
  have hnm := (name_of_methodNamed Bd.named Bd.method).1
  have X0 : Stand p l e ({ frames := 1, cells := 1, slots := 4, locals := 14 } : Room) s m #[] below meth c s₁ [] 0 0 := Stand.of_body Bd
  have e0 : s₁.heap = h0 := by rw [← hh, Bd.state]; rfl
  have N0 := Fr.nil n0
  refine own_at (castTop (ef_9 m )) ?_
  have K0 := Keep.refl h0 []
  obtain ⟨T00, X00, e00, st00⟩ := getS2 X0 hx hZ hown (host := "") (Or.inl (hw _ (List.mem_of_getElem? (i := 41) rfl))) Via.refl e0 S_V (g := (mkF m 0 #[] [])) rfl (hb hby d9_0)
  refine own_by st00 ?_
  obtain ⟨T3, h3, X3, e3, E3, Ar3, A3, st3⟩ := cloneA X00 hx hZ hown (hw _ (List.mem_of_getElem? (i := 43) rfl)) (hw _ (List.mem_of_getElem? (i := 44) rfl)) (hw _ (List.mem_of_getElem? (i := 48) rfl)) (hw _ (List.mem_of_getElem? (i := 46) rfl)) (hw _ (List.mem_of_getElem? (i := 47) rfl)) (hw _ (List.mem_of_getElem? (i := 49) rfl)) e00 Ar_V E_V FC (g := (mkF m 3 #[] [(.ref wV)])) rfl (by rw [hml]; rfl) rfl (hb hby d9_3) (by decide) (W := 0) (cap := 4) (by show 2 * 0 + _ ≤ _; exact Nat.le_of_eq rfl) (by decide) (by rw [hsz]; decide) (by decide) (by decide)
  obtain ⟨b3, g3⟩ : ∃ z, z = h0.size := ⟨_, rfl⟩
  rw [← g3] at Ar3 A3 st3
  have ne_wV_b3 : wV ≠ b3 := Nat.ne_of_lt (Nat.lt_of_lt_of_le E_V.lt (Nat.le_of_eq g3.symm))
  have g_b3 : n0 ≤ b3 := Nat.le_trans Z0 (Nat.le_of_eq g3.symm)
  have sz_b3 : h0.size ≤ b3 := Nat.le_trans K0.1 (Nat.le_of_eq g3.symm)
  have K3 := K0.ext E3
  have Z3 : n0 ≤ h3.size := Nat.le_trans Z0 E3.1
  refine own_by st3 ?_
  obtain ⟨T6, X6, e6, st6⟩ := castY X3 hx hZ hown (hw _ (List.mem_of_getElem? (i := 55) rfl)) e3 (Ins.self A3) (g := (mkF m 6 #[] [(.ref b3)])) rfl rfl (hb hby d9_6)
  refine own_by st6 ?_
  obtain ⟨fs, hr, hrun, hended, hW, hsame⟩ := X6.leave (v := some (.ref b3)) (fun h => by rw [Bd.returns] at h; cases h)
  refine ⟨_, _, ?_, hrun, hended, _, _, rfl, ?_, ⟨_, rfl⟩, hW, hsame.mono (by decide) (by decide)⟩
  · show Steps p.tables e below (T6.setTop (mkF m 9 #[] [(.ref b3)])) _
    jvm_step X6.here [X6.here.top, hx, (hb hby d9_9), X6.method', Bd.returns, Value.isRef, FieldType.isReference]
    first | (intro acts; rw [hr _ acts rfl rfl rfl]) | rw [hr _ _ rfl rfl rfl]
    exact Steps.refl _
  · show Q9 Z wV cl wNO wBY_NAME wBY_TYPE wCONSTRUCTOR h0 n0 _ T6.heap _
    rw [e6]
    exact ⟨_, rfl, sz_b3, N0, K3, Ar3⟩
theorem d10_0 : decode jdk_42_method_66_code 0 = .ok (.aload_n 0, 1) := by decide +kernel
theorem d10_1 : decode jdk_42_method_66_code 1 = .ok (.aload_n 1, 1) := by decide +kernel
theorem d10_2 : decode jdk_42_method_66_code 2 = .ok (.if_acmp .ne 5, 3) := by decide +kernel
theorem d10_7 : decode jdk_42_method_66_code 7 = .ok (.aload_n 1, 1) := by decide +kernel
theorem d10_8 : decode jdk_42_method_66_code 8 = .ok (.instanceof 10, 3) := by decide +kernel
theorem d10_11 : decode jdk_42_method_66_code 11 = .ok (.ifCond .eq 43, 3) := by decide +kernel
theorem d10_54 : decode jdk_42_method_66_code 54 = .ok (.iconst 0, 1) := by decide +kernel
theorem d10_55 : decode jdk_42_method_66_code 55 = .ok (.ireturn, 1) := by decide +kernel
theorem pn_10n : plainFor (⟨"java/lang/String", "equals", "(Ljava/lang/Object;)Z"⟩ : MethodName) = true := by first | exact plainFor_of_name (by first | (simp [plainName, overriddenIn]; done) | decide +kernel) | decide +kernel | exact Jvm.Free.JP.mathPlain rfl (by decide +kernel)
theorem ef_10n (m : MethodId) (a1 : Addr) : entryFrame m #[(.ref a1), .null] 3 = mkF m 0 #[.val (.ref a1), .val .null, .unset] [] := by first | (simp [entryFrame, mkF, argsToLocals, Value.category]; done) | rfl
def Q10n (Z : State) (a1 : Addr) (h0 : Heap) (n0 : Nat) (v : Option Value) (h : Heap) (L : List Loc) : Prop := v = some (.int 0) ∧ Fr n0 L ∧ h = h0
set_option maxRecDepth 65536 in
set_option maxHeartbeats 40000000 in
theorem rm10n (l : Launch) (Z : State) (a0 : Array Value) (hw : ∀ d ∈ tables_1, d.before a0 Z = true) (ws : List Jvm.Cond) (a1 : Addr) (h0 : Heap) (n0 : Nat) (Z0 : n0 ≤ h0.size) :
    MetFree l (⟨"java/lang/String", "equals", "(Ljava/lang/Object;)Z"⟩ : MethodName) (head1 (Jvm.Cond.code (⟨"java/lang/String", "equals", "(Ljava/lang/Object;)Z"⟩ : MethodName) jdk_42_method_66_code 3 (some .boolean) :: ws) ({ frames := 0, cells := 0, slots := 0, locals := 0 } : Room)) (fun a U => a = #[(.ref a1), .null] ∧ Z.Warmed39 U.vm ∧ U.heap = h0) (fun _ _ _ _ _ => True) (fun _ U o U' => ∃ v L, o = .returned v ∧ Q10n Z a1 h0 n0 v U'.heap L ∧ FrameEnd U o U' L ({ frames := 0, cells := 0, slots := 0, locals := 0 } : Room).cells ({ frames := 0, cells := 0, slots := 0, locals := 0 } : Room).slots) := by
  refine MetFree.of_bodySF pn_10n hisR ?_
  intro p e s m args below meth c s₁ Bd hml0 hP hK
  obtain ⟨rfl, hZ, hh⟩ := hP
  have hx := Bd.exec
  have hby := Bd.bytes
  have hml : c.maxLocals = 3 := hml0
  have hown : s.vm.findClass "java/lang/String" = some m.cls := findClass_of_methodNamed Bd.named
  have hnm := (name_of_methodNamed Bd.named Bd.method).1
  have X0 : Stand p l e ({ frames := 0, cells := 0, slots := 0, locals := 0 } : Room) s m #[(.ref a1), .null] below meth c s₁ [] 0 0 := Stand.of_body Bd
  have e0 : s₁.heap = h0 := by rw [← hh, Bd.state]; rfl
  have N0 := Fr.nil n0
  refine own_at (castTop (ef_10n m a1)) ?_
  have sg8 : ∀ t, own_S p e below s₁ (mkF m 8 #[.val (.ref a1), .val .null, .unset] [.null]) t → own_S p e below s₁ (mkF m 0 #[.val (.ref a1), .val .null, .unset] []) t := by
    intro t k
    show own_S p e below s₁ (mkF m 0 #[.val (.ref a1), .val .null, .unset] []) _
    refine XS.aloadN X0.here hx rfl (hb hby d10_0) rfl rfl ?_
    show own_S p e below s₁ (mkF m 1 #[.val (.ref a1), .val .null, .unset] [(.ref a1)]) _
    refine XS.aloadN X0.here hx rfl (hb hby d10_1) rfl rfl ?_
    show own_S p e below s₁ (mkF m 2 #[.val (.ref a1), .val .null, .unset] [.null, (.ref a1)]) _
    refine Jvm.RoadKit.acmp (g := (mkF m 2 #[.val (.ref a1), .val .null, .unset] [.null, (.ref a1)])) X0 hx rfl rfl rfl (pc0 := 2) (pc' := 7) (same := false) rfl (hb hby d10_2) rfl (decide_eq_false (fun q => by cases q)) (by decide) (by decide) ?_
    show own_S p e below s₁ (mkF m 7 #[.val (.ref a1), .val .null, .unset] []) _
    refine XS.aloadN X0.here hx rfl (hb hby d10_7) rfl rfl ?_
    exact k
  refine own_by sg8 ?_
  have st8 : ∀ t, own_S p e below s₁ (mkF m 11 #[.val (.ref a1), .val .null, .unset] [(.int (0 : Int32))]) t → own_S p e below s₁ (mkF m 8 #[.val (.ref a1), .val .null, .unset] [.null]) t := fun t k => X0.instanceofNull hx (g := (mkF m 8 #[.val (.ref a1), .val .null, .unset] [.null])) rfl rfl (hb hby d10_8) _ k
  refine own_by st8 ?_
  have sg55 : ∀ t, own_S p e below s₁ (mkF m 55 #[.val (.ref a1), .val .null, .unset] [(.int (0 : Int32))]) t → own_S p e below s₁ (mkF m 11 #[.val (.ref a1), .val .null, .unset] [(.int (0 : Int32))]) t := by
    intro t k
    show own_S p e below s₁ (mkF m 11 #[.val (.ref a1), .val .null, .unset] [(.int (0 : Int32))]) _
    refine XS.ifYes X0.here hx rfl (pc0 := 11) (pc' := 54) rfl (hb hby d10_11) rfl ((if0 _ _).trans (teq (by decide : (0 : Int32) = (0 : Int32))).1) (by decide) (by decide) ?_
    show own_S p e below s₁ (mkF m 54 #[.val (.ref a1), .val .null, .unset] []) _
    refine XS.iconst X0.here hx rfl (hb hby d10_54) ?_
    exact k
  refine own_by sg55 ?_
  obtain ⟨fs, hr, hrun, hended, hW, hsame⟩ := X0.leave (v := some (.int (0 : Int32))) (fun h => by rw [Bd.returns] at h; cases h)
  refine ⟨_, _, ?_, hrun, hended, _, _, rfl, ?_, ⟨_, rfl⟩, hW, hsame.mono (by decide) (by decide)⟩
  · exact retN X0 hx (t := .boolean) Bd.returns (by simp) (hb hby d10_55) hr
  · show Q10n Z a1 h0 n0 _ s₁.heap _
    rw [e0]
    exact ⟨rfl, N0, rfl⟩
theorem d8_0 : decode prog_10_method_4_code 0 = .ok (.invokestatic 39, 3) := by decide +kernel
theorem d8_3 : decode prog_10_method_4_code 3 = .ok (.astore_n 1, 1) := by decide +kernel
theorem d8_4 : decode prog_10_method_4_code 4 = .ok (.aload_n 1, 1) := by decide +kernel
theorem d8_5 : decode prog_10_method_4_code 5 = .ok (.arraylength, 1) := by decide +kernel
theorem d8_6 : decode prog_10_method_4_code 6 = .ok (.istore_n 2, 1) := by decide +kernel
theorem d8_7 : decode prog_10_method_4_code 7 = .ok (.iconst 0, 1) := by decide +kernel
theorem d8_8 : decode prog_10_method_4_code 8 = .ok (.istore_n 3, 1) := by decide +kernel
theorem d8_9 : decode prog_10_method_4_code 9 = .ok (.iload_n 3, 1) := by decide +kernel
theorem d8_10 : decode prog_10_method_4_code 10 = .ok (.iload_n 2, 1) := by decide +kernel
theorem d8_11 : decode prog_10_method_4_code 11 = .ok (.if_icmp .ge 29, 3) := by decide +kernel
theorem d8_14 : decode prog_10_method_4_code 14 = .ok (.aload_n 1, 1) := by decide +kernel
theorem d8_15 : decode prog_10_method_4_code 15 = .ok (.iload_n 3, 1) := by decide +kernel
theorem d8_16 : decode prog_10_method_4_code 16 = .ok (.aaload, 1) := by decide +kernel
theorem d8_17 : decode prog_10_method_4_code 17 = .ok (.astore 4, 2) := by decide +kernel
theorem d8_19 : decode prog_10_method_4_code 19 = .ok (.aload 4, 2) := by decide +kernel
theorem d8_21 : decode prog_10_method_4_code 21 = .ok (.getfield 35, 3) := by decide +kernel
theorem d8_24 : decode prog_10_method_4_code 24 = .ok (.aload_n 0, 1) := by decide +kernel
theorem d8_25 : decode prog_10_method_4_code 25 = .ok (.invokevirtual 43, 3) := by decide +kernel
theorem d8_28 : decode prog_10_method_4_code 28 = .ok (.ifCond .eq 6, 3) := by decide +kernel
theorem d8_31 : decode prog_10_method_4_code 31 = .ok (.aload 4, 2) := by decide +kernel
theorem d8_33 : decode prog_10_method_4_code 33 = .ok (.areturn, 1) := by decide +kernel
theorem d8_34 : decode prog_10_method_4_code 34 = .ok (.iinc 3 1, 3) := by decide +kernel
theorem d8_37 : decode prog_10_method_4_code 37 = .ok (.goto (-28), 3) := by decide +kernel
theorem d8_40 : decode prog_10_method_4_code 40 = .ok (.aconst_null, 1) := by decide +kernel
theorem d8_41 : decode prog_10_method_4_code 41 = .ok (.areturn, 1) := by decide +kernel
theorem pn_8 : plainFor (⟨"com/example/spojka/spojka/AutowireMode", "named", "(Ljava/lang/String;)Lcom/example/spojka/spojka/AutowireMode;"⟩ : MethodName) = true := by first | exact plainFor_of_name (by first | (simp [plainName, overriddenIn]; done) | decide +kernel) | decide +kernel | exact Jvm.Free.JP.mathPlain rfl (by decide +kernel)
theorem pd_8_0 : parseMethodDescriptor "()[Lcom/example/spojka/spojka/AutowireMode;" = some ⟨[], some (.array (.object "com/example/spojka/spojka/AutowireMode"))⟩ := by decide +kernel
theorem pd_8_1 : parseMethodDescriptor "(Ljava/lang/Object;)Z" = some ⟨[(.object "java/lang/Object")], some .boolean⟩ := by decide +kernel
theorem ef_8 (m : MethodId) (a1 : Addr) : entryFrame m #[(.ref a1)] 5 = mkF m 0 #[.val (.ref a1), .unset, .unset, .unset, .unset] [] := by first | (simp [entryFrame, mkF, argsToLocals, Value.category]; done) | rfl
def Q8 (Z : State) (a1 : Addr) (cs : List Int32) (wV : Addr) (cl : Cell) (wNO : Addr) (wBY_NAME : Addr) (wBY_TYPE : Addr) (wCONSTRUCTOR : Addr) (sNO : Addr) (sBY_NAME : Addr) (sBY_TYPE : Addr) (sCONSTRUCTOR : Addr) (gz : Int32) (h0 : Heap) (n0 : Nat) (v : Option Value) (h : Heap) (L : List Loc) : Prop := v = some (if ([(110 : Int32), (111 : Int32)] : List Int32) = cs then Value.ref wNO else (if ([(98 : Int32), (121 : Int32), (78 : Int32), (97 : Int32), (109 : Int32), (101 : Int32)] : List Int32) = cs then Value.ref wBY_NAME else (if ([(98 : Int32), (121 : Int32), (84 : Int32), (121 : Int32), (112 : Int32), (101 : Int32)] : List Int32) = cs then Value.ref wBY_TYPE else (if ([(99 : Int32), (111 : Int32), (110 : Int32), (115 : Int32), (116 : Int32), (114 : Int32), (117 : Int32), (99 : Int32), (116 : Int32), (111 : Int32), (114 : Int32)] : List Int32) = cs then Value.ref wCONSTRUCTOR else Value.null)))) ∧ Fr n0 L ∧ Keep h0 h []
set_option maxRecDepth 65536 in
set_option maxHeartbeats 40000000 in
theorem rm8 (l : Launch) (Z : State) (a0 : Array Value) (hw : ∀ d ∈ tables_1, d.before a0 Z = true) (ws : List Jvm.Cond) (a1 : Addr) (cs : List Int32) (wV : Addr) (cl : Cell) (wNO : Addr) (wBY_NAME : Addr) (wBY_TYPE : Addr) (wCONSTRUCTOR : Addr) (sNO : Addr) (sBY_NAME : Addr) (sBY_TYPE : Addr) (sCONSTRUCTOR : Addr) (gz : Int32) (h0 : Heap) (n0 : Nat) (Z0 : n0 ≤ h0.size) (O : Old Z n0 h0) (O2 : Sta Z Z.heap "java/lang/String" "COMPACT_STRINGS" "Z" (.int gz)) (P5 : ¬ (gz = (0 : Int32))) (S_V : Sta Z Z.heap "com/example/spojka/spojka/AutowireMode" "$VALUES" "[Lcom/example/spojka/spojka/AutowireMode;" (.ref wV)) (Ar_V : Arr Z Z.heap wV cl (.object "com/example/spojka/spojka/AutowireMode")) (E_V : Exa Z Z.heap wV "[Lcom/example/spojka/spojka/AutowireMode;") (FC : FitC Z cl) (hsz : cl.slots.size = 4) (hat0 : cl.slots[0]? = some (.ref wNO)) (hat1 : cl.slots[1]? = some (.ref wBY_NAME)) (hat2 : cl.slots[2]? = some (.ref wBY_TYPE)) (hat3 : cl.slots[3]? = some (.ref wCONSTRUCTOR)) (FV_NO : Fld Z Z.heap wNO "com/example/spojka/spojka/AutowireMode" "value" "Ljava/lang/String;" (.ref sNO)) (FV_BY_NAME : Fld Z Z.heap wBY_NAME "com/example/spojka/spojka/AutowireMode" "value" "Ljava/lang/String;" (.ref sBY_NAME)) (FV_BY_TYPE : Fld Z Z.heap wBY_TYPE "com/example/spojka/spojka/AutowireMode" "value" "Ljava/lang/String;" (.ref sBY_TYPE)) (FV_CONSTRUCTOR : Fld Z Z.heap wCONSTRUCTOR "com/example/spojka/spojka/AutowireMode" "value" "Ljava/lang/String;" (.ref sCONSTRUCTOR)) (EX_NO : Exa Z Z.heap sNO "java/lang/String") (EX_BY_NAME : Exa Z Z.heap sBY_NAME "java/lang/String") (EX_BY_TYPE : Exa Z Z.heap sBY_TYPE "java/lang/String") (EX_CONSTRUCTOR : Exa Z Z.heap sCONSTRUCTOR "java/lang/String") (Str_NO : own_Str Z Z.heap sNO ([(110 : Int32), (111 : Int32)] : List Int32)) (Str_BY_NAME : own_Str Z Z.heap sBY_NAME ([(98 : Int32), (121 : Int32), (78 : Int32), (97 : Int32), (109 : Int32), (101 : Int32)] : List Int32)) (Str_BY_TYPE : own_Str Z Z.heap sBY_TYPE ([(98 : Int32), (121 : Int32), (84 : Int32), (121 : Int32), (112 : Int32), (101 : Int32)] : List Int32)) (Str_CONSTRUCTOR : own_Str Z Z.heap sCONSTRUCTOR ([(99 : Int32), (111 : Int32), (110 : Int32), (115 : Int32), (116 : Int32), (114 : Int32), (117 : Int32), (99 : Int32), (116 : Int32), (111 : Int32), (114 : Int32)] : List Int32)) (S1 : own_Str Z h0 a1 cs) :
    MetFree l (⟨"com/example/spojka/spojka/AutowireMode", "named", "(Ljava/lang/String;)Lcom/example/spojka/spojka/AutowireMode;"⟩ : MethodName) (head1 (Jvm.Cond.code (⟨"com/example/spojka/spojka/AutowireMode", "named", "(Ljava/lang/String;)Lcom/example/spojka/spojka/AutowireMode;"⟩ : MethodName) prog_10_method_4_code 5 (some (.object "com/example/spojka/spojka/AutowireMode")) :: ws) ({ frames := 2, cells := 1, slots := 4, locals := 28 } : Room)) (fun a U => a = #[(.ref a1)] ∧ Z.Warmed39 U.vm ∧ U.heap = h0) (fun _ _ _ _ _ => True) (fun _ U o U' => ∃ v L, o = .returned v ∧ Q8 Z a1 cs wV cl wNO wBY_NAME wBY_TYPE wCONSTRUCTOR sNO sBY_NAME sBY_TYPE sCONSTRUCTOR gz h0 n0 v U'.heap L ∧ FrameEnd U o U' L ({ frames := 2, cells := 1, slots := 4, locals := 28 } : Room).cells ({ frames := 2, cells := 1, slots := 4, locals := 28 } : Room).slots) := by
  refine MetFree.of_bodySF pn_8 hisR ?_
  intro p e s m args below meth c s₁ Bd hml0 hP hK
  obtain ⟨rfl, hZ, hh⟩ := hP
  have hx := Bd.exec
  have hby := Bd.bytes
  have hml : c.maxLocals = 5 := hml0
  have hown : s.vm.findClass "com/example/spojka/spojka/AutowireMode" = some m.cls := findClass_of_methodNamed Bd.named
  have hnm := (name_of_methodNamed Bd.named Bd.method).1
  have X0 : Stand p l e ({ frames := 2, cells := 1, slots := 4, locals := 28 } : Room) s m #[(.ref a1)] below meth c s₁ [] 0 0 := Stand.of_body Bd
  have e0 : s₁.heap = h0 := by rw [← hh, Bd.state]; rfl
  have N0 := Fr.nil n0
  refine own_at (castTop (ef_8 m a1)) ?_
  have K0 := Keep.refl h0 []
  have heq : ∀ d ∈ StrChars.Road.wordsEq, d.before a0 Z = true := fun d hd => hw d ((by decide +kernel : ∀ d ∈ StrChars.Road.wordsEq, d ∈ tables_1) d hd)
  obtain ⟨_, _, ⟨T00, L00, k00, n00⟩, -, X00, ⟨Lc00, hQ00, l00, y00, z00⟩, st00⟩ := Jvm.LawKit.callS X0 hx (y := (⟨"com/example/spojka/spojka/AutowireMode", "values", "()[Lcom/example/spojka/spojka/AutowireMode;"⟩ : MethodName)) hown (mvT hZ (hw _ (List.mem_of_getElem? (i := 38) rfl))) (mvT hZ (hw _ (List.mem_of_getElem? (i := 39) rfl))) (mvT hZ (hw _ (List.mem_of_getElem? (i := 36) rfl))) (mvT hZ (hw _ (List.mem_of_getElem? (i := 40) rfl))) (by decide) (backOf (W := 0) (rm9 l Z a0 hw [] wV cl wNO wBY_NAME wBY_TYPE wCONSTRUCTOR h0 n0 Z0 (S_V.ext O.2) (Ar_V.ext O.2) (E_V.ext O.2) FC hsz hat0 hat1 hat2 hat3) hZ (hw _ (List.mem_of_getElem? (i := 40) rfl)) (hw _ (List.mem_of_getElem? (i := 36) rfl)) (by decide) (by decide)) (g := (mkF m 0 (own_ARUUUU a1) [])) rfl (by rw [hml]; rfl) (argsL := []) (rest := []) (lenOf pd_8_0 rfl) rfl (by show 2 * 0 + _ ≤ _; exact Nat.le_of_eq rfl) (hb hby d8_0) (fun _ _ => ⟨rfl, e0, (by decide : 0 + 1 ≤ _), (by decide : 0 + 4 ≤ _)⟩)
  dsimp only [Pt.U, Pt.locs, Pt.cells, Pt.slots] at X00 l00 y00 z00 st00 hQ00
  subst l00 y00 z00
  obtain ⟨r00, rfl, ge00, N00q, Kq00, Ar00⟩ := hQ00
  have N00 := Fr.app N0 N00q
  have ne_a1_r00 : a1 ≠ r00 := Nat.ne_of_lt (Nat.lt_of_lt_of_le S1.lt ge00)
  have g_r00 : n0 ≤ r00 := Nat.le_trans Z0 ge00
  have sz_r00 : h0.size ≤ r00 := Nat.le_trans K0.1 ge00
  have K00 : Keep h0 T00.heap [] := K0.trans Kq00 (fun x hx => nomatch hx)
  have Z00 : n0 ≤ T00.heap.size := Nat.le_trans Z0 Kq00.1
  refine own_by st00 ?_
  have sg21 : ∀ t, own_S p e below T00 (mkF m 21 (own_ARRIIR a1 r00 (4 : Int32) (0 : Int32) wNO) [(.ref wNO)]) t → own_S p e below T00 (mkF m 3 (own_ARUUUU a1) [(.ref r00)]) t := by
    intro t k
    show own_S p e below T00 (mkF m 3 (own_ARUUUU a1) [(.ref r00)]) _
    refine XS.astoreN X00.here hx rfl (hb hby d8_3) rfl rfl (l' := (own_ARRUUU a1 r00)) rfl ?_
    show own_S p e below T00 (mkF m 4 (own_ARRUUU a1 r00) []) _
    refine XS.aloadN X00.here hx rfl (hb hby d8_4) rfl rfl ?_
    show own_S p e below T00 (mkF m 5 (own_ARRUUU a1 r00) [(.ref r00)]) _
    refine X00.arraylength hx (by exact Ar00.1) (State.isArrayOf_alike hZ.alike Ar00.2.1) (g := (mkF m 5 (own_ARRUUU a1 r00) [(.ref r00)])) rfl rfl (hb hby d8_5) _ ?_
    rw [hsz]
    show own_S p e below T00 (mkF m 6 (own_ARRUUU a1 r00) [(.int (4 : Int32))]) _
    refine XS.istoreN X00.here hx rfl (hb hby d8_6) rfl (l' := (own_ARRIUU a1 r00 (4 : Int32))) rfl ?_
    show own_S p e below T00 (mkF m 7 (own_ARRIUU a1 r00 (4 : Int32)) []) _
    refine XS.iconst X00.here hx rfl (hb hby d8_7) ?_
    show own_S p e below T00 (mkF m 8 (own_ARRIUU a1 r00 (4 : Int32)) [(.int (0 : Int32))]) _
    refine XS.istoreN X00.here hx rfl (hb hby d8_8) rfl (l' := (own_ARRIIU a1 r00 (4 : Int32) (0 : Int32))) rfl ?_
    show own_S p e below T00 (mkF m 9 (own_ARRIIU a1 r00 (4 : Int32) (0 : Int32)) []) _
    refine XS.iloadN X00.here hx rfl (hb hby d8_9) rfl ?_
    show own_S p e below T00 (mkF m 10 (own_ARRIIU a1 r00 (4 : Int32) (0 : Int32)) [(.int (0 : Int32))]) _
    refine XS.iloadN X00.here hx rfl (hb hby d8_10) rfl ?_
    show own_S p e below T00 (mkF m 11 (own_ARRIIU a1 r00 (4 : Int32) (0 : Int32)) [(.int (4 : Int32)), (.int (0 : Int32))]) _
    refine XS.icmpNo X00.here hx rfl (hb hby d8_11) rfl (tlt (by decide : (0 : Int32) < (4 : Int32))).2.1 ?_
    show own_S p e below T00 (mkF m 14 (own_ARRIIU a1 r00 (4 : Int32) (0 : Int32)) []) _
    refine XS.aloadN X00.here hx rfl (hb hby d8_14) rfl rfl ?_
    show own_S p e below T00 (mkF m 15 (own_ARRIIU a1 r00 (4 : Int32) (0 : Int32)) [(.ref r00)]) _
    refine XS.iloadN X00.here hx rfl (hb hby d8_15) rfl ?_
    show own_S p e below T00 (mkF m 16 (own_ARRIIU a1 r00 (4 : Int32) (0 : Int32)) [(.int (0 : Int32)), (.ref r00)]) _
    refine X00.aaload hx (j := (0 : Int32)) (v := (.ref wNO)) (by exact Ar00.1) (State.isArrayOf_alike hZ.alike Ar00.2.1) rfl Ar00.2.2 (by rw [hsz]; decide) hat0 (g := (mkF m 16 (own_ARRIIU a1 r00 (4 : Int32) (0 : Int32)) [(.int (0 : Int32)), (.ref r00)])) rfl rfl (hb hby d8_16) _ ?_
    show own_S p e below T00 (mkF m 17 (own_ARRIIU a1 r00 (4 : Int32) (0 : Int32)) [(.ref wNO)]) _
    refine XS.astore X00.here hx rfl (hb hby d8_17) rfl rfl (l' := (own_ARRIIR a1 r00 (4 : Int32) (0 : Int32) wNO)) rfl ?_
    show own_S p e below T00 (mkF m 19 (own_ARRIIR a1 r00 (4 : Int32) (0 : Int32) wNO) []) _
    refine XS.aload X00.here hx rfl (hb hby d8_19) rfl rfl ?_
    exact k
  refine own_by sg21 ?_
  obtain ⟨T21, X21, e21, st21⟩ := getF X00 hx hZ hown (host := "") (Or.inl (hw _ (List.mem_of_getElem? (i := 57) rfl))) Via.refl rfl (FV_NO.ext (O.keep Kq00 all0).2) (g := (mkF m 21 (own_ARRIIR a1 r00 (4 : Int32) (0 : Int32) wNO) [(.ref wNO)])) rfl rfl (hb hby d8_21)
  refine own_by st21 ?_
  have sg25 : ∀ t, own_S p e below T21 (mkF m 25 (own_ARRIIR a1 r00 (4 : Int32) (0 : Int32) wNO) [(.ref a1), (.ref sNO)]) t → own_S p e below T21 (mkF m 24 (own_ARRIIR a1 r00 (4 : Int32) (0 : Int32) wNO) [(.ref sNO)]) t := by
    intro t k
    show own_S p e below T21 (mkF m 24 (own_ARRIIR a1 r00 (4 : Int32) (0 : Int32) wNO) [(.ref sNO)]) _
    refine XS.aloadN X21.here hx rfl (hb hby d8_24) rfl rfl ?_
    exact k
  refine own_by sg25 ?_
  obtain ⟨tx25, kx25, dx25, nx25, vx25, xe25, xv25, xc25, xk25, xh25, xb25, xl25⟩ := id (Str_NO.ext (O.keep Kq00 all0).2)
  obtain ⟨ty25, ky25, dy25, ny25, vy25, ye25, yv25, yc25, yk25, yh25, yb25, yl25⟩ := id (S1.ext (own_kx Kq00))
  obtain ⟨cq25, kq25, q25a, q25b, q25c⟩ := isOf hZ e21 (EX_NO.ext (O.keep Kq00 all0).2)
  obtain ⟨_, _, ⟨T25, L25, k25, n25⟩, -, X25, ⟨Lc25, hQ25, l25, y25, z25⟩, st25⟩ := X21.virtualBack hx (y := (⟨"java/lang/String", "equals", "(Ljava/lang/Object;)Z"⟩ : MethodName)) (z := (⟨"java/lang/String", "equals", "(Ljava/lang/Object;)Z"⟩ : MethodName)) hown (mvT hZ (hw _ (List.mem_of_getElem? (i := 59) rfl))) (mvT hZ (hw _ (List.mem_of_getElem? (i := 60) rfl))) (notFace_of_selects (args := #[]) (mvT hZ (hw _ (List.mem_of_getElem? (i := 62) rfl)))) (mvT hZ (hw _ (List.mem_of_getElem? (i := 62) rfl))) (mvT hZ (hw _ (List.mem_of_getElem? (i := 61) rfl))) (by decide) (StrChars.Road.eqW (W := 0) hZ heq (kI := 4) (hw _ (List.mem_of_getElem? (i := 1) rfl)) xe25 xv25 xc25 xk25 xh25 xb25 xl25 ye25 yv25 yc25 yk25 yh25 yb25 yl25 (O2.ext (O.keep Kq00 all0).2) P5 (by decide) (by decide)) q25a q25c (g := (mkF m 25 (own_ARRIIR a1 r00 (4 : Int32) (0 : Int32) wNO) [(.ref a1), (.ref sNO)])) rfl (by rw [hml]; rfl) (Steps.refl _) (argsL := [(.ref a1)]) (rest := []) (lenOf pd_8_1 rfl) rfl (by show 2 * 0 + _ ≤ _; exact Nat.le_of_eq rfl) (hb hby d8_25) (fun _ _ => ⟨rfl, e21, (by decide : 1 + 0 ≤ _), (by decide : 4 + 0 ≤ _)⟩)
  dsimp only [Pt.U, Pt.locs, Pt.cells, Pt.slots] at X25 l25 y25 z25 st25 hQ25
  subst l25 y25 z25
  obtain ⟨hv25, rfl, hq25⟩ := hQ25
  obtain rfl := own_eqv hv25
  have N25 := Fr.app N00 (Fr.nil n0)
  obtain ⟨c25, hc25⟩ : ∃ z : Int32, z = (if ([(110 : Int32), (111 : Int32)] : List Int32) = cs then (1 : Int32) else (0 : Int32)) := ⟨_, rfl⟩
  rw [← hc25] at st25
  refine own_by (fun t k => st25.trans k) ?_
  by_cases hc28 : c25 = (0 : Int32)
  · have sg21_2 : ∀ t, own_S p e below T25 (mkF m 21 (own_ARRIIR a1 r00 (4 : Int32) (1 : Int32) wBY_NAME) [(.ref wBY_NAME)]) t → own_S p e below T25 (mkF m 28 (own_ARRIIR a1 r00 (4 : Int32) (0 : Int32) wNO) [(.int c25)]) t := by
      intro t k
      show own_S p e below T25 (mkF m 28 (own_ARRIIR a1 r00 (4 : Int32) (0 : Int32) wNO) [(.int c25)]) _
      refine XS.ifYes X25.here hx rfl (pc0 := 28) (pc' := 34) rfl (hb hby d8_28) rfl ((if0 _ _).trans (teq hc28).1) (by decide) (by decide) ?_
      show own_S p e below T25 (mkF m 34 (own_ARRIIR a1 r00 (4 : Int32) (0 : Int32) wNO) []) _
      refine XS.iinc X25.here hx rfl (hb hby d8_34) rfl (l' := (own_ARRIIR a1 r00 (4 : Int32) (1 : Int32) wNO)) rfl ?_
      show own_S p e below T25 (mkF m 37 (own_ARRIIR a1 r00 (4 : Int32) (1 : Int32) wNO) []) _
      refine XS.goto X25.here hx rfl (pc0 := 37) (pc' := 9) rfl (hb hby d8_37) (by decide) (by decide) ?_
      show own_S p e below T25 (mkF m 9 (own_ARRIIR a1 r00 (4 : Int32) (1 : Int32) wNO) []) _
      refine XS.iloadN X25.here hx rfl (hb hby d8_9) rfl ?_
      show own_S p e below T25 (mkF m 10 (own_ARRIIR a1 r00 (4 : Int32) (1 : Int32) wNO) [(.int (1 : Int32))]) _
      refine XS.iloadN X25.here hx rfl (hb hby d8_10) rfl ?_
      show own_S p e below T25 (mkF m 11 (own_ARRIIR a1 r00 (4 : Int32) (1 : Int32) wNO) [(.int (4 : Int32)), (.int (1 : Int32))]) _
      refine XS.icmpNo X25.here hx rfl (hb hby d8_11) rfl (tlt (by decide : (1 : Int32) < (4 : Int32))).2.1 ?_
      show own_S p e below T25 (mkF m 14 (own_ARRIIR a1 r00 (4 : Int32) (1 : Int32) wNO) []) _
      refine XS.aloadN X25.here hx rfl (hb hby d8_14) rfl rfl ?_
      show own_S p e below T25 (mkF m 15 (own_ARRIIR a1 r00 (4 : Int32) (1 : Int32) wNO) [(.ref r00)]) _
      refine XS.iloadN X25.here hx rfl (hb hby d8_15) rfl ?_
      show own_S p e below T25 (mkF m 16 (own_ARRIIR a1 r00 (4 : Int32) (1 : Int32) wNO) [(.int (1 : Int32)), (.ref r00)]) _
      refine X25.aaload hx (j := (1 : Int32)) (v := (.ref wBY_NAME)) (by rw [hq25]; exact Ar00.1) (State.isArrayOf_alike hZ.alike Ar00.2.1) rfl Ar00.2.2 (by rw [hsz]; decide) hat1 (g := (mkF m 16 (own_ARRIIR a1 r00 (4 : Int32) (1 : Int32) wNO) [(.int (1 : Int32)), (.ref r00)])) rfl rfl (hb hby d8_16) _ ?_
      show own_S p e below T25 (mkF m 17 (own_ARRIIR a1 r00 (4 : Int32) (1 : Int32) wNO) [(.ref wBY_NAME)]) _
      refine XS.astore X25.here hx rfl (hb hby d8_17) rfl rfl (l' := (own_ARRIIR a1 r00 (4 : Int32) (1 : Int32) wBY_NAME)) rfl ?_
      show own_S p e below T25 (mkF m 19 (own_ARRIIR a1 r00 (4 : Int32) (1 : Int32) wBY_NAME) []) _
      refine XS.aload X25.here hx rfl (hb hby d8_19) rfl rfl ?_
      exact k
    refine own_by sg21_2 ?_
    obtain ⟨T21_2, X21_2, e21_2, st21_2⟩ := getF X25 hx hZ hown (host := "") (Or.inl (hw _ (List.mem_of_getElem? (i := 57) rfl))) Via.refl hq25 (FV_BY_NAME.ext (O.keep Kq00 all0).2) (g := (mkF m 21 (own_ARRIIR a1 r00 (4 : Int32) (1 : Int32) wBY_NAME) [(.ref wBY_NAME)])) rfl rfl (hb hby d8_21)
    refine own_by st21_2 ?_
    have sg25_2 : ∀ t, own_S p e below T21_2 (mkF m 25 (own_ARRIIR a1 r00 (4 : Int32) (1 : Int32) wBY_NAME) [(.ref a1), (.ref sBY_NAME)]) t → own_S p e below T21_2 (mkF m 24 (own_ARRIIR a1 r00 (4 : Int32) (1 : Int32) wBY_NAME) [(.ref sBY_NAME)]) t := by
      intro t k
      show own_S p e below T21_2 (mkF m 24 (own_ARRIIR a1 r00 (4 : Int32) (1 : Int32) wBY_NAME) [(.ref sBY_NAME)]) _
      refine XS.aloadN X21_2.here hx rfl (hb hby d8_24) rfl rfl ?_
      exact k
    refine own_by sg25_2 ?_
    obtain ⟨tx25_2, kx25_2, dx25_2, nx25_2, vx25_2, xe25_2, xv25_2, xc25_2, xk25_2, xh25_2, xb25_2, xl25_2⟩ := id (Str_BY_NAME.ext (O.keep Kq00 all0).2)
    obtain ⟨ty25_2, ky25_2, dy25_2, ny25_2, vy25_2, ye25_2, yv25_2, yc25_2, yk25_2, yh25_2, yb25_2, yl25_2⟩ := id (S1.ext (own_kx Kq00))
    obtain ⟨cq25_2, kq25_2, q25_2a, q25_2b, q25_2c⟩ := isOf hZ e21_2 (EX_BY_NAME.ext (O.keep Kq00 all0).2)
    obtain ⟨_, _, ⟨T25_2, L25_2, k25_2, n25_2⟩, -, X25_2, ⟨Lc25_2, hQ25_2, l25_2, y25_2, z25_2⟩, st25_2⟩ := X21_2.virtualBack hx (y := (⟨"java/lang/String", "equals", "(Ljava/lang/Object;)Z"⟩ : MethodName)) (z := (⟨"java/lang/String", "equals", "(Ljava/lang/Object;)Z"⟩ : MethodName)) hown (mvT hZ (hw _ (List.mem_of_getElem? (i := 59) rfl))) (mvT hZ (hw _ (List.mem_of_getElem? (i := 60) rfl))) (notFace_of_selects (args := #[]) (mvT hZ (hw _ (List.mem_of_getElem? (i := 62) rfl)))) (mvT hZ (hw _ (List.mem_of_getElem? (i := 62) rfl))) (mvT hZ (hw _ (List.mem_of_getElem? (i := 61) rfl))) (by decide) (StrChars.Road.eqW (W := 0) hZ heq (kI := 4) (hw _ (List.mem_of_getElem? (i := 1) rfl)) xe25_2 xv25_2 xc25_2 xk25_2 xh25_2 xb25_2 xl25_2 ye25_2 yv25_2 yc25_2 yk25_2 yh25_2 yb25_2 yl25_2 (O2.ext (O.keep Kq00 all0).2) P5 (by decide) (by decide)) q25_2a q25_2c (g := (mkF m 25 (own_ARRIIR a1 r00 (4 : Int32) (1 : Int32) wBY_NAME) [(.ref a1), (.ref sBY_NAME)])) rfl (by rw [hml]; rfl) (Steps.refl _) (argsL := [(.ref a1)]) (rest := []) (lenOf pd_8_1 rfl) rfl (by show 2 * 0 + _ ≤ _; exact Nat.le_of_eq rfl) (hb hby d8_25) (fun _ _ => ⟨rfl, e21_2, (by decide : 1 + 0 ≤ _), (by decide : 4 + 0 ≤ _)⟩)
    dsimp only [Pt.U, Pt.locs, Pt.cells, Pt.slots] at X25_2 l25_2 y25_2 z25_2 st25_2 hQ25_2
    subst l25_2 y25_2 z25_2
    obtain ⟨hv25_2, rfl, hq25_2⟩ := hQ25_2
    obtain rfl := own_eqv hv25_2
    have N25_2 := Fr.app N25 (Fr.nil n0)
    obtain ⟨c25_2, hc25_2⟩ : ∃ z : Int32, z = (if ([(98 : Int32), (121 : Int32), (78 : Int32), (97 : Int32), (109 : Int32), (101 : Int32)] : List Int32) = cs then (1 : Int32) else (0 : Int32)) := ⟨_, rfl⟩
    rw [← hc25_2] at st25_2
    refine own_by (fun t k => st25_2.trans k) ?_
    by_cases hc28_2 : c25_2 = (0 : Int32)
    · have sg21_3 : ∀ t, own_S p e below T25_2 (mkF m 21 (own_ARRIIR a1 r00 (4 : Int32) (2 : Int32) wBY_TYPE) [(.ref wBY_TYPE)]) t → own_S p e below T25_2 (mkF m 28 (own_ARRIIR a1 r00 (4 : Int32) (1 : Int32) wBY_NAME) [(.int c25_2)]) t := by
        intro t k
        show own_S p e below T25_2 (mkF m 28 (own_ARRIIR a1 r00 (4 : Int32) (1 : Int32) wBY_NAME) [(.int c25_2)]) _
        refine XS.ifYes X25_2.here hx rfl (pc0 := 28) (pc' := 34) rfl (hb hby d8_28) rfl ((if0 _ _).trans (teq hc28_2).1) (by decide) (by decide) ?_
        show own_S p e below T25_2 (mkF m 34 (own_ARRIIR a1 r00 (4 : Int32) (1 : Int32) wBY_NAME) []) _
        refine XS.iinc X25_2.here hx rfl (hb hby d8_34) rfl (l' := (own_ARRIIR a1 r00 (4 : Int32) (2 : Int32) wBY_NAME)) rfl ?_
        show own_S p e below T25_2 (mkF m 37 (own_ARRIIR a1 r00 (4 : Int32) (2 : Int32) wBY_NAME) []) _
        refine XS.goto X25_2.here hx rfl (pc0 := 37) (pc' := 9) rfl (hb hby d8_37) (by decide) (by decide) ?_
        show own_S p e below T25_2 (mkF m 9 (own_ARRIIR a1 r00 (4 : Int32) (2 : Int32) wBY_NAME) []) _
        refine XS.iloadN X25_2.here hx rfl (hb hby d8_9) rfl ?_
        show own_S p e below T25_2 (mkF m 10 (own_ARRIIR a1 r00 (4 : Int32) (2 : Int32) wBY_NAME) [(.int (2 : Int32))]) _
        refine XS.iloadN X25_2.here hx rfl (hb hby d8_10) rfl ?_
        show own_S p e below T25_2 (mkF m 11 (own_ARRIIR a1 r00 (4 : Int32) (2 : Int32) wBY_NAME) [(.int (4 : Int32)), (.int (2 : Int32))]) _
        refine XS.icmpNo X25_2.here hx rfl (hb hby d8_11) rfl (tlt (by decide : (2 : Int32) < (4 : Int32))).2.1 ?_
        show own_S p e below T25_2 (mkF m 14 (own_ARRIIR a1 r00 (4 : Int32) (2 : Int32) wBY_NAME) []) _
        refine XS.aloadN X25_2.here hx rfl (hb hby d8_14) rfl rfl ?_
        show own_S p e below T25_2 (mkF m 15 (own_ARRIIR a1 r00 (4 : Int32) (2 : Int32) wBY_NAME) [(.ref r00)]) _
        refine XS.iloadN X25_2.here hx rfl (hb hby d8_15) rfl ?_
        show own_S p e below T25_2 (mkF m 16 (own_ARRIIR a1 r00 (4 : Int32) (2 : Int32) wBY_NAME) [(.int (2 : Int32)), (.ref r00)]) _
        refine X25_2.aaload hx (j := (2 : Int32)) (v := (.ref wBY_TYPE)) (by rw [hq25_2]; exact Ar00.1) (State.isArrayOf_alike hZ.alike Ar00.2.1) rfl Ar00.2.2 (by rw [hsz]; decide) hat2 (g := (mkF m 16 (own_ARRIIR a1 r00 (4 : Int32) (2 : Int32) wBY_NAME) [(.int (2 : Int32)), (.ref r00)])) rfl rfl (hb hby d8_16) _ ?_
        show own_S p e below T25_2 (mkF m 17 (own_ARRIIR a1 r00 (4 : Int32) (2 : Int32) wBY_NAME) [(.ref wBY_TYPE)]) _
        refine XS.astore X25_2.here hx rfl (hb hby d8_17) rfl rfl (l' := (own_ARRIIR a1 r00 (4 : Int32) (2 : Int32) wBY_TYPE)) rfl ?_
        show own_S p e below T25_2 (mkF m 19 (own_ARRIIR a1 r00 (4 : Int32) (2 : Int32) wBY_TYPE) []) _
        refine XS.aload X25_2.here hx rfl (hb hby d8_19) rfl rfl ?_
        exact k
      refine own_by sg21_3 ?_
      obtain ⟨T21_3, X21_3, e21_3, st21_3⟩ := getF X25_2 hx hZ hown (host := "") (Or.inl (hw _ (List.mem_of_getElem? (i := 57) rfl))) Via.refl hq25_2 (FV_BY_TYPE.ext (O.keep Kq00 all0).2) (g := (mkF m 21 (own_ARRIIR a1 r00 (4 : Int32) (2 : Int32) wBY_TYPE) [(.ref wBY_TYPE)])) rfl rfl (hb hby d8_21)
      refine own_by st21_3 ?_
      have sg25_3 : ∀ t, own_S p e below T21_3 (mkF m 25 (own_ARRIIR a1 r00 (4 : Int32) (2 : Int32) wBY_TYPE) [(.ref a1), (.ref sBY_TYPE)]) t → own_S p e below T21_3 (mkF m 24 (own_ARRIIR a1 r00 (4 : Int32) (2 : Int32) wBY_TYPE) [(.ref sBY_TYPE)]) t := by
        intro t k
        show own_S p e below T21_3 (mkF m 24 (own_ARRIIR a1 r00 (4 : Int32) (2 : Int32) wBY_TYPE) [(.ref sBY_TYPE)]) _
        refine XS.aloadN X21_3.here hx rfl (hb hby d8_24) rfl rfl ?_
        exact k
      refine own_by sg25_3 ?_
      obtain ⟨tx25_3, kx25_3, dx25_3, nx25_3, vx25_3, xe25_3, xv25_3, xc25_3, xk25_3, xh25_3, xb25_3, xl25_3⟩ := id (Str_BY_TYPE.ext (O.keep Kq00 all0).2)
      obtain ⟨ty25_3, ky25_3, dy25_3, ny25_3, vy25_3, ye25_3, yv25_3, yc25_3, yk25_3, yh25_3, yb25_3, yl25_3⟩ := id (S1.ext (own_kx Kq00))
      obtain ⟨cq25_3, kq25_3, q25_3a, q25_3b, q25_3c⟩ := isOf hZ e21_3 (EX_BY_TYPE.ext (O.keep Kq00 all0).2)
      obtain ⟨_, _, ⟨T25_3, L25_3, k25_3, n25_3⟩, -, X25_3, ⟨Lc25_3, hQ25_3, l25_3, y25_3, z25_3⟩, st25_3⟩ := X21_3.virtualBack hx (y := (⟨"java/lang/String", "equals", "(Ljava/lang/Object;)Z"⟩ : MethodName)) (z := (⟨"java/lang/String", "equals", "(Ljava/lang/Object;)Z"⟩ : MethodName)) hown (mvT hZ (hw _ (List.mem_of_getElem? (i := 59) rfl))) (mvT hZ (hw _ (List.mem_of_getElem? (i := 60) rfl))) (notFace_of_selects (args := #[]) (mvT hZ (hw _ (List.mem_of_getElem? (i := 62) rfl)))) (mvT hZ (hw _ (List.mem_of_getElem? (i := 62) rfl))) (mvT hZ (hw _ (List.mem_of_getElem? (i := 61) rfl))) (by decide) (StrChars.Road.eqW (W := 0) hZ heq (kI := 4) (hw _ (List.mem_of_getElem? (i := 1) rfl)) xe25_3 xv25_3 xc25_3 xk25_3 xh25_3 xb25_3 xl25_3 ye25_3 yv25_3 yc25_3 yk25_3 yh25_3 yb25_3 yl25_3 (O2.ext (O.keep Kq00 all0).2) P5 (by decide) (by decide)) q25_3a q25_3c (g := (mkF m 25 (own_ARRIIR a1 r00 (4 : Int32) (2 : Int32) wBY_TYPE) [(.ref a1), (.ref sBY_TYPE)])) rfl (by rw [hml]; rfl) (Steps.refl _) (argsL := [(.ref a1)]) (rest := []) (lenOf pd_8_1 rfl) rfl (by show 2 * 0 + _ ≤ _; exact Nat.le_of_eq rfl) (hb hby d8_25) (fun _ _ => ⟨rfl, e21_3, (by decide : 1 + 0 ≤ _), (by decide : 4 + 0 ≤ _)⟩)
      dsimp only [Pt.U, Pt.locs, Pt.cells, Pt.slots] at X25_3 l25_3 y25_3 z25_3 st25_3 hQ25_3
      subst l25_3 y25_3 z25_3
      obtain ⟨hv25_3, rfl, hq25_3⟩ := hQ25_3
      obtain rfl := own_eqv hv25_3
      have N25_3 := Fr.app N25_2 (Fr.nil n0)
      obtain ⟨c25_3, hc25_3⟩ : ∃ z : Int32, z = (if ([(98 : Int32), (121 : Int32), (84 : Int32), (121 : Int32), (112 : Int32), (101 : Int32)] : List Int32) = cs then (1 : Int32) else (0 : Int32)) := ⟨_, rfl⟩
      rw [← hc25_3] at st25_3
      refine own_by (fun t k => st25_3.trans k) ?_
      by_cases hc28_3 : c25_3 = (0 : Int32)
      · have sg21_4 : ∀ t, own_S p e below T25_3 (mkF m 21 (own_ARRIIR a1 r00 (4 : Int32) (3 : Int32) wCONSTRUCTOR) [(.ref wCONSTRUCTOR)]) t → own_S p e below T25_3 (mkF m 28 (own_ARRIIR a1 r00 (4 : Int32) (2 : Int32) wBY_TYPE) [(.int c25_3)]) t := by
          intro t k
          show own_S p e below T25_3 (mkF m 28 (own_ARRIIR a1 r00 (4 : Int32) (2 : Int32) wBY_TYPE) [(.int c25_3)]) _
          refine XS.ifYes X25_3.here hx rfl (pc0 := 28) (pc' := 34) rfl (hb hby d8_28) rfl ((if0 _ _).trans (teq hc28_3).1) (by decide) (by decide) ?_
          show own_S p e below T25_3 (mkF m 34 (own_ARRIIR a1 r00 (4 : Int32) (2 : Int32) wBY_TYPE) []) _
          refine XS.iinc X25_3.here hx rfl (hb hby d8_34) rfl (l' := (own_ARRIIR a1 r00 (4 : Int32) (3 : Int32) wBY_TYPE)) rfl ?_
          show own_S p e below T25_3 (mkF m 37 (own_ARRIIR a1 r00 (4 : Int32) (3 : Int32) wBY_TYPE) []) _
          refine XS.goto X25_3.here hx rfl (pc0 := 37) (pc' := 9) rfl (hb hby d8_37) (by decide) (by decide) ?_
          show own_S p e below T25_3 (mkF m 9 (own_ARRIIR a1 r00 (4 : Int32) (3 : Int32) wBY_TYPE) []) _
          refine XS.iloadN X25_3.here hx rfl (hb hby d8_9) rfl ?_
          show own_S p e below T25_3 (mkF m 10 (own_ARRIIR a1 r00 (4 : Int32) (3 : Int32) wBY_TYPE) [(.int (3 : Int32))]) _
          refine XS.iloadN X25_3.here hx rfl (hb hby d8_10) rfl ?_
          show own_S p e below T25_3 (mkF m 11 (own_ARRIIR a1 r00 (4 : Int32) (3 : Int32) wBY_TYPE) [(.int (4 : Int32)), (.int (3 : Int32))]) _
          refine XS.icmpNo X25_3.here hx rfl (hb hby d8_11) rfl (tlt (by decide : (3 : Int32) < (4 : Int32))).2.1 ?_
          show own_S p e below T25_3 (mkF m 14 (own_ARRIIR a1 r00 (4 : Int32) (3 : Int32) wBY_TYPE) []) _
          refine XS.aloadN X25_3.here hx rfl (hb hby d8_14) rfl rfl ?_
          show own_S p e below T25_3 (mkF m 15 (own_ARRIIR a1 r00 (4 : Int32) (3 : Int32) wBY_TYPE) [(.ref r00)]) _
          refine XS.iloadN X25_3.here hx rfl (hb hby d8_15) rfl ?_
          show own_S p e below T25_3 (mkF m 16 (own_ARRIIR a1 r00 (4 : Int32) (3 : Int32) wBY_TYPE) [(.int (3 : Int32)), (.ref r00)]) _
          refine X25_3.aaload hx (j := (3 : Int32)) (v := (.ref wCONSTRUCTOR)) (by rw [hq25_3]; exact Ar00.1) (State.isArrayOf_alike hZ.alike Ar00.2.1) rfl Ar00.2.2 (by rw [hsz]; decide) hat3 (g := (mkF m 16 (own_ARRIIR a1 r00 (4 : Int32) (3 : Int32) wBY_TYPE) [(.int (3 : Int32)), (.ref r00)])) rfl rfl (hb hby d8_16) _ ?_
          show own_S p e below T25_3 (mkF m 17 (own_ARRIIR a1 r00 (4 : Int32) (3 : Int32) wBY_TYPE) [(.ref wCONSTRUCTOR)]) _
          refine XS.astore X25_3.here hx rfl (hb hby d8_17) rfl rfl (l' := (own_ARRIIR a1 r00 (4 : Int32) (3 : Int32) wCONSTRUCTOR)) rfl ?_
          show own_S p e below T25_3 (mkF m 19 (own_ARRIIR a1 r00 (4 : Int32) (3 : Int32) wCONSTRUCTOR) []) _
          refine XS.aload X25_3.here hx rfl (hb hby d8_19) rfl rfl ?_
          exact k
        refine own_by sg21_4 ?_
        obtain ⟨T21_4, X21_4, e21_4, st21_4⟩ := getF X25_3 hx hZ hown (host := "") (Or.inl (hw _ (List.mem_of_getElem? (i := 57) rfl))) Via.refl hq25_3 (FV_CONSTRUCTOR.ext (O.keep Kq00 all0).2) (g := (mkF m 21 (own_ARRIIR a1 r00 (4 : Int32) (3 : Int32) wCONSTRUCTOR) [(.ref wCONSTRUCTOR)])) rfl rfl (hb hby d8_21)
        refine own_by st21_4 ?_
        have sg25_4 : ∀ t, own_S p e below T21_4 (mkF m 25 (own_ARRIIR a1 r00 (4 : Int32) (3 : Int32) wCONSTRUCTOR) [(.ref a1), (.ref sCONSTRUCTOR)]) t → own_S p e below T21_4 (mkF m 24 (own_ARRIIR a1 r00 (4 : Int32) (3 : Int32) wCONSTRUCTOR) [(.ref sCONSTRUCTOR)]) t := by
          intro t k
          show own_S p e below T21_4 (mkF m 24 (own_ARRIIR a1 r00 (4 : Int32) (3 : Int32) wCONSTRUCTOR) [(.ref sCONSTRUCTOR)]) _
          refine XS.aloadN X21_4.here hx rfl (hb hby d8_24) rfl rfl ?_
          exact k
        refine own_by sg25_4 ?_
        obtain ⟨tx25_4, kx25_4, dx25_4, nx25_4, vx25_4, xe25_4, xv25_4, xc25_4, xk25_4, xh25_4, xb25_4, xl25_4⟩ := id (Str_CONSTRUCTOR.ext (O.keep Kq00 all0).2)
        obtain ⟨ty25_4, ky25_4, dy25_4, ny25_4, vy25_4, ye25_4, yv25_4, yc25_4, yk25_4, yh25_4, yb25_4, yl25_4⟩ := id (S1.ext (own_kx Kq00))
        obtain ⟨cq25_4, kq25_4, q25_4a, q25_4b, q25_4c⟩ := isOf hZ e21_4 (EX_CONSTRUCTOR.ext (O.keep Kq00 all0).2)
        obtain ⟨_, _, ⟨T25_4, L25_4, k25_4, n25_4⟩, -, X25_4, ⟨Lc25_4, hQ25_4, l25_4, y25_4, z25_4⟩, st25_4⟩ := X21_4.virtualBack hx (y := (⟨"java/lang/String", "equals", "(Ljava/lang/Object;)Z"⟩ : MethodName)) (z := (⟨"java/lang/String", "equals", "(Ljava/lang/Object;)Z"⟩ : MethodName)) hown (mvT hZ (hw _ (List.mem_of_getElem? (i := 59) rfl))) (mvT hZ (hw _ (List.mem_of_getElem? (i := 60) rfl))) (notFace_of_selects (args := #[]) (mvT hZ (hw _ (List.mem_of_getElem? (i := 62) rfl)))) (mvT hZ (hw _ (List.mem_of_getElem? (i := 62) rfl))) (mvT hZ (hw _ (List.mem_of_getElem? (i := 61) rfl))) (by decide) (StrChars.Road.eqW (W := 0) hZ heq (kI := 4) (hw _ (List.mem_of_getElem? (i := 1) rfl)) xe25_4 xv25_4 xc25_4 xk25_4 xh25_4 xb25_4 xl25_4 ye25_4 yv25_4 yc25_4 yk25_4 yh25_4 yb25_4 yl25_4 (O2.ext (O.keep Kq00 all0).2) P5 (by decide) (by decide)) q25_4a q25_4c (g := (mkF m 25 (own_ARRIIR a1 r00 (4 : Int32) (3 : Int32) wCONSTRUCTOR) [(.ref a1), (.ref sCONSTRUCTOR)])) rfl (by rw [hml]; rfl) (Steps.refl _) (argsL := [(.ref a1)]) (rest := []) (lenOf pd_8_1 rfl) rfl (by show 2 * 0 + _ ≤ _; exact Nat.le_of_eq rfl) (hb hby d8_25) (fun _ _ => ⟨rfl, e21_4, (by decide : 1 + 0 ≤ _), (by decide : 4 + 0 ≤ _)⟩)
        dsimp only [Pt.U, Pt.locs, Pt.cells, Pt.slots] at X25_4 l25_4 y25_4 z25_4 st25_4 hQ25_4
        subst l25_4 y25_4 z25_4
        obtain ⟨hv25_4, rfl, hq25_4⟩ := hQ25_4
        obtain rfl := own_eqv hv25_4
        have N25_4 := Fr.app N25_3 (Fr.nil n0)
        obtain ⟨c25_4, hc25_4⟩ : ∃ z : Int32, z = (if ([(99 : Int32), (111 : Int32), (110 : Int32), (115 : Int32), (116 : Int32), (114 : Int32), (117 : Int32), (99 : Int32), (116 : Int32), (111 : Int32), (114 : Int32)] : List Int32) = cs then (1 : Int32) else (0 : Int32)) := ⟨_, rfl⟩
        rw [← hc25_4] at st25_4
        refine own_by (fun t k => st25_4.trans k) ?_
        by_cases hc28_4 : c25_4 = (0 : Int32)
        · have sg41 : ∀ t, own_S p e below T25_4 (mkF m 41 (own_ARRIIR a1 r00 (4 : Int32) (4 : Int32) wCONSTRUCTOR) [.null]) t → own_S p e below T25_4 (mkF m 28 (own_ARRIIR a1 r00 (4 : Int32) (3 : Int32) wCONSTRUCTOR) [(.int c25_4)]) t := by
            intro t k
            show own_S p e below T25_4 (mkF m 28 (own_ARRIIR a1 r00 (4 : Int32) (3 : Int32) wCONSTRUCTOR) [(.int c25_4)]) _
            refine XS.ifYes X25_4.here hx rfl (pc0 := 28) (pc' := 34) rfl (hb hby d8_28) rfl ((if0 _ _).trans (teq hc28_4).1) (by decide) (by decide) ?_
            show own_S p e below T25_4 (mkF m 34 (own_ARRIIR a1 r00 (4 : Int32) (3 : Int32) wCONSTRUCTOR) []) _
            refine XS.iinc X25_4.here hx rfl (hb hby d8_34) rfl (l' := (own_ARRIIR a1 r00 (4 : Int32) (4 : Int32) wCONSTRUCTOR)) rfl ?_
            show own_S p e below T25_4 (mkF m 37 (own_ARRIIR a1 r00 (4 : Int32) (4 : Int32) wCONSTRUCTOR) []) _
            refine XS.goto X25_4.here hx rfl (pc0 := 37) (pc' := 9) rfl (hb hby d8_37) (by decide) (by decide) ?_
            show own_S p e below T25_4 (mkF m 9 (own_ARRIIR a1 r00 (4 : Int32) (4 : Int32) wCONSTRUCTOR) []) _
            refine XS.iloadN X25_4.here hx rfl (hb hby d8_9) rfl ?_
            show own_S p e below T25_4 (mkF m 10 (own_ARRIIR a1 r00 (4 : Int32) (4 : Int32) wCONSTRUCTOR) [(.int (4 : Int32))]) _
            refine XS.iloadN X25_4.here hx rfl (hb hby d8_10) rfl ?_
            show own_S p e below T25_4 (mkF m 11 (own_ARRIIR a1 r00 (4 : Int32) (4 : Int32) wCONSTRUCTOR) [(.int (4 : Int32)), (.int (4 : Int32))]) _
            refine XS.icmpYes X25_4.here hx rfl (pc0 := 11) (pc' := 40) rfl (hb hby d8_11) rfl (flt (by decide : ¬ ((4 : Int32) < (4 : Int32)))).2.1 (by decide) (by decide) ?_
            show own_S p e below T25_4 (mkF m 40 (own_ARRIIR a1 r00 (4 : Int32) (4 : Int32) wCONSTRUCTOR) []) _
            refine XS.aconstNull X25_4.here hx rfl (hb hby d8_40) ?_
            exact k
          refine own_by sg41 ?_
          obtain ⟨fs, hr, hrun, hended, hW, hsame⟩ := X25_4.leave (v := some .null) (fun h => by rw [Bd.returns] at h; cases h)
          refine ⟨_, _, ?_, hrun, hended, _, _, rfl, ?_, ⟨_, rfl⟩, hW, hsame.mono (by decide) (by decide)⟩
          · show Steps p.tables e below (T25_4.setTop (mkF m 41 (own_ARRIIR a1 r00 (4 : Int32) (4 : Int32) wCONSTRUCTOR) [.null])) _
            jvm_step X25_4.here [X25_4.here.top, hx, (hb hby d8_41), X25_4.method', Bd.returns, Value.isRef, FieldType.isReference]
            first | (intro acts; rw [hr _ acts rfl rfl rfl]) | rw [hr _ _ rfl rfl rfl]
            exact Steps.refl _
          · show Q8 Z a1 cs wV cl wNO wBY_NAME wBY_TYPE wCONSTRUCTOR sNO sBY_NAME sBY_TYPE sCONSTRUCTOR gz h0 n0 _ T25_4.heap _
            rw [hq25_4]
            exact ⟨by rw [if_neg (own_if0 hc25 hc28), if_neg (own_if0 hc25_2 hc28_2), if_neg (own_if0 hc25_3 hc28_3), if_neg (own_if0 hc25_4 hc28_4)], N25_4, K00⟩
        · have sg33 : ∀ t, own_S p e below T25_4 (mkF m 33 (own_ARRIIR a1 r00 (4 : Int32) (3 : Int32) wCONSTRUCTOR) [(.ref wCONSTRUCTOR)]) t → own_S p e below T25_4 (mkF m 28 (own_ARRIIR a1 r00 (4 : Int32) (3 : Int32) wCONSTRUCTOR) [(.int c25_4)]) t := by
            intro t k
            show own_S p e below T25_4 (mkF m 28 (own_ARRIIR a1 r00 (4 : Int32) (3 : Int32) wCONSTRUCTOR) [(.int c25_4)]) _
            refine XS.ifNo X25_4.here hx rfl (hb hby d8_28) rfl ((if0 _ _).trans (feq hc28_4).1) ?_
            show own_S p e below T25_4 (mkF m 31 (own_ARRIIR a1 r00 (4 : Int32) (3 : Int32) wCONSTRUCTOR) []) _
            refine XS.aload X25_4.here hx rfl (hb hby d8_31) rfl rfl ?_
            exact k
          refine own_by sg33 ?_
          obtain ⟨fs, hr, hrun, hended, hW, hsame⟩ := X25_4.leave (v := some (.ref wCONSTRUCTOR)) (fun h => by rw [Bd.returns] at h; cases h)
          refine ⟨_, _, ?_, hrun, hended, _, _, rfl, ?_, ⟨_, rfl⟩, hW, hsame.mono (by decide) (by decide)⟩
          · show Steps p.tables e below (T25_4.setTop (mkF m 33 (own_ARRIIR a1 r00 (4 : Int32) (3 : Int32) wCONSTRUCTOR) [(.ref wCONSTRUCTOR)])) _
            jvm_step X25_4.here [X25_4.here.top, hx, (hb hby d8_33), X25_4.method', Bd.returns, Value.isRef, FieldType.isReference]
            first | (intro acts; rw [hr _ acts rfl rfl rfl]) | rw [hr _ _ rfl rfl rfl]
            exact Steps.refl _
          · show Q8 Z a1 cs wV cl wNO wBY_NAME wBY_TYPE wCONSTRUCTOR sNO sBY_NAME sBY_TYPE sCONSTRUCTOR gz h0 n0 _ T25_4.heap _
            rw [hq25_4]
            exact ⟨by rw [if_neg (own_if0 hc25 hc28), if_neg (own_if0 hc25_2 hc28_2), if_neg (own_if0 hc25_3 hc28_3), if_pos (own_if1 hc25_4 hc28_4)], N25_4, K00⟩
      · have sg33 : ∀ t, own_S p e below T25_3 (mkF m 33 (own_ARRIIR a1 r00 (4 : Int32) (2 : Int32) wBY_TYPE) [(.ref wBY_TYPE)]) t → own_S p e below T25_3 (mkF m 28 (own_ARRIIR a1 r00 (4 : Int32) (2 : Int32) wBY_TYPE) [(.int c25_3)]) t := by
          intro t k
          show own_S p e below T25_3 (mkF m 28 (own_ARRIIR a1 r00 (4 : Int32) (2 : Int32) wBY_TYPE) [(.int c25_3)]) _
          refine XS.ifNo X25_3.here hx rfl (hb hby d8_28) rfl ((if0 _ _).trans (feq hc28_3).1) ?_
          show own_S p e below T25_3 (mkF m 31 (own_ARRIIR a1 r00 (4 : Int32) (2 : Int32) wBY_TYPE) []) _
          refine XS.aload X25_3.here hx rfl (hb hby d8_31) rfl rfl ?_
          exact k
        refine own_by sg33 ?_
        obtain ⟨fs, hr, hrun, hended, hW, hsame⟩ := X25_3.leave (v := some (.ref wBY_TYPE)) (fun h => by rw [Bd.returns] at h; cases h)
        refine ⟨_, _, ?_, hrun, hended, _, _, rfl, ?_, ⟨_, rfl⟩, hW, hsame.mono (by decide) (by decide)⟩
        · show Steps p.tables e below (T25_3.setTop (mkF m 33 (own_ARRIIR a1 r00 (4 : Int32) (2 : Int32) wBY_TYPE) [(.ref wBY_TYPE)])) _
          jvm_step X25_3.here [X25_3.here.top, hx, (hb hby d8_33), X25_3.method', Bd.returns, Value.isRef, FieldType.isReference]
          first | (intro acts; rw [hr _ acts rfl rfl rfl]) | rw [hr _ _ rfl rfl rfl]
          exact Steps.refl _
        · show Q8 Z a1 cs wV cl wNO wBY_NAME wBY_TYPE wCONSTRUCTOR sNO sBY_NAME sBY_TYPE sCONSTRUCTOR gz h0 n0 _ T25_3.heap _
          rw [hq25_3]
          exact ⟨by rw [if_neg (own_if0 hc25 hc28), if_neg (own_if0 hc25_2 hc28_2), if_pos (own_if1 hc25_3 hc28_3)], N25_3, K00⟩
    · have sg33 : ∀ t, own_S p e below T25_2 (mkF m 33 (own_ARRIIR a1 r00 (4 : Int32) (1 : Int32) wBY_NAME) [(.ref wBY_NAME)]) t → own_S p e below T25_2 (mkF m 28 (own_ARRIIR a1 r00 (4 : Int32) (1 : Int32) wBY_NAME) [(.int c25_2)]) t := by
        intro t k
        show own_S p e below T25_2 (mkF m 28 (own_ARRIIR a1 r00 (4 : Int32) (1 : Int32) wBY_NAME) [(.int c25_2)]) _
        refine XS.ifNo X25_2.here hx rfl (hb hby d8_28) rfl ((if0 _ _).trans (feq hc28_2).1) ?_
        show own_S p e below T25_2 (mkF m 31 (own_ARRIIR a1 r00 (4 : Int32) (1 : Int32) wBY_NAME) []) _
        refine XS.aload X25_2.here hx rfl (hb hby d8_31) rfl rfl ?_
        exact k
      refine own_by sg33 ?_
      obtain ⟨fs, hr, hrun, hended, hW, hsame⟩ := X25_2.leave (v := some (.ref wBY_NAME)) (fun h => by rw [Bd.returns] at h; cases h)
      refine ⟨_, _, ?_, hrun, hended, _, _, rfl, ?_, ⟨_, rfl⟩, hW, hsame.mono (by decide) (by decide)⟩
      · show Steps p.tables e below (T25_2.setTop (mkF m 33 (own_ARRIIR a1 r00 (4 : Int32) (1 : Int32) wBY_NAME) [(.ref wBY_NAME)])) _
        jvm_step X25_2.here [X25_2.here.top, hx, (hb hby d8_33), X25_2.method', Bd.returns, Value.isRef, FieldType.isReference]
        first | (intro acts; rw [hr _ acts rfl rfl rfl]) | rw [hr _ _ rfl rfl rfl]
        exact Steps.refl _
      · show Q8 Z a1 cs wV cl wNO wBY_NAME wBY_TYPE wCONSTRUCTOR sNO sBY_NAME sBY_TYPE sCONSTRUCTOR gz h0 n0 _ T25_2.heap _
        rw [hq25_2]
        exact ⟨by rw [if_neg (own_if0 hc25 hc28), if_pos (own_if1 hc25_2 hc28_2)], N25_2, K00⟩
  · have sg33 : ∀ t, own_S p e below T25 (mkF m 33 (own_ARRIIR a1 r00 (4 : Int32) (0 : Int32) wNO) [(.ref wNO)]) t → own_S p e below T25 (mkF m 28 (own_ARRIIR a1 r00 (4 : Int32) (0 : Int32) wNO) [(.int c25)]) t := by
      intro t k
      show own_S p e below T25 (mkF m 28 (own_ARRIIR a1 r00 (4 : Int32) (0 : Int32) wNO) [(.int c25)]) _
      refine XS.ifNo X25.here hx rfl (hb hby d8_28) rfl ((if0 _ _).trans (feq hc28).1) ?_
      show own_S p e below T25 (mkF m 31 (own_ARRIIR a1 r00 (4 : Int32) (0 : Int32) wNO) []) _
      refine XS.aload X25.here hx rfl (hb hby d8_31) rfl rfl ?_
      exact k
    refine own_by sg33 ?_
    obtain ⟨fs, hr, hrun, hended, hW, hsame⟩ := X25.leave (v := some (.ref wNO)) (fun h => by rw [Bd.returns] at h; cases h)
    refine ⟨_, _, ?_, hrun, hended, _, _, rfl, ?_, ⟨_, rfl⟩, hW, hsame.mono (by decide) (by decide)⟩
    · show Steps p.tables e below (T25.setTop (mkF m 33 (own_ARRIIR a1 r00 (4 : Int32) (0 : Int32) wNO) [(.ref wNO)])) _
      jvm_step X25.here [X25.here.top, hx, (hb hby d8_33), X25.method', Bd.returns, Value.isRef, FieldType.isReference]
      first | (intro acts; rw [hr _ acts rfl rfl rfl]) | rw [hr _ _ rfl rfl rfl]
      exact Steps.refl _
    · show Q8 Z a1 cs wV cl wNO wBY_NAME wBY_TYPE wCONSTRUCTOR sNO sBY_NAME sBY_TYPE sCONSTRUCTOR gz h0 n0 _ T25.heap _
      rw [hq25]
      exact ⟨by rw [if_pos (own_if1 hc25 hc28)], N25, K00⟩
theorem pn_8n : plainFor (⟨"com/example/spojka/spojka/AutowireMode", "named", "(Ljava/lang/String;)Lcom/example/spojka/spojka/AutowireMode;"⟩ : MethodName) = true := by first | exact plainFor_of_name (by first | (simp [plainName, overriddenIn]; done) | decide +kernel) | decide +kernel | exact Jvm.Free.JP.mathPlain rfl (by decide +kernel)
theorem pd_8_0n : parseMethodDescriptor "()[Lcom/example/spojka/spojka/AutowireMode;" = some ⟨[], some (.array (.object "com/example/spojka/spojka/AutowireMode"))⟩ := by decide +kernel
theorem pd_8_1n : parseMethodDescriptor "(Ljava/lang/Object;)Z" = some ⟨[(.object "java/lang/Object")], some .boolean⟩ := by decide +kernel
theorem ef_8n (m : MethodId)  : entryFrame m #[.null] 5 = mkF m 0 #[.val .null, .unset, .unset, .unset, .unset] [] := by first | (simp [entryFrame, mkF, argsToLocals, Value.category]; done) | rfl
def Q8n (Z : State) (wV : Addr) (cl : Cell) (wNO : Addr) (wBY_NAME : Addr) (wBY_TYPE : Addr) (wCONSTRUCTOR : Addr) (sNO : Addr) (sBY_NAME : Addr) (sBY_TYPE : Addr) (sCONSTRUCTOR : Addr) (gz : Int32) (h0 : Heap) (n0 : Nat) (v : Option Value) (h : Heap) (L : List Loc) : Prop := v = some .null ∧ Fr n0 L ∧ Keep h0 h []
set_option maxRecDepth 65536 in
set_option maxHeartbeats 40000000 in
theorem rm8n (l : Launch) (Z : State) (a0 : Array Value) (hw : ∀ d ∈ tables_1, d.before a0 Z = true) (ws : List Jvm.Cond) (wV : Addr) (cl : Cell) (wNO : Addr) (wBY_NAME : Addr) (wBY_TYPE : Addr) (wCONSTRUCTOR : Addr) (sNO : Addr) (sBY_NAME : Addr) (sBY_TYPE : Addr) (sCONSTRUCTOR : Addr) (gz : Int32) (h0 : Heap) (n0 : Nat) (Z0 : n0 ≤ h0.size) (O : Old Z n0 h0) (O2 : Sta Z Z.heap "java/lang/String" "COMPACT_STRINGS" "Z" (.int gz)) (P5 : ¬ (gz = (0 : Int32))) (S_V : Sta Z Z.heap "com/example/spojka/spojka/AutowireMode" "$VALUES" "[Lcom/example/spojka/spojka/AutowireMode;" (.ref wV)) (Ar_V : Arr Z Z.heap wV cl (.object "com/example/spojka/spojka/AutowireMode")) (E_V : Exa Z Z.heap wV "[Lcom/example/spojka/spojka/AutowireMode;") (FC : FitC Z cl) (hsz : cl.slots.size = 4) (hat0 : cl.slots[0]? = some (.ref wNO)) (hat1 : cl.slots[1]? = some (.ref wBY_NAME)) (hat2 : cl.slots[2]? = some (.ref wBY_TYPE)) (hat3 : cl.slots[3]? = some (.ref wCONSTRUCTOR)) (FV_NO : Fld Z Z.heap wNO "com/example/spojka/spojka/AutowireMode" "value" "Ljava/lang/String;" (.ref sNO)) (FV_BY_NAME : Fld Z Z.heap wBY_NAME "com/example/spojka/spojka/AutowireMode" "value" "Ljava/lang/String;" (.ref sBY_NAME)) (FV_BY_TYPE : Fld Z Z.heap wBY_TYPE "com/example/spojka/spojka/AutowireMode" "value" "Ljava/lang/String;" (.ref sBY_TYPE)) (FV_CONSTRUCTOR : Fld Z Z.heap wCONSTRUCTOR "com/example/spojka/spojka/AutowireMode" "value" "Ljava/lang/String;" (.ref sCONSTRUCTOR)) (EX_NO : Exa Z Z.heap sNO "java/lang/String") (EX_BY_NAME : Exa Z Z.heap sBY_NAME "java/lang/String") (EX_BY_TYPE : Exa Z Z.heap sBY_TYPE "java/lang/String") (EX_CONSTRUCTOR : Exa Z Z.heap sCONSTRUCTOR "java/lang/String") (Str_NO : own_Str Z Z.heap sNO ([(110 : Int32), (111 : Int32)] : List Int32)) (Str_BY_NAME : own_Str Z Z.heap sBY_NAME ([(98 : Int32), (121 : Int32), (78 : Int32), (97 : Int32), (109 : Int32), (101 : Int32)] : List Int32)) (Str_BY_TYPE : own_Str Z Z.heap sBY_TYPE ([(98 : Int32), (121 : Int32), (84 : Int32), (121 : Int32), (112 : Int32), (101 : Int32)] : List Int32)) (Str_CONSTRUCTOR : own_Str Z Z.heap sCONSTRUCTOR ([(99 : Int32), (111 : Int32), (110 : Int32), (115 : Int32), (116 : Int32), (114 : Int32), (117 : Int32), (99 : Int32), (116 : Int32), (111 : Int32), (114 : Int32)] : List Int32)) :
    MetFree l (⟨"com/example/spojka/spojka/AutowireMode", "named", "(Ljava/lang/String;)Lcom/example/spojka/spojka/AutowireMode;"⟩ : MethodName) (head1 (Jvm.Cond.code (⟨"com/example/spojka/spojka/AutowireMode", "named", "(Ljava/lang/String;)Lcom/example/spojka/spojka/AutowireMode;"⟩ : MethodName) prog_10_method_4_code 5 (some (.object "com/example/spojka/spojka/AutowireMode")) :: ws) ({ frames := 2, cells := 1, slots := 4, locals := 25 } : Room)) (fun a U => a = #[.null] ∧ Z.Warmed39 U.vm ∧ U.heap = h0) (fun _ _ _ _ _ => True) (fun _ U o U' => ∃ v L, o = .returned v ∧ Q8n Z wV cl wNO wBY_NAME wBY_TYPE wCONSTRUCTOR sNO sBY_NAME sBY_TYPE sCONSTRUCTOR gz h0 n0 v U'.heap L ∧ FrameEnd U o U' L ({ frames := 2, cells := 1, slots := 4, locals := 25 } : Room).cells ({ frames := 2, cells := 1, slots := 4, locals := 25 } : Room).slots) := by
  refine MetFree.of_bodySF pn_8n hisR ?_
  intro p e s m args below meth c s₁ Bd hml0 hP hK
  obtain ⟨rfl, hZ, hh⟩ := hP
  have hx := Bd.exec
  have hby := Bd.bytes
  have hml : c.maxLocals = 5 := hml0
  have hown : s.vm.findClass "com/example/spojka/spojka/AutowireMode" = some m.cls := findClass_of_methodNamed Bd.named
  have hnm := (name_of_methodNamed Bd.named Bd.method).1
  have X0 : Stand p l e ({ frames := 2, cells := 1, slots := 4, locals := 25 } : Room) s m #[.null] below meth c s₁ [] 0 0 := Stand.of_body Bd
  have e0 : s₁.heap = h0 := by rw [← hh, Bd.state]; rfl
  have N0 := Fr.nil n0
  refine own_at (castTop (ef_8n m )) ?_
  have K0 := Keep.refl h0 []
  obtain ⟨_, _, ⟨T00, L00, k00, n00⟩, -, X00, ⟨Lc00, hQ00, l00, y00, z00⟩, st00⟩ := Jvm.LawKit.callS X0 hx (y := (⟨"com/example/spojka/spojka/AutowireMode", "values", "()[Lcom/example/spojka/spojka/AutowireMode;"⟩ : MethodName)) hown (mvT hZ (hw _ (List.mem_of_getElem? (i := 38) rfl))) (mvT hZ (hw _ (List.mem_of_getElem? (i := 39) rfl))) (mvT hZ (hw _ (List.mem_of_getElem? (i := 36) rfl))) (mvT hZ (hw _ (List.mem_of_getElem? (i := 40) rfl))) (by decide) (backOf (W := 0) (rm9 l Z a0 hw [] wV cl wNO wBY_NAME wBY_TYPE wCONSTRUCTOR h0 n0 Z0 (S_V.ext O.2) (Ar_V.ext O.2) (E_V.ext O.2) FC hsz hat0 hat1 hat2 hat3) hZ (hw _ (List.mem_of_getElem? (i := 40) rfl)) (hw _ (List.mem_of_getElem? (i := 36) rfl)) (by decide) (by decide)) (g := (mkF m 0 (own_ANUUUU) [])) rfl (by rw [hml]; rfl) (argsL := []) (rest := []) (lenOf pd_8_0n rfl) rfl (by show 2 * 0 + _ ≤ _; exact Nat.le_of_eq rfl) (hb hby d8_0) (fun _ _ => ⟨rfl, e0, (by decide : 0 + 1 ≤ _), (by decide : 0 + 4 ≤ _)⟩)
  dsimp only [Pt.U, Pt.locs, Pt.cells, Pt.slots] at X00 l00 y00 z00 st00 hQ00
  subst l00 y00 z00
  obtain ⟨r00, rfl, ge00, N00q, Kq00, Ar00⟩ := hQ00
  have N00 := Fr.app N0 N00q
  have g_r00 : n0 ≤ r00 := Nat.le_trans Z0 ge00
  have sz_r00 : h0.size ≤ r00 := Nat.le_trans K0.1 ge00
  have K00 : Keep h0 T00.heap [] := K0.trans Kq00 (fun x hx => nomatch hx)
  have Z00 : n0 ≤ T00.heap.size := Nat.le_trans Z0 Kq00.1
  refine own_by st00 ?_
  have sg21 : ∀ t, own_S p e below T00 (mkF m 21 (own_ANRIIR r00 (4 : Int32) (0 : Int32) wNO) [(.ref wNO)]) t → own_S p e below T00 (mkF m 3 (own_ANUUUU) [(.ref r00)]) t := by
    intro t k
    show own_S p e below T00 (mkF m 3 (own_ANUUUU) [(.ref r00)]) _
    refine XS.astoreN X00.here hx rfl (hb hby d8_3) rfl rfl (l' := (own_ANRUUU r00)) rfl ?_
    show own_S p e below T00 (mkF m 4 (own_ANRUUU r00) []) _
    refine XS.aloadN X00.here hx rfl (hb hby d8_4) rfl rfl ?_
    show own_S p e below T00 (mkF m 5 (own_ANRUUU r00) [(.ref r00)]) _
    refine X00.arraylength hx (by exact Ar00.1) (State.isArrayOf_alike hZ.alike Ar00.2.1) (g := (mkF m 5 (own_ANRUUU r00) [(.ref r00)])) rfl rfl (hb hby d8_5) _ ?_
    rw [hsz]
    show own_S p e below T00 (mkF m 6 (own_ANRUUU r00) [(.int (4 : Int32))]) _
    refine XS.istoreN X00.here hx rfl (hb hby d8_6) rfl (l' := (own_ANRIUU r00 (4 : Int32))) rfl ?_
    show own_S p e below T00 (mkF m 7 (own_ANRIUU r00 (4 : Int32)) []) _
    refine XS.iconst X00.here hx rfl (hb hby d8_7) ?_
    show own_S p e below T00 (mkF m 8 (own_ANRIUU r00 (4 : Int32)) [(.int (0 : Int32))]) _
    refine XS.istoreN X00.here hx rfl (hb hby d8_8) rfl (l' := (own_ANRIIU r00 (4 : Int32) (0 : Int32))) rfl ?_
    show own_S p e below T00 (mkF m 9 (own_ANRIIU r00 (4 : Int32) (0 : Int32)) []) _
    refine XS.iloadN X00.here hx rfl (hb hby d8_9) rfl ?_
    show own_S p e below T00 (mkF m 10 (own_ANRIIU r00 (4 : Int32) (0 : Int32)) [(.int (0 : Int32))]) _
    refine XS.iloadN X00.here hx rfl (hb hby d8_10) rfl ?_
    show own_S p e below T00 (mkF m 11 (own_ANRIIU r00 (4 : Int32) (0 : Int32)) [(.int (4 : Int32)), (.int (0 : Int32))]) _
    refine XS.icmpNo X00.here hx rfl (hb hby d8_11) rfl (tlt (by decide : (0 : Int32) < (4 : Int32))).2.1 ?_
    show own_S p e below T00 (mkF m 14 (own_ANRIIU r00 (4 : Int32) (0 : Int32)) []) _
    refine XS.aloadN X00.here hx rfl (hb hby d8_14) rfl rfl ?_
    show own_S p e below T00 (mkF m 15 (own_ANRIIU r00 (4 : Int32) (0 : Int32)) [(.ref r00)]) _
    refine XS.iloadN X00.here hx rfl (hb hby d8_15) rfl ?_
    show own_S p e below T00 (mkF m 16 (own_ANRIIU r00 (4 : Int32) (0 : Int32)) [(.int (0 : Int32)), (.ref r00)]) _
    refine X00.aaload hx (j := (0 : Int32)) (v := (.ref wNO)) (by exact Ar00.1) (State.isArrayOf_alike hZ.alike Ar00.2.1) rfl Ar00.2.2 (by rw [hsz]; decide) hat0 (g := (mkF m 16 (own_ANRIIU r00 (4 : Int32) (0 : Int32)) [(.int (0 : Int32)), (.ref r00)])) rfl rfl (hb hby d8_16) _ ?_
    show own_S p e below T00 (mkF m 17 (own_ANRIIU r00 (4 : Int32) (0 : Int32)) [(.ref wNO)]) _
    refine XS.astore X00.here hx rfl (hb hby d8_17) rfl rfl (l' := (own_ANRIIR r00 (4 : Int32) (0 : Int32) wNO)) rfl ?_
    show own_S p e below T00 (mkF m 19 (own_ANRIIR r00 (4 : Int32) (0 : Int32) wNO) []) _
    refine XS.aload X00.here hx rfl (hb hby d8_19) rfl rfl ?_
    exact k
  refine own_by sg21 ?_
  obtain ⟨T21, X21, e21, st21⟩ := getF X00 hx hZ hown (host := "") (Or.inl (hw _ (List.mem_of_getElem? (i := 57) rfl))) Via.refl rfl (FV_NO.ext (O.keep Kq00 all0).2) (g := (mkF m 21 (own_ANRIIR r00 (4 : Int32) (0 : Int32) wNO) [(.ref wNO)])) rfl rfl (hb hby d8_21)
  refine own_by st21 ?_
  have sg25 : ∀ t, own_S p e below T21 (mkF m 25 (own_ANRIIR r00 (4 : Int32) (0 : Int32) wNO) [.null, (.ref sNO)]) t → own_S p e below T21 (mkF m 24 (own_ANRIIR r00 (4 : Int32) (0 : Int32) wNO) [(.ref sNO)]) t := by
    intro t k
    show own_S p e below T21 (mkF m 24 (own_ANRIIR r00 (4 : Int32) (0 : Int32) wNO) [(.ref sNO)]) _
    refine XS.aloadN X21.here hx rfl (hb hby d8_24) rfl rfl ?_
    exact k
  refine own_by sg25 ?_
  obtain ⟨cq25, kq25, q25a, q25b, q25c⟩ := isOf hZ e21 (EX_NO.ext (O.keep Kq00 all0).2)
  obtain ⟨_, _, ⟨T25, L25, k25, n25⟩, -, X25, ⟨Lc25, hQ25, l25, y25, z25⟩, st25⟩ := X21.virtualBack hx (y := (⟨"java/lang/String", "equals", "(Ljava/lang/Object;)Z"⟩ : MethodName)) (z := (⟨"java/lang/String", "equals", "(Ljava/lang/Object;)Z"⟩ : MethodName)) hown (mvT hZ (hw _ (List.mem_of_getElem? (i := 59) rfl))) (mvT hZ (hw _ (List.mem_of_getElem? (i := 60) rfl))) (notFace_of_selects (args := #[]) (mvT hZ (hw _ (List.mem_of_getElem? (i := 62) rfl)))) (mvT hZ (hw _ (List.mem_of_getElem? (i := 62) rfl))) (mvT hZ (hw _ (List.mem_of_getElem? (i := 61) rfl))) (by decide) (backOf (W := 0) (rm10n l Z a0 hw [] sNO T00.heap n0 Z00) hZ (hw _ (List.mem_of_getElem? (i := 63) rfl)) (hw _ (List.mem_of_getElem? (i := 2) rfl)) (by decide) (by decide)) q25a q25c (g := (mkF m 25 (own_ANRIIR r00 (4 : Int32) (0 : Int32) wNO) [.null, (.ref sNO)])) rfl (by rw [hml]; rfl) (Steps.refl _) (argsL := [.null]) (rest := []) (lenOf pd_8_1n rfl) rfl (by show 2 * 0 + _ ≤ _; exact Nat.le_of_eq rfl) (hb hby d8_25) (fun _ _ => ⟨rfl, e21, (by decide : 1 + 0 ≤ _), (by decide : 4 + 0 ≤ _)⟩)
  dsimp only [Pt.U, Pt.locs, Pt.cells, Pt.slots] at X25 l25 y25 z25 st25 hQ25
  subst l25 y25 z25
  obtain ⟨rfl, N25q, hq25⟩ := hQ25
  have N25 := Fr.app N00 N25q
  refine own_by (fun t k => st25.trans k) ?_
  have sg21_2 : ∀ t, own_S p e below T25 (mkF m 21 (own_ANRIIR r00 (4 : Int32) (1 : Int32) wBY_NAME) [(.ref wBY_NAME)]) t → own_S p e below T25 (mkF m 28 (own_ANRIIR r00 (4 : Int32) (0 : Int32) wNO) [(.int (0 : Int32))]) t := by
    intro t k
    show own_S p e below T25 (mkF m 28 (own_ANRIIR r00 (4 : Int32) (0 : Int32) wNO) [(.int (0 : Int32))]) _
    refine XS.ifYes X25.here hx rfl (pc0 := 28) (pc' := 34) rfl (hb hby d8_28) rfl ((if0 _ _).trans (teq (by decide : (0 : Int32) = (0 : Int32))).1) (by decide) (by decide) ?_
    show own_S p e below T25 (mkF m 34 (own_ANRIIR r00 (4 : Int32) (0 : Int32) wNO) []) _
    refine XS.iinc X25.here hx rfl (hb hby d8_34) rfl (l' := (own_ANRIIR r00 (4 : Int32) (1 : Int32) wNO)) rfl ?_
    show own_S p e below T25 (mkF m 37 (own_ANRIIR r00 (4 : Int32) (1 : Int32) wNO) []) _
    refine XS.goto X25.here hx rfl (pc0 := 37) (pc' := 9) rfl (hb hby d8_37) (by decide) (by decide) ?_
    show own_S p e below T25 (mkF m 9 (own_ANRIIR r00 (4 : Int32) (1 : Int32) wNO) []) _
    refine XS.iloadN X25.here hx rfl (hb hby d8_9) rfl ?_
    show own_S p e below T25 (mkF m 10 (own_ANRIIR r00 (4 : Int32) (1 : Int32) wNO) [(.int (1 : Int32))]) _
    refine XS.iloadN X25.here hx rfl (hb hby d8_10) rfl ?_
    show own_S p e below T25 (mkF m 11 (own_ANRIIR r00 (4 : Int32) (1 : Int32) wNO) [(.int (4 : Int32)), (.int (1 : Int32))]) _
    refine XS.icmpNo X25.here hx rfl (hb hby d8_11) rfl (tlt (by decide : (1 : Int32) < (4 : Int32))).2.1 ?_
    show own_S p e below T25 (mkF m 14 (own_ANRIIR r00 (4 : Int32) (1 : Int32) wNO) []) _
    refine XS.aloadN X25.here hx rfl (hb hby d8_14) rfl rfl ?_
    show own_S p e below T25 (mkF m 15 (own_ANRIIR r00 (4 : Int32) (1 : Int32) wNO) [(.ref r00)]) _
    refine XS.iloadN X25.here hx rfl (hb hby d8_15) rfl ?_
    show own_S p e below T25 (mkF m 16 (own_ANRIIR r00 (4 : Int32) (1 : Int32) wNO) [(.int (1 : Int32)), (.ref r00)]) _
    refine X25.aaload hx (j := (1 : Int32)) (v := (.ref wBY_NAME)) (by rw [hq25]; exact Ar00.1) (State.isArrayOf_alike hZ.alike Ar00.2.1) rfl Ar00.2.2 (by rw [hsz]; decide) hat1 (g := (mkF m 16 (own_ANRIIR r00 (4 : Int32) (1 : Int32) wNO) [(.int (1 : Int32)), (.ref r00)])) rfl rfl (hb hby d8_16) _ ?_
    show own_S p e below T25 (mkF m 17 (own_ANRIIR r00 (4 : Int32) (1 : Int32) wNO) [(.ref wBY_NAME)]) _
    refine XS.astore X25.here hx rfl (hb hby d8_17) rfl rfl (l' := (own_ANRIIR r00 (4 : Int32) (1 : Int32) wBY_NAME)) rfl ?_
    show own_S p e below T25 (mkF m 19 (own_ANRIIR r00 (4 : Int32) (1 : Int32) wBY_NAME) []) _
    refine XS.aload X25.here hx rfl (hb hby d8_19) rfl rfl ?_
    exact k
  refine own_by sg21_2 ?_
  obtain ⟨T21_2, X21_2, e21_2, st21_2⟩ := getF X25 hx hZ hown (host := "") (Or.inl (hw _ (List.mem_of_getElem? (i := 57) rfl))) Via.refl hq25 (FV_BY_NAME.ext (O.keep Kq00 all0).2) (g := (mkF m 21 (own_ANRIIR r00 (4 : Int32) (1 : Int32) wBY_NAME) [(.ref wBY_NAME)])) rfl rfl (hb hby d8_21)
  refine own_by st21_2 ?_
  have sg25_2 : ∀ t, own_S p e below T21_2 (mkF m 25 (own_ANRIIR r00 (4 : Int32) (1 : Int32) wBY_NAME) [.null, (.ref sBY_NAME)]) t → own_S p e below T21_2 (mkF m 24 (own_ANRIIR r00 (4 : Int32) (1 : Int32) wBY_NAME) [(.ref sBY_NAME)]) t := by
    intro t k
    show own_S p e below T21_2 (mkF m 24 (own_ANRIIR r00 (4 : Int32) (1 : Int32) wBY_NAME) [(.ref sBY_NAME)]) _
    refine XS.aloadN X21_2.here hx rfl (hb hby d8_24) rfl rfl ?_
    exact k
  refine own_by sg25_2 ?_
  obtain ⟨cq25_2, kq25_2, q25_2a, q25_2b, q25_2c⟩ := isOf hZ e21_2 (EX_BY_NAME.ext (O.keep Kq00 all0).2)
  obtain ⟨_, _, ⟨T25_2, L25_2, k25_2, n25_2⟩, -, X25_2, ⟨Lc25_2, hQ25_2, l25_2, y25_2, z25_2⟩, st25_2⟩ := X21_2.virtualBack hx (y := (⟨"java/lang/String", "equals", "(Ljava/lang/Object;)Z"⟩ : MethodName)) (z := (⟨"java/lang/String", "equals", "(Ljava/lang/Object;)Z"⟩ : MethodName)) hown (mvT hZ (hw _ (List.mem_of_getElem? (i := 59) rfl))) (mvT hZ (hw _ (List.mem_of_getElem? (i := 60) rfl))) (notFace_of_selects (args := #[]) (mvT hZ (hw _ (List.mem_of_getElem? (i := 62) rfl)))) (mvT hZ (hw _ (List.mem_of_getElem? (i := 62) rfl))) (mvT hZ (hw _ (List.mem_of_getElem? (i := 61) rfl))) (by decide) (backOf (W := 0) (rm10n l Z a0 hw [] sBY_NAME T00.heap n0 Z00) hZ (hw _ (List.mem_of_getElem? (i := 63) rfl)) (hw _ (List.mem_of_getElem? (i := 2) rfl)) (by decide) (by decide)) q25_2a q25_2c (g := (mkF m 25 (own_ANRIIR r00 (4 : Int32) (1 : Int32) wBY_NAME) [.null, (.ref sBY_NAME)])) rfl (by rw [hml]; rfl) (Steps.refl _) (argsL := [.null]) (rest := []) (lenOf pd_8_1n rfl) rfl (by show 2 * 0 + _ ≤ _; exact Nat.le_of_eq rfl) (hb hby d8_25) (fun _ _ => ⟨rfl, e21_2, (by decide : 1 + 0 ≤ _), (by decide : 4 + 0 ≤ _)⟩)
  dsimp only [Pt.U, Pt.locs, Pt.cells, Pt.slots] at X25_2 l25_2 y25_2 z25_2 st25_2 hQ25_2
  subst l25_2 y25_2 z25_2
  obtain ⟨rfl, N25_2q, hq25_2⟩ := hQ25_2
  have N25_2 := Fr.app N25 N25_2q
  refine own_by (fun t k => st25_2.trans k) ?_
  have sg21_3 : ∀ t, own_S p e below T25_2 (mkF m 21 (own_ANRIIR r00 (4 : Int32) (2 : Int32) wBY_TYPE) [(.ref wBY_TYPE)]) t → own_S p e below T25_2 (mkF m 28 (own_ANRIIR r00 (4 : Int32) (1 : Int32) wBY_NAME) [(.int (0 : Int32))]) t := by
    intro t k
    show own_S p e below T25_2 (mkF m 28 (own_ANRIIR r00 (4 : Int32) (1 : Int32) wBY_NAME) [(.int (0 : Int32))]) _
    refine XS.ifYes X25_2.here hx rfl (pc0 := 28) (pc' := 34) rfl (hb hby d8_28) rfl ((if0 _ _).trans (teq (by decide : (0 : Int32) = (0 : Int32))).1) (by decide) (by decide) ?_
    show own_S p e below T25_2 (mkF m 34 (own_ANRIIR r00 (4 : Int32) (1 : Int32) wBY_NAME) []) _
    refine XS.iinc X25_2.here hx rfl (hb hby d8_34) rfl (l' := (own_ANRIIR r00 (4 : Int32) (2 : Int32) wBY_NAME)) rfl ?_
    show own_S p e below T25_2 (mkF m 37 (own_ANRIIR r00 (4 : Int32) (2 : Int32) wBY_NAME) []) _
    refine XS.goto X25_2.here hx rfl (pc0 := 37) (pc' := 9) rfl (hb hby d8_37) (by decide) (by decide) ?_
    show own_S p e below T25_2 (mkF m 9 (own_ANRIIR r00 (4 : Int32) (2 : Int32) wBY_NAME) []) _
    refine XS.iloadN X25_2.here hx rfl (hb hby d8_9) rfl ?_
    show own_S p e below T25_2 (mkF m 10 (own_ANRIIR r00 (4 : Int32) (2 : Int32) wBY_NAME) [(.int (2 : Int32))]) _
    refine XS.iloadN X25_2.here hx rfl (hb hby d8_10) rfl ?_
    show own_S p e below T25_2 (mkF m 11 (own_ANRIIR r00 (4 : Int32) (2 : Int32) wBY_NAME) [(.int (4 : Int32)), (.int (2 : Int32))]) _
    refine XS.icmpNo X25_2.here hx rfl (hb hby d8_11) rfl (tlt (by decide : (2 : Int32) < (4 : Int32))).2.1 ?_
    show own_S p e below T25_2 (mkF m 14 (own_ANRIIR r00 (4 : Int32) (2 : Int32) wBY_NAME) []) _
    refine XS.aloadN X25_2.here hx rfl (hb hby d8_14) rfl rfl ?_
    show own_S p e below T25_2 (mkF m 15 (own_ANRIIR r00 (4 : Int32) (2 : Int32) wBY_NAME) [(.ref r00)]) _
    refine XS.iloadN X25_2.here hx rfl (hb hby d8_15) rfl ?_
    show own_S p e below T25_2 (mkF m 16 (own_ANRIIR r00 (4 : Int32) (2 : Int32) wBY_NAME) [(.int (2 : Int32)), (.ref r00)]) _
    refine X25_2.aaload hx (j := (2 : Int32)) (v := (.ref wBY_TYPE)) (by rw [hq25_2]; exact Ar00.1) (State.isArrayOf_alike hZ.alike Ar00.2.1) rfl Ar00.2.2 (by rw [hsz]; decide) hat2 (g := (mkF m 16 (own_ANRIIR r00 (4 : Int32) (2 : Int32) wBY_NAME) [(.int (2 : Int32)), (.ref r00)])) rfl rfl (hb hby d8_16) _ ?_
    show own_S p e below T25_2 (mkF m 17 (own_ANRIIR r00 (4 : Int32) (2 : Int32) wBY_NAME) [(.ref wBY_TYPE)]) _
    refine XS.astore X25_2.here hx rfl (hb hby d8_17) rfl rfl (l' := (own_ANRIIR r00 (4 : Int32) (2 : Int32) wBY_TYPE)) rfl ?_
    show own_S p e below T25_2 (mkF m 19 (own_ANRIIR r00 (4 : Int32) (2 : Int32) wBY_TYPE) []) _
    refine XS.aload X25_2.here hx rfl (hb hby d8_19) rfl rfl ?_
    exact k
  refine own_by sg21_3 ?_
  obtain ⟨T21_3, X21_3, e21_3, st21_3⟩ := getF X25_2 hx hZ hown (host := "") (Or.inl (hw _ (List.mem_of_getElem? (i := 57) rfl))) Via.refl hq25_2 (FV_BY_TYPE.ext (O.keep Kq00 all0).2) (g := (mkF m 21 (own_ANRIIR r00 (4 : Int32) (2 : Int32) wBY_TYPE) [(.ref wBY_TYPE)])) rfl rfl (hb hby d8_21)
  refine own_by st21_3 ?_
  have sg25_3 : ∀ t, own_S p e below T21_3 (mkF m 25 (own_ANRIIR r00 (4 : Int32) (2 : Int32) wBY_TYPE) [.null, (.ref sBY_TYPE)]) t → own_S p e below T21_3 (mkF m 24 (own_ANRIIR r00 (4 : Int32) (2 : Int32) wBY_TYPE) [(.ref sBY_TYPE)]) t := by
    intro t k
    show own_S p e below T21_3 (mkF m 24 (own_ANRIIR r00 (4 : Int32) (2 : Int32) wBY_TYPE) [(.ref sBY_TYPE)]) _
    refine XS.aloadN X21_3.here hx rfl (hb hby d8_24) rfl rfl ?_
    exact k
  refine own_by sg25_3 ?_
  obtain ⟨cq25_3, kq25_3, q25_3a, q25_3b, q25_3c⟩ := isOf hZ e21_3 (EX_BY_TYPE.ext (O.keep Kq00 all0).2)
  obtain ⟨_, _, ⟨T25_3, L25_3, k25_3, n25_3⟩, -, X25_3, ⟨Lc25_3, hQ25_3, l25_3, y25_3, z25_3⟩, st25_3⟩ := X21_3.virtualBack hx (y := (⟨"java/lang/String", "equals", "(Ljava/lang/Object;)Z"⟩ : MethodName)) (z := (⟨"java/lang/String", "equals", "(Ljava/lang/Object;)Z"⟩ : MethodName)) hown (mvT hZ (hw _ (List.mem_of_getElem? (i := 59) rfl))) (mvT hZ (hw _ (List.mem_of_getElem? (i := 60) rfl))) (notFace_of_selects (args := #[]) (mvT hZ (hw _ (List.mem_of_getElem? (i := 62) rfl)))) (mvT hZ (hw _ (List.mem_of_getElem? (i := 62) rfl))) (mvT hZ (hw _ (List.mem_of_getElem? (i := 61) rfl))) (by decide) (backOf (W := 0) (rm10n l Z a0 hw [] sBY_TYPE T00.heap n0 Z00) hZ (hw _ (List.mem_of_getElem? (i := 63) rfl)) (hw _ (List.mem_of_getElem? (i := 2) rfl)) (by decide) (by decide)) q25_3a q25_3c (g := (mkF m 25 (own_ANRIIR r00 (4 : Int32) (2 : Int32) wBY_TYPE) [.null, (.ref sBY_TYPE)])) rfl (by rw [hml]; rfl) (Steps.refl _) (argsL := [.null]) (rest := []) (lenOf pd_8_1n rfl) rfl (by show 2 * 0 + _ ≤ _; exact Nat.le_of_eq rfl) (hb hby d8_25) (fun _ _ => ⟨rfl, e21_3, (by decide : 1 + 0 ≤ _), (by decide : 4 + 0 ≤ _)⟩)
  dsimp only [Pt.U, Pt.locs, Pt.cells, Pt.slots] at X25_3 l25_3 y25_3 z25_3 st25_3 hQ25_3
  subst l25_3 y25_3 z25_3
  obtain ⟨rfl, N25_3q, hq25_3⟩ := hQ25_3
  have N25_3 := Fr.app N25_2 N25_3q
  refine own_by (fun t k => st25_3.trans k) ?_
  have sg21_4 : ∀ t, own_S p e below T25_3 (mkF m 21 (own_ANRIIR r00 (4 : Int32) (3 : Int32) wCONSTRUCTOR) [(.ref wCONSTRUCTOR)]) t → own_S p e below T25_3 (mkF m 28 (own_ANRIIR r00 (4 : Int32) (2 : Int32) wBY_TYPE) [(.int (0 : Int32))]) t := by
    intro t k
    show own_S p e below T25_3 (mkF m 28 (own_ANRIIR r00 (4 : Int32) (2 : Int32) wBY_TYPE) [(.int (0 : Int32))]) _
    refine XS.ifYes X25_3.here hx rfl (pc0 := 28) (pc' := 34) rfl (hb hby d8_28) rfl ((if0 _ _).trans (teq (by decide : (0 : Int32) = (0 : Int32))).1) (by decide) (by decide) ?_
    show own_S p e below T25_3 (mkF m 34 (own_ANRIIR r00 (4 : Int32) (2 : Int32) wBY_TYPE) []) _
    refine XS.iinc X25_3.here hx rfl (hb hby d8_34) rfl (l' := (own_ANRIIR r00 (4 : Int32) (3 : Int32) wBY_TYPE)) rfl ?_
    show own_S p e below T25_3 (mkF m 37 (own_ANRIIR r00 (4 : Int32) (3 : Int32) wBY_TYPE) []) _
    refine XS.goto X25_3.here hx rfl (pc0 := 37) (pc' := 9) rfl (hb hby d8_37) (by decide) (by decide) ?_
    show own_S p e below T25_3 (mkF m 9 (own_ANRIIR r00 (4 : Int32) (3 : Int32) wBY_TYPE) []) _
    refine XS.iloadN X25_3.here hx rfl (hb hby d8_9) rfl ?_
    show own_S p e below T25_3 (mkF m 10 (own_ANRIIR r00 (4 : Int32) (3 : Int32) wBY_TYPE) [(.int (3 : Int32))]) _
    refine XS.iloadN X25_3.here hx rfl (hb hby d8_10) rfl ?_
    show own_S p e below T25_3 (mkF m 11 (own_ANRIIR r00 (4 : Int32) (3 : Int32) wBY_TYPE) [(.int (4 : Int32)), (.int (3 : Int32))]) _
    refine XS.icmpNo X25_3.here hx rfl (hb hby d8_11) rfl (tlt (by decide : (3 : Int32) < (4 : Int32))).2.1 ?_
    show own_S p e below T25_3 (mkF m 14 (own_ANRIIR r00 (4 : Int32) (3 : Int32) wBY_TYPE) []) _
    refine XS.aloadN X25_3.here hx rfl (hb hby d8_14) rfl rfl ?_
    show own_S p e below T25_3 (mkF m 15 (own_ANRIIR r00 (4 : Int32) (3 : Int32) wBY_TYPE) [(.ref r00)]) _
    refine XS.iloadN X25_3.here hx rfl (hb hby d8_15) rfl ?_
    show own_S p e below T25_3 (mkF m 16 (own_ANRIIR r00 (4 : Int32) (3 : Int32) wBY_TYPE) [(.int (3 : Int32)), (.ref r00)]) _
    refine X25_3.aaload hx (j := (3 : Int32)) (v := (.ref wCONSTRUCTOR)) (by rw [hq25_3]; exact Ar00.1) (State.isArrayOf_alike hZ.alike Ar00.2.1) rfl Ar00.2.2 (by rw [hsz]; decide) hat3 (g := (mkF m 16 (own_ANRIIR r00 (4 : Int32) (3 : Int32) wBY_TYPE) [(.int (3 : Int32)), (.ref r00)])) rfl rfl (hb hby d8_16) _ ?_
    show own_S p e below T25_3 (mkF m 17 (own_ANRIIR r00 (4 : Int32) (3 : Int32) wBY_TYPE) [(.ref wCONSTRUCTOR)]) _
    refine XS.astore X25_3.here hx rfl (hb hby d8_17) rfl rfl (l' := (own_ANRIIR r00 (4 : Int32) (3 : Int32) wCONSTRUCTOR)) rfl ?_
    show own_S p e below T25_3 (mkF m 19 (own_ANRIIR r00 (4 : Int32) (3 : Int32) wCONSTRUCTOR) []) _
    refine XS.aload X25_3.here hx rfl (hb hby d8_19) rfl rfl ?_
    exact k
  refine own_by sg21_4 ?_
  obtain ⟨T21_4, X21_4, e21_4, st21_4⟩ := getF X25_3 hx hZ hown (host := "") (Or.inl (hw _ (List.mem_of_getElem? (i := 57) rfl))) Via.refl hq25_3 (FV_CONSTRUCTOR.ext (O.keep Kq00 all0).2) (g := (mkF m 21 (own_ANRIIR r00 (4 : Int32) (3 : Int32) wCONSTRUCTOR) [(.ref wCONSTRUCTOR)])) rfl rfl (hb hby d8_21)
  refine own_by st21_4 ?_
  have sg25_4 : ∀ t, own_S p e below T21_4 (mkF m 25 (own_ANRIIR r00 (4 : Int32) (3 : Int32) wCONSTRUCTOR) [.null, (.ref sCONSTRUCTOR)]) t → own_S p e below T21_4 (mkF m 24 (own_ANRIIR r00 (4 : Int32) (3 : Int32) wCONSTRUCTOR) [(.ref sCONSTRUCTOR)]) t := by
    intro t k
    show own_S p e below T21_4 (mkF m 24 (own_ANRIIR r00 (4 : Int32) (3 : Int32) wCONSTRUCTOR) [(.ref sCONSTRUCTOR)]) _
    refine XS.aloadN X21_4.here hx rfl (hb hby d8_24) rfl rfl ?_
    exact k
  refine own_by sg25_4 ?_
  obtain ⟨cq25_4, kq25_4, q25_4a, q25_4b, q25_4c⟩ := isOf hZ e21_4 (EX_CONSTRUCTOR.ext (O.keep Kq00 all0).2)
  obtain ⟨_, _, ⟨T25_4, L25_4, k25_4, n25_4⟩, -, X25_4, ⟨Lc25_4, hQ25_4, l25_4, y25_4, z25_4⟩, st25_4⟩ := X21_4.virtualBack hx (y := (⟨"java/lang/String", "equals", "(Ljava/lang/Object;)Z"⟩ : MethodName)) (z := (⟨"java/lang/String", "equals", "(Ljava/lang/Object;)Z"⟩ : MethodName)) hown (mvT hZ (hw _ (List.mem_of_getElem? (i := 59) rfl))) (mvT hZ (hw _ (List.mem_of_getElem? (i := 60) rfl))) (notFace_of_selects (args := #[]) (mvT hZ (hw _ (List.mem_of_getElem? (i := 62) rfl)))) (mvT hZ (hw _ (List.mem_of_getElem? (i := 62) rfl))) (mvT hZ (hw _ (List.mem_of_getElem? (i := 61) rfl))) (by decide) (backOf (W := 0) (rm10n l Z a0 hw [] sCONSTRUCTOR T00.heap n0 Z00) hZ (hw _ (List.mem_of_getElem? (i := 63) rfl)) (hw _ (List.mem_of_getElem? (i := 2) rfl)) (by decide) (by decide)) q25_4a q25_4c (g := (mkF m 25 (own_ANRIIR r00 (4 : Int32) (3 : Int32) wCONSTRUCTOR) [.null, (.ref sCONSTRUCTOR)])) rfl (by rw [hml]; rfl) (Steps.refl _) (argsL := [.null]) (rest := []) (lenOf pd_8_1n rfl) rfl (by show 2 * 0 + _ ≤ _; exact Nat.le_of_eq rfl) (hb hby d8_25) (fun _ _ => ⟨rfl, e21_4, (by decide : 1 + 0 ≤ _), (by decide : 4 + 0 ≤ _)⟩)
  dsimp only [Pt.U, Pt.locs, Pt.cells, Pt.slots] at X25_4 l25_4 y25_4 z25_4 st25_4 hQ25_4
  subst l25_4 y25_4 z25_4
  obtain ⟨rfl, N25_4q, hq25_4⟩ := hQ25_4
  have N25_4 := Fr.app N25_3 N25_4q
  refine own_by (fun t k => st25_4.trans k) ?_
  have sg41 : ∀ t, own_S p e below T25_4 (mkF m 41 (own_ANRIIR r00 (4 : Int32) (4 : Int32) wCONSTRUCTOR) [.null]) t → own_S p e below T25_4 (mkF m 28 (own_ANRIIR r00 (4 : Int32) (3 : Int32) wCONSTRUCTOR) [(.int (0 : Int32))]) t := by
    intro t k
    show own_S p e below T25_4 (mkF m 28 (own_ANRIIR r00 (4 : Int32) (3 : Int32) wCONSTRUCTOR) [(.int (0 : Int32))]) _
    refine XS.ifYes X25_4.here hx rfl (pc0 := 28) (pc' := 34) rfl (hb hby d8_28) rfl ((if0 _ _).trans (teq (by decide : (0 : Int32) = (0 : Int32))).1) (by decide) (by decide) ?_
    show own_S p e below T25_4 (mkF m 34 (own_ANRIIR r00 (4 : Int32) (3 : Int32) wCONSTRUCTOR) []) _
    refine XS.iinc X25_4.here hx rfl (hb hby d8_34) rfl (l' := (own_ANRIIR r00 (4 : Int32) (4 : Int32) wCONSTRUCTOR)) rfl ?_
    show own_S p e below T25_4 (mkF m 37 (own_ANRIIR r00 (4 : Int32) (4 : Int32) wCONSTRUCTOR) []) _
    refine XS.goto X25_4.here hx rfl (pc0 := 37) (pc' := 9) rfl (hb hby d8_37) (by decide) (by decide) ?_
    show own_S p e below T25_4 (mkF m 9 (own_ANRIIR r00 (4 : Int32) (4 : Int32) wCONSTRUCTOR) []) _
    refine XS.iloadN X25_4.here hx rfl (hb hby d8_9) rfl ?_
    show own_S p e below T25_4 (mkF m 10 (own_ANRIIR r00 (4 : Int32) (4 : Int32) wCONSTRUCTOR) [(.int (4 : Int32))]) _
    refine XS.iloadN X25_4.here hx rfl (hb hby d8_10) rfl ?_
    show own_S p e below T25_4 (mkF m 11 (own_ANRIIR r00 (4 : Int32) (4 : Int32) wCONSTRUCTOR) [(.int (4 : Int32)), (.int (4 : Int32))]) _
    refine XS.icmpYes X25_4.here hx rfl (pc0 := 11) (pc' := 40) rfl (hb hby d8_11) rfl (flt (by decide : ¬ ((4 : Int32) < (4 : Int32)))).2.1 (by decide) (by decide) ?_
    show own_S p e below T25_4 (mkF m 40 (own_ANRIIR r00 (4 : Int32) (4 : Int32) wCONSTRUCTOR) []) _
    refine XS.aconstNull X25_4.here hx rfl (hb hby d8_40) ?_
    exact k
  refine own_by sg41 ?_
  obtain ⟨fs, hr, hrun, hended, hW, hsame⟩ := X25_4.leave (v := some .null) (fun h => by rw [Bd.returns] at h; cases h)
  refine ⟨_, _, ?_, hrun, hended, _, _, rfl, ?_, ⟨_, rfl⟩, hW, hsame.mono (by decide) (by decide)⟩
  · show Steps p.tables e below (T25_4.setTop (mkF m 41 (own_ANRIIR r00 (4 : Int32) (4 : Int32) wCONSTRUCTOR) [.null])) _
    jvm_step X25_4.here [X25_4.here.top, hx, (hb hby d8_41), X25_4.method', Bd.returns, Value.isRef, FieldType.isReference]
    first | (intro acts; rw [hr _ acts rfl rfl rfl]) | rw [hr _ _ rfl rfl rfl]
    exact Steps.refl _
  · show Q8n Z wV cl wNO wBY_NAME wBY_TYPE wCONSTRUCTOR sNO sBY_NAME sBY_TYPE sCONSTRUCTOR gz h0 n0 _ T25_4.heap _
    rw [hq25_4]
    exact ⟨rfl, N25_4, K00⟩
theorem d1_0 : decode method_4_code 0 = .ok (.iload_n 0, 1) := by decide +kernel
theorem d1_1 : decode method_4_code 1 = .ok (.ifCond .ne 17, 3) := by decide +kernel
theorem d1_4 : decode method_4_code 4 = .ok (.iconst 2, 1) := by decide +kernel
theorem d1_5 : decode method_4_code 5 = .ok (.newarray .char, 2) := by decide +kernel
theorem d1_7 : decode method_4_code 7 = .ok (.dup, 1) := by decide +kernel
theorem d1_8 : decode method_4_code 8 = .ok (.iconst 0, 1) := by decide +kernel
theorem d1_9 : decode method_4_code 9 = .ok (.bipush 110, 2) := by decide +kernel
theorem d1_11 : decode method_4_code 11 = .ok (.castore, 1) := by decide +kernel
theorem d1_12 : decode method_4_code 12 = .ok (.dup, 1) := by decide +kernel
theorem d1_13 : decode method_4_code 13 = .ok (.iconst 1, 1) := by decide +kernel
theorem d1_14 : decode method_4_code 14 = .ok (.bipush 111, 2) := by decide +kernel
theorem d1_16 : decode method_4_code 16 = .ok (.castore, 1) := by decide +kernel
theorem d1_17 : decode method_4_code 17 = .ok (.areturn, 1) := by decide +kernel
theorem d1_18 : decode method_4_code 18 = .ok (.iload_n 0, 1) := by decide +kernel
theorem d1_19 : decode method_4_code 19 = .ok (.iconst 1, 1) := by decide +kernel
theorem d1_20 : decode method_4_code 20 = .ok (.if_icmp .ne 38, 3) := by decide +kernel
theorem d1_23 : decode method_4_code 23 = .ok (.bipush 6, 2) := by decide +kernel
theorem d1_25 : decode method_4_code 25 = .ok (.newarray .char, 2) := by decide +kernel
theorem d1_27 : decode method_4_code 27 = .ok (.dup, 1) := by decide +kernel
theorem d1_28 : decode method_4_code 28 = .ok (.iconst 0, 1) := by decide +kernel
theorem d1_29 : decode method_4_code 29 = .ok (.bipush 98, 2) := by decide +kernel
theorem d1_31 : decode method_4_code 31 = .ok (.castore, 1) := by decide +kernel
theorem d1_32 : decode method_4_code 32 = .ok (.dup, 1) := by decide +kernel
theorem d1_33 : decode method_4_code 33 = .ok (.iconst 1, 1) := by decide +kernel
theorem d1_34 : decode method_4_code 34 = .ok (.bipush 121, 2) := by decide +kernel
theorem d1_36 : decode method_4_code 36 = .ok (.castore, 1) := by decide +kernel
theorem d1_37 : decode method_4_code 37 = .ok (.dup, 1) := by decide +kernel
theorem d1_38 : decode method_4_code 38 = .ok (.iconst 2, 1) := by decide +kernel
theorem d1_39 : decode method_4_code 39 = .ok (.bipush 78, 2) := by decide +kernel
theorem d1_41 : decode method_4_code 41 = .ok (.castore, 1) := by decide +kernel
theorem d1_42 : decode method_4_code 42 = .ok (.dup, 1) := by decide +kernel
theorem d1_43 : decode method_4_code 43 = .ok (.iconst 3, 1) := by decide +kernel
theorem d1_44 : decode method_4_code 44 = .ok (.bipush 97, 2) := by decide +kernel
theorem d1_46 : decode method_4_code 46 = .ok (.castore, 1) := by decide +kernel
theorem d1_47 : decode method_4_code 47 = .ok (.dup, 1) := by decide +kernel
theorem d1_48 : decode method_4_code 48 = .ok (.iconst 4, 1) := by decide +kernel
theorem d1_49 : decode method_4_code 49 = .ok (.bipush 109, 2) := by decide +kernel
theorem d1_51 : decode method_4_code 51 = .ok (.castore, 1) := by decide +kernel
theorem d1_52 : decode method_4_code 52 = .ok (.dup, 1) := by decide +kernel
theorem d1_53 : decode method_4_code 53 = .ok (.iconst 5, 1) := by decide +kernel
theorem d1_54 : decode method_4_code 54 = .ok (.bipush 101, 2) := by decide +kernel
theorem d1_56 : decode method_4_code 56 = .ok (.castore, 1) := by decide +kernel
theorem d1_57 : decode method_4_code 57 = .ok (.areturn, 1) := by decide +kernel
theorem d1_58 : decode method_4_code 58 = .ok (.iload_n 0, 1) := by decide +kernel
theorem d1_59 : decode method_4_code 59 = .ok (.iconst 2, 1) := by decide +kernel
theorem d1_60 : decode method_4_code 60 = .ok (.if_icmp .ne 38, 3) := by decide +kernel
theorem d1_63 : decode method_4_code 63 = .ok (.bipush 6, 2) := by decide +kernel
theorem d1_65 : decode method_4_code 65 = .ok (.newarray .char, 2) := by decide +kernel
theorem d1_67 : decode method_4_code 67 = .ok (.dup, 1) := by decide +kernel
theorem d1_68 : decode method_4_code 68 = .ok (.iconst 0, 1) := by decide +kernel
theorem d1_69 : decode method_4_code 69 = .ok (.bipush 98, 2) := by decide +kernel
theorem d1_71 : decode method_4_code 71 = .ok (.castore, 1) := by decide +kernel
theorem d1_72 : decode method_4_code 72 = .ok (.dup, 1) := by decide +kernel
theorem d1_73 : decode method_4_code 73 = .ok (.iconst 1, 1) := by decide +kernel
theorem d1_74 : decode method_4_code 74 = .ok (.bipush 121, 2) := by decide +kernel
theorem d1_76 : decode method_4_code 76 = .ok (.castore, 1) := by decide +kernel
theorem d1_77 : decode method_4_code 77 = .ok (.dup, 1) := by decide +kernel
theorem d1_78 : decode method_4_code 78 = .ok (.iconst 2, 1) := by decide +kernel
theorem d1_79 : decode method_4_code 79 = .ok (.bipush 84, 2) := by decide +kernel
theorem d1_81 : decode method_4_code 81 = .ok (.castore, 1) := by decide +kernel
theorem d1_82 : decode method_4_code 82 = .ok (.dup, 1) := by decide +kernel
theorem d1_83 : decode method_4_code 83 = .ok (.iconst 3, 1) := by decide +kernel
theorem d1_84 : decode method_4_code 84 = .ok (.bipush 121, 2) := by decide +kernel
theorem d1_86 : decode method_4_code 86 = .ok (.castore, 1) := by decide +kernel
theorem d1_87 : decode method_4_code 87 = .ok (.dup, 1) := by decide +kernel
theorem d1_88 : decode method_4_code 88 = .ok (.iconst 4, 1) := by decide +kernel
theorem d1_89 : decode method_4_code 89 = .ok (.bipush 112, 2) := by decide +kernel
theorem d1_91 : decode method_4_code 91 = .ok (.castore, 1) := by decide +kernel
theorem d1_92 : decode method_4_code 92 = .ok (.dup, 1) := by decide +kernel
theorem d1_93 : decode method_4_code 93 = .ok (.iconst 5, 1) := by decide +kernel
theorem d1_94 : decode method_4_code 94 = .ok (.bipush 101, 2) := by decide +kernel
theorem d1_96 : decode method_4_code 96 = .ok (.castore, 1) := by decide +kernel
theorem d1_97 : decode method_4_code 97 = .ok (.areturn, 1) := by decide +kernel
theorem d1_98 : decode method_4_code 98 = .ok (.bipush 11, 2) := by decide +kernel
theorem d1_100 : decode method_4_code 100 = .ok (.newarray .char, 2) := by decide +kernel
theorem d1_102 : decode method_4_code 102 = .ok (.dup, 1) := by decide +kernel
theorem d1_103 : decode method_4_code 103 = .ok (.iconst 0, 1) := by decide +kernel
theorem d1_104 : decode method_4_code 104 = .ok (.bipush 99, 2) := by decide +kernel
theorem d1_106 : decode method_4_code 106 = .ok (.castore, 1) := by decide +kernel
theorem d1_107 : decode method_4_code 107 = .ok (.dup, 1) := by decide +kernel
theorem d1_108 : decode method_4_code 108 = .ok (.iconst 1, 1) := by decide +kernel
theorem d1_109 : decode method_4_code 109 = .ok (.bipush 111, 2) := by decide +kernel
theorem d1_111 : decode method_4_code 111 = .ok (.castore, 1) := by decide +kernel
theorem d1_112 : decode method_4_code 112 = .ok (.dup, 1) := by decide +kernel
theorem d1_113 : decode method_4_code 113 = .ok (.iconst 2, 1) := by decide +kernel
theorem d1_114 : decode method_4_code 114 = .ok (.bipush 110, 2) := by decide +kernel
theorem d1_116 : decode method_4_code 116 = .ok (.castore, 1) := by decide +kernel
theorem d1_117 : decode method_4_code 117 = .ok (.dup, 1) := by decide +kernel
theorem d1_118 : decode method_4_code 118 = .ok (.iconst 3, 1) := by decide +kernel
theorem d1_119 : decode method_4_code 119 = .ok (.bipush 115, 2) := by decide +kernel
theorem d1_121 : decode method_4_code 121 = .ok (.castore, 1) := by decide +kernel
theorem d1_122 : decode method_4_code 122 = .ok (.dup, 1) := by decide +kernel
theorem d1_123 : decode method_4_code 123 = .ok (.iconst 4, 1) := by decide +kernel
theorem d1_124 : decode method_4_code 124 = .ok (.bipush 116, 2) := by decide +kernel
theorem d1_126 : decode method_4_code 126 = .ok (.castore, 1) := by decide +kernel
theorem d1_127 : decode method_4_code 127 = .ok (.dup, 1) := by decide +kernel
theorem d1_128 : decode method_4_code 128 = .ok (.iconst 5, 1) := by decide +kernel
theorem d1_129 : decode method_4_code 129 = .ok (.bipush 114, 2) := by decide +kernel
theorem d1_131 : decode method_4_code 131 = .ok (.castore, 1) := by decide +kernel
theorem d1_132 : decode method_4_code 132 = .ok (.dup, 1) := by decide +kernel
theorem d1_133 : decode method_4_code 133 = .ok (.bipush 6, 2) := by decide +kernel
theorem d1_135 : decode method_4_code 135 = .ok (.bipush 117, 2) := by decide +kernel
theorem d1_137 : decode method_4_code 137 = .ok (.castore, 1) := by decide +kernel
theorem d1_138 : decode method_4_code 138 = .ok (.dup, 1) := by decide +kernel
theorem d1_139 : decode method_4_code 139 = .ok (.bipush 7, 2) := by decide +kernel
theorem d1_141 : decode method_4_code 141 = .ok (.bipush 99, 2) := by decide +kernel
theorem d1_143 : decode method_4_code 143 = .ok (.castore, 1) := by decide +kernel
theorem d1_144 : decode method_4_code 144 = .ok (.dup, 1) := by decide +kernel
theorem d1_145 : decode method_4_code 145 = .ok (.bipush 8, 2) := by decide +kernel
theorem d1_147 : decode method_4_code 147 = .ok (.bipush 116, 2) := by decide +kernel
theorem d1_149 : decode method_4_code 149 = .ok (.castore, 1) := by decide +kernel
theorem d1_150 : decode method_4_code 150 = .ok (.dup, 1) := by decide +kernel
theorem d1_151 : decode method_4_code 151 = .ok (.bipush 9, 2) := by decide +kernel
theorem d1_153 : decode method_4_code 153 = .ok (.bipush 111, 2) := by decide +kernel
theorem d1_155 : decode method_4_code 155 = .ok (.castore, 1) := by decide +kernel
theorem d1_156 : decode method_4_code 156 = .ok (.dup, 1) := by decide +kernel
theorem d1_157 : decode method_4_code 157 = .ok (.bipush 10, 2) := by decide +kernel
theorem d1_159 : decode method_4_code 159 = .ok (.bipush 114, 2) := by decide +kernel
theorem d1_161 : decode method_4_code 161 = .ok (.castore, 1) := by decide +kernel
theorem d1_162 : decode method_4_code 162 = .ok (.areturn, 1) := by decide +kernel
theorem pn_1 : plainFor (⟨"com/example/spojka/spojka/AutowireModeNamedPinLaw", "word", "(I)[C"⟩ : MethodName) = true := by first | exact plainFor_of_name (by first | (simp [plainName, overriddenIn]; done) | decide +kernel) | decide +kernel | exact Jvm.Free.JP.mathPlain rfl (by decide +kernel)
theorem ef_1 (m : MethodId) (p0 : Int32) : entryFrame m #[(.int p0)] 1 = mkF m 0 #[.val (.int p0)] [] := by first | (simp [entryFrame, mkF, argsToLocals, Value.category]; done) | rfl
def Q1 (Z : State) (p0 : Int32) (h0 : Heap) (n0 : Nat) (v : Option Value) (h : Heap) (L : List Loc) : Prop := ∃ r kc, v = some (.ref r) ∧ h0.size ≤ r ∧ Fr n0 L ∧ Keep h0 h [] ∧ Arv Z h r kc .char (Int32.ofNat (own_word p0).length) ((own_word p0).map Value.int) (.int 0)
set_option maxRecDepth 65536 in
set_option maxHeartbeats 40000000 in
theorem rm1 (l : Launch) (Z : State) (a0 : Array Value) (hw : ∀ d ∈ tables_1, d.before a0 Z = true) (ws : List Jvm.Cond) (p0 : Int32) (h0 : Heap) (n0 : Nat) (Z0 : n0 ≤ h0.size) :
    MetFree l (⟨"com/example/spojka/spojka/AutowireModeNamedPinLaw", "word", "(I)[C"⟩ : MethodName) (head1 (Jvm.Cond.code (⟨"com/example/spojka/spojka/AutowireModeNamedPinLaw", "word", "(I)[C"⟩ : MethodName) method_4_code 1 (some (.array .char)) :: ws) ({ frames := 0, cells := 1, slots := 11, locals := 0 } : Room)) (fun a U => a = #[(.int p0)] ∧ Z.Warmed39 U.vm ∧ U.heap = h0) (fun _ _ _ _ _ => True) (fun _ U o U' => ∃ v L, o = .returned v ∧ Q1 Z p0 h0 n0 v U'.heap L ∧ FrameEnd U o U' L ({ frames := 0, cells := 1, slots := 11, locals := 0 } : Room).cells ({ frames := 0, cells := 1, slots := 11, locals := 0 } : Room).slots) := by
  refine MetFree.of_bodySF pn_1 hisR ?_
  intro p e s m args below meth c s₁ Bd hml0 hP hK
  obtain ⟨rfl, hZ, hh⟩ := hP
  have hx := Bd.exec
  have hby := Bd.bytes
  have hml : c.maxLocals = 1 := hml0
  have hown : s.vm.findClass "com/example/spojka/spojka/AutowireModeNamedPinLaw" = some m.cls := findClass_of_methodNamed Bd.named
  have hnm := (name_of_methodNamed Bd.named Bd.method).1
  have X0 : Stand p l e ({ frames := 0, cells := 1, slots := 11, locals := 0 } : Room) s m #[(.int p0)] below meth c s₁ [] 0 0 := Stand.of_body Bd
  have e0 : s₁.heap = h0 := by rw [← hh, Bd.state]; rfl
  have N0 := Fr.nil n0
  refine own_at (castTop (ef_1 m p0)) ?_
  have K0 := Keep.refl h0 []
  have sg1 : ∀ t, own_S p e below s₁ (mkF m 1 #[.val (.int p0)] [(.int p0)]) t → own_S p e below s₁ (mkF m 0 #[.val (.int p0)] []) t := by
    intro t k
    show own_S p e below s₁ (mkF m 0 #[.val (.int p0)] []) _
    refine XS.iloadN X0.here hx rfl (hb hby d1_0) rfl ?_
    exact k
  refine own_by sg1 ?_
  by_cases hc1 : p0 = (0 : Int32)
  · have sg5 : ∀ t, own_S p e below s₁ (mkF m 5 #[.val (.int p0)] [(.int (2 : Int32))]) t → own_S p e below s₁ (mkF m 1 #[.val (.int p0)] [(.int p0)]) t := by
      intro t k
      show own_S p e below s₁ (mkF m 1 #[.val (.int p0)] [(.int p0)]) _
      refine XS.ifNo X0.here hx rfl (hb hby d1_1) rfl ((if0 _ _).trans (teq hc1).2) ?_
      show own_S p e below s₁ (mkF m 4 #[.val (.int p0)] []) _
      refine XS.iconst X0.here hx rfl (hb hby d1_4) ?_
      exact k
    refine own_by sg5 ?_
    obtain ⟨T5, h5, kc5, X5, e5, E5, A5, st5⟩ := newP X0 hx hZ (hw _ (List.mem_of_getElem? (i := 7) rfl)) e0 (g := (mkF m 5 #[.val (.int p0)] [(.int (2 : Int32))])) rfl (hb hby d1_5) rfl (by decide) (cap := 2) (by decide) (by decide) (by decide) (by decide)
    obtain ⟨b5, g5⟩ : ∃ z, z = h0.size := ⟨_, rfl⟩
    rw [← g5] at A5 st5
    have g_b5 : n0 ≤ b5 := Nat.le_trans Z0 (Nat.le_of_eq g5.symm)
    have sz_b5 : h0.size ≤ b5 := Nat.le_trans K0.1 (Nat.le_of_eq g5.symm)
    have K5 := K0.ext E5
    have Z5 : n0 ≤ h5.size := Nat.le_trans Z0 E5.1
    have V5 : Arv Z h5 b5 kc5 .char (2 : Int32) [(.int (0 : Int32)), (.int (0 : Int32))] (.int (0 : Int32)) := (Arv.new A5 (by decide)).pad (pad_rep [] (.int (0 : Int32)) 2)
    refine own_by st5 ?_
    have sg11 : ∀ t, own_S p e below T5 (mkF m 11 #[.val (.int p0)] [(.int (110 : Int32)), (.int (0 : Int32)), (.ref b5), (.ref b5)]) t → own_S p e below T5 (mkF m 7 #[.val (.int p0)] [(.ref b5)]) t := by
      intro t k
      show own_S p e below T5 (mkF m 7 #[.val (.int p0)] [(.ref b5)]) _
      refine XS.dup X5.here hx rfl (hb hby d1_7) rfl rfl ?_
      show own_S p e below T5 (mkF m 8 #[.val (.int p0)] [(.ref b5), (.ref b5)]) _
      refine XS.iconst X5.here hx rfl (hb hby d1_8) ?_
      show own_S p e below T5 (mkF m 9 #[.val (.int p0)] [(.int (0 : Int32)), (.ref b5), (.ref b5)]) _
      refine XS.bipush X5.here hx rfl (hb hby d1_9) ?_
      exact k
    refine own_by sg11 ?_
    obtain ⟨cl11, Ar11, qa11, Sa11, Na11, Ha11, Ga11⟩ := id V5
    obtain ⟨T11, h11, X11, e11, W11, st11⟩ := stC X5 hx hZ e5 Ar11 (j := (0 : Int32)) (inb_of Sa11 ⟨by decide, by decide⟩) (g := (mkF m 11 #[.val (.int p0)] [(.int (110 : Int32)), (.int (0 : Int32)), (.ref b5), (.ref b5)])) rfl rfl (hb hby d1_11)
    have V11 : Arv Z h11 b5 kc5 .char (2 : Int32) [(.int (110 : Int32)), (.int (0 : Int32))] (.int (0 : Int32)) := by
      have q := Arv.set Ar11 qa11 Sa11 Na11 Ha11 Ga11 (fits_nar_char _) W11 0 rfl (Nat.le_of_ble_eq_true rfl)
      exact q
    have K11 : Keep h0 h11 [] := K5.wr W11 (Or.inr sz_b5)
    have Z11 : n0 ≤ h11.size := Nat.le_trans Z5 (Keep.of_wr W11).1
    have N11 := Fr.snoc X11 N0 g_b5
    refine own_by st11 ?_
    have sg16 : ∀ t, own_S p e below T11 (mkF m 16 #[.val (.int p0)] [(.int (111 : Int32)), (.int (1 : Int32)), (.ref b5), (.ref b5)]) t → own_S p e below T11 (mkF m 12 #[.val (.int p0)] [(.ref b5)]) t := by
      intro t k
      show own_S p e below T11 (mkF m 12 #[.val (.int p0)] [(.ref b5)]) _
      refine XS.dup X11.here hx rfl (hb hby d1_12) rfl rfl ?_
      show own_S p e below T11 (mkF m 13 #[.val (.int p0)] [(.ref b5), (.ref b5)]) _
      refine XS.iconst X11.here hx rfl (hb hby d1_13) ?_
      show own_S p e below T11 (mkF m 14 #[.val (.int p0)] [(.int (1 : Int32)), (.ref b5), (.ref b5)]) _
      refine XS.bipush X11.here hx rfl (hb hby d1_14) ?_
      exact k
    refine own_by sg16 ?_
    obtain ⟨cl16, Ar16, qa16, Sa16, Na16, Ha16, Ga16⟩ := id V11
    obtain ⟨T16, h16, X16, e16, W16, st16⟩ := stC X11 hx hZ e11 Ar16 (j := (1 : Int32)) (inb_of Sa16 ⟨by decide, by decide⟩) (g := (mkF m 16 #[.val (.int p0)] [(.int (111 : Int32)), (.int (1 : Int32)), (.ref b5), (.ref b5)])) rfl rfl (hb hby d1_16)
    have V16 : Arv Z h16 b5 kc5 .char (2 : Int32) [(.int (110 : Int32)), (.int (111 : Int32))] (.int (0 : Int32)) := by
      have q := Arv.set Ar16 qa16 Sa16 Na16 Ha16 Ga16 (fits_nar_char _) W16 1 rfl (Nat.le_of_ble_eq_true rfl)
      exact q
    have K16 : Keep h0 h16 [] := K11.wr W16 (Or.inr sz_b5)
    have Z16 : n0 ≤ h16.size := Nat.le_trans Z11 (Keep.of_wr W16).1
    have N16 := Fr.snoc X16 N11 g_b5
    refine own_by st16 ?_
    obtain ⟨fs, hr, hrun, hended, hW, hsame⟩ := X16.leave (v := some (.ref b5)) (fun h => by rw [Bd.returns] at h; cases h)
    refine ⟨_, _, ?_, hrun, hended, _, _, rfl, ?_, ⟨_, rfl⟩, hW, hsame.mono (by decide) (by decide)⟩
    · show Steps p.tables e below (T16.setTop (mkF m 17 #[.val (.int p0)] [(.ref b5)])) _
      jvm_step X16.here [X16.here.top, hx, (hb hby d1_17), X16.method', Bd.returns, Value.isRef, FieldType.isReference]
      first | (intro acts; rw [hr _ acts rfl rfl rfl]) | rw [hr _ _ rfl rfl rfl]
      exact Steps.refl _
    · show Q1 Z p0 h0 n0 _ T16.heap _
      rw [e16]
      exact ⟨_, _, rfl, sz_b5, N16, K16, (by unfold own_word; rw [if_pos hc1]; exact V16)⟩
  · have sg20 : ∀ t, own_S p e below s₁ (mkF m 20 #[.val (.int p0)] [(.int (1 : Int32)), (.int p0)]) t → own_S p e below s₁ (mkF m 1 #[.val (.int p0)] [(.int p0)]) t := by
      intro t k
      show own_S p e below s₁ (mkF m 1 #[.val (.int p0)] [(.int p0)]) _
      refine XS.ifYes X0.here hx rfl (pc0 := 1) (pc' := 18) rfl (hb hby d1_1) rfl ((if0 _ _).trans (feq hc1).2) (by decide) (by decide) ?_
      show own_S p e below s₁ (mkF m 18 #[.val (.int p0)] []) _
      refine XS.iloadN X0.here hx rfl (hb hby d1_18) rfl ?_
      show own_S p e below s₁ (mkF m 19 #[.val (.int p0)] [(.int p0)]) _
      refine XS.iconst X0.here hx rfl (hb hby d1_19) ?_
      exact k
    refine own_by sg20 ?_
    by_cases hc20 : p0 = (1 : Int32)
    · have sg25 : ∀ t, own_S p e below s₁ (mkF m 25 #[.val (.int p0)] [(.int (6 : Int32))]) t → own_S p e below s₁ (mkF m 20 #[.val (.int p0)] [(.int (1 : Int32)), (.int p0)]) t := by
        intro t k
        show own_S p e below s₁ (mkF m 20 #[.val (.int p0)] [(.int (1 : Int32)), (.int p0)]) _
        refine XS.icmpNo X0.here hx rfl (hb hby d1_20) rfl (teq hc20).2 ?_
        show own_S p e below s₁ (mkF m 23 #[.val (.int p0)] []) _
        refine XS.bipush X0.here hx rfl (hb hby d1_23) ?_
        exact k
      refine own_by sg25 ?_
      obtain ⟨T25, h25, kc25, X25, e25, E25, A25, st25⟩ := newP X0 hx hZ (hw _ (List.mem_of_getElem? (i := 7) rfl)) e0 (g := (mkF m 25 #[.val (.int p0)] [(.int (6 : Int32))])) rfl (hb hby d1_25) rfl (by decide) (cap := 6) (by decide) (by decide) (by decide) (by decide)
      obtain ⟨b25, g25⟩ : ∃ z, z = h0.size := ⟨_, rfl⟩
      rw [← g25] at A25 st25
      have g_b25 : n0 ≤ b25 := Nat.le_trans Z0 (Nat.le_of_eq g25.symm)
      have sz_b25 : h0.size ≤ b25 := Nat.le_trans K0.1 (Nat.le_of_eq g25.symm)
      have K25 := K0.ext E25
      have Z25 : n0 ≤ h25.size := Nat.le_trans Z0 E25.1
      have V25 : Arv Z h25 b25 kc25 .char (6 : Int32) [(.int (0 : Int32)), (.int (0 : Int32)), (.int (0 : Int32)), (.int (0 : Int32)), (.int (0 : Int32)), (.int (0 : Int32))] (.int (0 : Int32)) := (Arv.new A25 (by decide)).pad (pad_rep [] (.int (0 : Int32)) 6)
      refine own_by st25 ?_
      have sg31 : ∀ t, own_S p e below T25 (mkF m 31 #[.val (.int p0)] [(.int (98 : Int32)), (.int (0 : Int32)), (.ref b25), (.ref b25)]) t → own_S p e below T25 (mkF m 27 #[.val (.int p0)] [(.ref b25)]) t := by
        intro t k
        show own_S p e below T25 (mkF m 27 #[.val (.int p0)] [(.ref b25)]) _
        refine XS.dup X25.here hx rfl (hb hby d1_27) rfl rfl ?_
        show own_S p e below T25 (mkF m 28 #[.val (.int p0)] [(.ref b25), (.ref b25)]) _
        refine XS.iconst X25.here hx rfl (hb hby d1_28) ?_
        show own_S p e below T25 (mkF m 29 #[.val (.int p0)] [(.int (0 : Int32)), (.ref b25), (.ref b25)]) _
        refine XS.bipush X25.here hx rfl (hb hby d1_29) ?_
        exact k
      refine own_by sg31 ?_
      obtain ⟨cl31, Ar31, qa31, Sa31, Na31, Ha31, Ga31⟩ := id V25
      obtain ⟨T31, h31, X31, e31, W31, st31⟩ := stC X25 hx hZ e25 Ar31 (j := (0 : Int32)) (inb_of Sa31 ⟨by decide, by decide⟩) (g := (mkF m 31 #[.val (.int p0)] [(.int (98 : Int32)), (.int (0 : Int32)), (.ref b25), (.ref b25)])) rfl rfl (hb hby d1_31)
      have V31 : Arv Z h31 b25 kc25 .char (6 : Int32) [(.int (98 : Int32)), (.int (0 : Int32)), (.int (0 : Int32)), (.int (0 : Int32)), (.int (0 : Int32)), (.int (0 : Int32))] (.int (0 : Int32)) := by
        have q := Arv.set Ar31 qa31 Sa31 Na31 Ha31 Ga31 (fits_nar_char _) W31 0 rfl (Nat.le_of_ble_eq_true rfl)
        exact q
      have K31 : Keep h0 h31 [] := K25.wr W31 (Or.inr sz_b25)
      have Z31 : n0 ≤ h31.size := Nat.le_trans Z25 (Keep.of_wr W31).1
      have N31 := Fr.snoc X31 N0 g_b25
      refine own_by st31 ?_
      have sg36 : ∀ t, own_S p e below T31 (mkF m 36 #[.val (.int p0)] [(.int (121 : Int32)), (.int (1 : Int32)), (.ref b25), (.ref b25)]) t → own_S p e below T31 (mkF m 32 #[.val (.int p0)] [(.ref b25)]) t := by
        intro t k
        show own_S p e below T31 (mkF m 32 #[.val (.int p0)] [(.ref b25)]) _
        refine XS.dup X31.here hx rfl (hb hby d1_32) rfl rfl ?_
        show own_S p e below T31 (mkF m 33 #[.val (.int p0)] [(.ref b25), (.ref b25)]) _
        refine XS.iconst X31.here hx rfl (hb hby d1_33) ?_
        show own_S p e below T31 (mkF m 34 #[.val (.int p0)] [(.int (1 : Int32)), (.ref b25), (.ref b25)]) _
        refine XS.bipush X31.here hx rfl (hb hby d1_34) ?_
        exact k
      refine own_by sg36 ?_
      obtain ⟨cl36, Ar36, qa36, Sa36, Na36, Ha36, Ga36⟩ := id V31
      obtain ⟨T36, h36, X36, e36, W36, st36⟩ := stC X31 hx hZ e31 Ar36 (j := (1 : Int32)) (inb_of Sa36 ⟨by decide, by decide⟩) (g := (mkF m 36 #[.val (.int p0)] [(.int (121 : Int32)), (.int (1 : Int32)), (.ref b25), (.ref b25)])) rfl rfl (hb hby d1_36)
      have V36 : Arv Z h36 b25 kc25 .char (6 : Int32) [(.int (98 : Int32)), (.int (121 : Int32)), (.int (0 : Int32)), (.int (0 : Int32)), (.int (0 : Int32)), (.int (0 : Int32))] (.int (0 : Int32)) := by
        have q := Arv.set Ar36 qa36 Sa36 Na36 Ha36 Ga36 (fits_nar_char _) W36 1 rfl (Nat.le_of_ble_eq_true rfl)
        exact q
      have K36 : Keep h0 h36 [] := K31.wr W36 (Or.inr sz_b25)
      have Z36 : n0 ≤ h36.size := Nat.le_trans Z31 (Keep.of_wr W36).1
      have N36 := Fr.snoc X36 N31 g_b25
      refine own_by st36 ?_
      have sg41 : ∀ t, own_S p e below T36 (mkF m 41 #[.val (.int p0)] [(.int (78 : Int32)), (.int (2 : Int32)), (.ref b25), (.ref b25)]) t → own_S p e below T36 (mkF m 37 #[.val (.int p0)] [(.ref b25)]) t := by
        intro t k
        show own_S p e below T36 (mkF m 37 #[.val (.int p0)] [(.ref b25)]) _
        refine XS.dup X36.here hx rfl (hb hby d1_37) rfl rfl ?_
        show own_S p e below T36 (mkF m 38 #[.val (.int p0)] [(.ref b25), (.ref b25)]) _
        refine XS.iconst X36.here hx rfl (hb hby d1_38) ?_
        show own_S p e below T36 (mkF m 39 #[.val (.int p0)] [(.int (2 : Int32)), (.ref b25), (.ref b25)]) _
        refine XS.bipush X36.here hx rfl (hb hby d1_39) ?_
        exact k
      refine own_by sg41 ?_
      obtain ⟨cl41, Ar41, qa41, Sa41, Na41, Ha41, Ga41⟩ := id V36
      obtain ⟨T41, h41, X41, e41, W41, st41⟩ := stC X36 hx hZ e36 Ar41 (j := (2 : Int32)) (inb_of Sa41 ⟨by decide, by decide⟩) (g := (mkF m 41 #[.val (.int p0)] [(.int (78 : Int32)), (.int (2 : Int32)), (.ref b25), (.ref b25)])) rfl rfl (hb hby d1_41)
      have V41 : Arv Z h41 b25 kc25 .char (6 : Int32) [(.int (98 : Int32)), (.int (121 : Int32)), (.int (78 : Int32)), (.int (0 : Int32)), (.int (0 : Int32)), (.int (0 : Int32))] (.int (0 : Int32)) := by
        have q := Arv.set Ar41 qa41 Sa41 Na41 Ha41 Ga41 (fits_nar_char _) W41 2 rfl (Nat.le_of_ble_eq_true rfl)
        exact q
      have K41 : Keep h0 h41 [] := K36.wr W41 (Or.inr sz_b25)
      have Z41 : n0 ≤ h41.size := Nat.le_trans Z36 (Keep.of_wr W41).1
      have N41 := Fr.snoc X41 N36 g_b25
      refine own_by st41 ?_
      have sg46 : ∀ t, own_S p e below T41 (mkF m 46 #[.val (.int p0)] [(.int (97 : Int32)), (.int (3 : Int32)), (.ref b25), (.ref b25)]) t → own_S p e below T41 (mkF m 42 #[.val (.int p0)] [(.ref b25)]) t := by
        intro t k
        show own_S p e below T41 (mkF m 42 #[.val (.int p0)] [(.ref b25)]) _
        refine XS.dup X41.here hx rfl (hb hby d1_42) rfl rfl ?_
        show own_S p e below T41 (mkF m 43 #[.val (.int p0)] [(.ref b25), (.ref b25)]) _
        refine XS.iconst X41.here hx rfl (hb hby d1_43) ?_
        show own_S p e below T41 (mkF m 44 #[.val (.int p0)] [(.int (3 : Int32)), (.ref b25), (.ref b25)]) _
        refine XS.bipush X41.here hx rfl (hb hby d1_44) ?_
        exact k
      refine own_by sg46 ?_
      obtain ⟨cl46, Ar46, qa46, Sa46, Na46, Ha46, Ga46⟩ := id V41
      obtain ⟨T46, h46, X46, e46, W46, st46⟩ := stC X41 hx hZ e41 Ar46 (j := (3 : Int32)) (inb_of Sa46 ⟨by decide, by decide⟩) (g := (mkF m 46 #[.val (.int p0)] [(.int (97 : Int32)), (.int (3 : Int32)), (.ref b25), (.ref b25)])) rfl rfl (hb hby d1_46)
      have V46 : Arv Z h46 b25 kc25 .char (6 : Int32) [(.int (98 : Int32)), (.int (121 : Int32)), (.int (78 : Int32)), (.int (97 : Int32)), (.int (0 : Int32)), (.int (0 : Int32))] (.int (0 : Int32)) := by
        have q := Arv.set Ar46 qa46 Sa46 Na46 Ha46 Ga46 (fits_nar_char _) W46 3 rfl (Nat.le_of_ble_eq_true rfl)
        exact q
      have K46 : Keep h0 h46 [] := K41.wr W46 (Or.inr sz_b25)
      have Z46 : n0 ≤ h46.size := Nat.le_trans Z41 (Keep.of_wr W46).1
      have N46 := Fr.snoc X46 N41 g_b25
      refine own_by st46 ?_
      have sg51 : ∀ t, own_S p e below T46 (mkF m 51 #[.val (.int p0)] [(.int (109 : Int32)), (.int (4 : Int32)), (.ref b25), (.ref b25)]) t → own_S p e below T46 (mkF m 47 #[.val (.int p0)] [(.ref b25)]) t := by
        intro t k
        show own_S p e below T46 (mkF m 47 #[.val (.int p0)] [(.ref b25)]) _
        refine XS.dup X46.here hx rfl (hb hby d1_47) rfl rfl ?_
        show own_S p e below T46 (mkF m 48 #[.val (.int p0)] [(.ref b25), (.ref b25)]) _
        refine XS.iconst X46.here hx rfl (hb hby d1_48) ?_
        show own_S p e below T46 (mkF m 49 #[.val (.int p0)] [(.int (4 : Int32)), (.ref b25), (.ref b25)]) _
        refine XS.bipush X46.here hx rfl (hb hby d1_49) ?_
        exact k
      refine own_by sg51 ?_
      obtain ⟨cl51, Ar51, qa51, Sa51, Na51, Ha51, Ga51⟩ := id V46
      obtain ⟨T51, h51, X51, e51, W51, st51⟩ := stC X46 hx hZ e46 Ar51 (j := (4 : Int32)) (inb_of Sa51 ⟨by decide, by decide⟩) (g := (mkF m 51 #[.val (.int p0)] [(.int (109 : Int32)), (.int (4 : Int32)), (.ref b25), (.ref b25)])) rfl rfl (hb hby d1_51)
      have V51 : Arv Z h51 b25 kc25 .char (6 : Int32) [(.int (98 : Int32)), (.int (121 : Int32)), (.int (78 : Int32)), (.int (97 : Int32)), (.int (109 : Int32)), (.int (0 : Int32))] (.int (0 : Int32)) := by
        have q := Arv.set Ar51 qa51 Sa51 Na51 Ha51 Ga51 (fits_nar_char _) W51 4 rfl (Nat.le_of_ble_eq_true rfl)
        exact q
      have K51 : Keep h0 h51 [] := K46.wr W51 (Or.inr sz_b25)
      have Z51 : n0 ≤ h51.size := Nat.le_trans Z46 (Keep.of_wr W51).1
      have N51 := Fr.snoc X51 N46 g_b25
      refine own_by st51 ?_
      have sg56 : ∀ t, own_S p e below T51 (mkF m 56 #[.val (.int p0)] [(.int (101 : Int32)), (.int (5 : Int32)), (.ref b25), (.ref b25)]) t → own_S p e below T51 (mkF m 52 #[.val (.int p0)] [(.ref b25)]) t := by
        intro t k
        show own_S p e below T51 (mkF m 52 #[.val (.int p0)] [(.ref b25)]) _
        refine XS.dup X51.here hx rfl (hb hby d1_52) rfl rfl ?_
        show own_S p e below T51 (mkF m 53 #[.val (.int p0)] [(.ref b25), (.ref b25)]) _
        refine XS.iconst X51.here hx rfl (hb hby d1_53) ?_
        show own_S p e below T51 (mkF m 54 #[.val (.int p0)] [(.int (5 : Int32)), (.ref b25), (.ref b25)]) _
        refine XS.bipush X51.here hx rfl (hb hby d1_54) ?_
        exact k
      refine own_by sg56 ?_
      obtain ⟨cl56, Ar56, qa56, Sa56, Na56, Ha56, Ga56⟩ := id V51
      obtain ⟨T56, h56, X56, e56, W56, st56⟩ := stC X51 hx hZ e51 Ar56 (j := (5 : Int32)) (inb_of Sa56 ⟨by decide, by decide⟩) (g := (mkF m 56 #[.val (.int p0)] [(.int (101 : Int32)), (.int (5 : Int32)), (.ref b25), (.ref b25)])) rfl rfl (hb hby d1_56)
      have V56 : Arv Z h56 b25 kc25 .char (6 : Int32) [(.int (98 : Int32)), (.int (121 : Int32)), (.int (78 : Int32)), (.int (97 : Int32)), (.int (109 : Int32)), (.int (101 : Int32))] (.int (0 : Int32)) := by
        have q := Arv.set Ar56 qa56 Sa56 Na56 Ha56 Ga56 (fits_nar_char _) W56 5 rfl (Nat.le_of_ble_eq_true rfl)
        exact q
      have K56 : Keep h0 h56 [] := K51.wr W56 (Or.inr sz_b25)
      have Z56 : n0 ≤ h56.size := Nat.le_trans Z51 (Keep.of_wr W56).1
      have N56 := Fr.snoc X56 N51 g_b25
      refine own_by st56 ?_
      obtain ⟨fs, hr, hrun, hended, hW, hsame⟩ := X56.leave (v := some (.ref b25)) (fun h => by rw [Bd.returns] at h; cases h)
      refine ⟨_, _, ?_, hrun, hended, _, _, rfl, ?_, ⟨_, rfl⟩, hW, hsame.mono (by decide) (by decide)⟩
      · show Steps p.tables e below (T56.setTop (mkF m 57 #[.val (.int p0)] [(.ref b25)])) _
        jvm_step X56.here [X56.here.top, hx, (hb hby d1_57), X56.method', Bd.returns, Value.isRef, FieldType.isReference]
        first | (intro acts; rw [hr _ acts rfl rfl rfl]) | rw [hr _ _ rfl rfl rfl]
        exact Steps.refl _
      · show Q1 Z p0 h0 n0 _ T56.heap _
        rw [e56]
        exact ⟨_, _, rfl, sz_b25, N56, K56, (by unfold own_word; rw [if_neg hc1, if_pos hc20]; exact V56)⟩
    · have sg60 : ∀ t, own_S p e below s₁ (mkF m 60 #[.val (.int p0)] [(.int (2 : Int32)), (.int p0)]) t → own_S p e below s₁ (mkF m 20 #[.val (.int p0)] [(.int (1 : Int32)), (.int p0)]) t := by
        intro t k
        show own_S p e below s₁ (mkF m 20 #[.val (.int p0)] [(.int (1 : Int32)), (.int p0)]) _
        refine XS.icmpYes X0.here hx rfl (pc0 := 20) (pc' := 58) rfl (hb hby d1_20) rfl (feq hc20).2 (by decide) (by decide) ?_
        show own_S p e below s₁ (mkF m 58 #[.val (.int p0)] []) _
        refine XS.iloadN X0.here hx rfl (hb hby d1_58) rfl ?_
        show own_S p e below s₁ (mkF m 59 #[.val (.int p0)] [(.int p0)]) _
        refine XS.iconst X0.here hx rfl (hb hby d1_59) ?_
        exact k
      refine own_by sg60 ?_
      by_cases hc60 : p0 = (2 : Int32)
      · have sg65 : ∀ t, own_S p e below s₁ (mkF m 65 #[.val (.int p0)] [(.int (6 : Int32))]) t → own_S p e below s₁ (mkF m 60 #[.val (.int p0)] [(.int (2 : Int32)), (.int p0)]) t := by
          intro t k
          show own_S p e below s₁ (mkF m 60 #[.val (.int p0)] [(.int (2 : Int32)), (.int p0)]) _
          refine XS.icmpNo X0.here hx rfl (hb hby d1_60) rfl (teq hc60).2 ?_
          show own_S p e below s₁ (mkF m 63 #[.val (.int p0)] []) _
          refine XS.bipush X0.here hx rfl (hb hby d1_63) ?_
          exact k
        refine own_by sg65 ?_
        obtain ⟨T65, h65, kc65, X65, e65, E65, A65, st65⟩ := newP X0 hx hZ (hw _ (List.mem_of_getElem? (i := 7) rfl)) e0 (g := (mkF m 65 #[.val (.int p0)] [(.int (6 : Int32))])) rfl (hb hby d1_65) rfl (by decide) (cap := 6) (by decide) (by decide) (by decide) (by decide)
        obtain ⟨b65, g65⟩ : ∃ z, z = h0.size := ⟨_, rfl⟩
        rw [← g65] at A65 st65
        have g_b65 : n0 ≤ b65 := Nat.le_trans Z0 (Nat.le_of_eq g65.symm)
        have sz_b65 : h0.size ≤ b65 := Nat.le_trans K0.1 (Nat.le_of_eq g65.symm)
        have K65 := K0.ext E65
        have Z65 : n0 ≤ h65.size := Nat.le_trans Z0 E65.1
        have V65 : Arv Z h65 b65 kc65 .char (6 : Int32) [(.int (0 : Int32)), (.int (0 : Int32)), (.int (0 : Int32)), (.int (0 : Int32)), (.int (0 : Int32)), (.int (0 : Int32))] (.int (0 : Int32)) := (Arv.new A65 (by decide)).pad (pad_rep [] (.int (0 : Int32)) 6)
        refine own_by st65 ?_
        have sg71 : ∀ t, own_S p e below T65 (mkF m 71 #[.val (.int p0)] [(.int (98 : Int32)), (.int (0 : Int32)), (.ref b65), (.ref b65)]) t → own_S p e below T65 (mkF m 67 #[.val (.int p0)] [(.ref b65)]) t := by
          intro t k
          show own_S p e below T65 (mkF m 67 #[.val (.int p0)] [(.ref b65)]) _
          refine XS.dup X65.here hx rfl (hb hby d1_67) rfl rfl ?_
          show own_S p e below T65 (mkF m 68 #[.val (.int p0)] [(.ref b65), (.ref b65)]) _
          refine XS.iconst X65.here hx rfl (hb hby d1_68) ?_
          show own_S p e below T65 (mkF m 69 #[.val (.int p0)] [(.int (0 : Int32)), (.ref b65), (.ref b65)]) _
          refine XS.bipush X65.here hx rfl (hb hby d1_69) ?_
          exact k
        refine own_by sg71 ?_
        obtain ⟨cl71, Ar71, qa71, Sa71, Na71, Ha71, Ga71⟩ := id V65
        obtain ⟨T71, h71, X71, e71, W71, st71⟩ := stC X65 hx hZ e65 Ar71 (j := (0 : Int32)) (inb_of Sa71 ⟨by decide, by decide⟩) (g := (mkF m 71 #[.val (.int p0)] [(.int (98 : Int32)), (.int (0 : Int32)), (.ref b65), (.ref b65)])) rfl rfl (hb hby d1_71)
        have V71 : Arv Z h71 b65 kc65 .char (6 : Int32) [(.int (98 : Int32)), (.int (0 : Int32)), (.int (0 : Int32)), (.int (0 : Int32)), (.int (0 : Int32)), (.int (0 : Int32))] (.int (0 : Int32)) := by
          have q := Arv.set Ar71 qa71 Sa71 Na71 Ha71 Ga71 (fits_nar_char _) W71 0 rfl (Nat.le_of_ble_eq_true rfl)
          exact q
        have K71 : Keep h0 h71 [] := K65.wr W71 (Or.inr sz_b65)
        have Z71 : n0 ≤ h71.size := Nat.le_trans Z65 (Keep.of_wr W71).1
        have N71 := Fr.snoc X71 N0 g_b65
        refine own_by st71 ?_
        have sg76 : ∀ t, own_S p e below T71 (mkF m 76 #[.val (.int p0)] [(.int (121 : Int32)), (.int (1 : Int32)), (.ref b65), (.ref b65)]) t → own_S p e below T71 (mkF m 72 #[.val (.int p0)] [(.ref b65)]) t := by
          intro t k
          show own_S p e below T71 (mkF m 72 #[.val (.int p0)] [(.ref b65)]) _
          refine XS.dup X71.here hx rfl (hb hby d1_72) rfl rfl ?_
          show own_S p e below T71 (mkF m 73 #[.val (.int p0)] [(.ref b65), (.ref b65)]) _
          refine XS.iconst X71.here hx rfl (hb hby d1_73) ?_
          show own_S p e below T71 (mkF m 74 #[.val (.int p0)] [(.int (1 : Int32)), (.ref b65), (.ref b65)]) _
          refine XS.bipush X71.here hx rfl (hb hby d1_74) ?_
          exact k
        refine own_by sg76 ?_
        obtain ⟨cl76, Ar76, qa76, Sa76, Na76, Ha76, Ga76⟩ := id V71
        obtain ⟨T76, h76, X76, e76, W76, st76⟩ := stC X71 hx hZ e71 Ar76 (j := (1 : Int32)) (inb_of Sa76 ⟨by decide, by decide⟩) (g := (mkF m 76 #[.val (.int p0)] [(.int (121 : Int32)), (.int (1 : Int32)), (.ref b65), (.ref b65)])) rfl rfl (hb hby d1_76)
        have V76 : Arv Z h76 b65 kc65 .char (6 : Int32) [(.int (98 : Int32)), (.int (121 : Int32)), (.int (0 : Int32)), (.int (0 : Int32)), (.int (0 : Int32)), (.int (0 : Int32))] (.int (0 : Int32)) := by
          have q := Arv.set Ar76 qa76 Sa76 Na76 Ha76 Ga76 (fits_nar_char _) W76 1 rfl (Nat.le_of_ble_eq_true rfl)
          exact q
        have K76 : Keep h0 h76 [] := K71.wr W76 (Or.inr sz_b65)
        have Z76 : n0 ≤ h76.size := Nat.le_trans Z71 (Keep.of_wr W76).1
        have N76 := Fr.snoc X76 N71 g_b65
        refine own_by st76 ?_
        have sg81 : ∀ t, own_S p e below T76 (mkF m 81 #[.val (.int p0)] [(.int (84 : Int32)), (.int (2 : Int32)), (.ref b65), (.ref b65)]) t → own_S p e below T76 (mkF m 77 #[.val (.int p0)] [(.ref b65)]) t := by
          intro t k
          show own_S p e below T76 (mkF m 77 #[.val (.int p0)] [(.ref b65)]) _
          refine XS.dup X76.here hx rfl (hb hby d1_77) rfl rfl ?_
          show own_S p e below T76 (mkF m 78 #[.val (.int p0)] [(.ref b65), (.ref b65)]) _
          refine XS.iconst X76.here hx rfl (hb hby d1_78) ?_
          show own_S p e below T76 (mkF m 79 #[.val (.int p0)] [(.int (2 : Int32)), (.ref b65), (.ref b65)]) _
          refine XS.bipush X76.here hx rfl (hb hby d1_79) ?_
          exact k
        refine own_by sg81 ?_
        obtain ⟨cl81, Ar81, qa81, Sa81, Na81, Ha81, Ga81⟩ := id V76
        obtain ⟨T81, h81, X81, e81, W81, st81⟩ := stC X76 hx hZ e76 Ar81 (j := (2 : Int32)) (inb_of Sa81 ⟨by decide, by decide⟩) (g := (mkF m 81 #[.val (.int p0)] [(.int (84 : Int32)), (.int (2 : Int32)), (.ref b65), (.ref b65)])) rfl rfl (hb hby d1_81)
        have V81 : Arv Z h81 b65 kc65 .char (6 : Int32) [(.int (98 : Int32)), (.int (121 : Int32)), (.int (84 : Int32)), (.int (0 : Int32)), (.int (0 : Int32)), (.int (0 : Int32))] (.int (0 : Int32)) := by
          have q := Arv.set Ar81 qa81 Sa81 Na81 Ha81 Ga81 (fits_nar_char _) W81 2 rfl (Nat.le_of_ble_eq_true rfl)
          exact q
        have K81 : Keep h0 h81 [] := K76.wr W81 (Or.inr sz_b65)
        have Z81 : n0 ≤ h81.size := Nat.le_trans Z76 (Keep.of_wr W81).1
        have N81 := Fr.snoc X81 N76 g_b65
        refine own_by st81 ?_
        have sg86 : ∀ t, own_S p e below T81 (mkF m 86 #[.val (.int p0)] [(.int (121 : Int32)), (.int (3 : Int32)), (.ref b65), (.ref b65)]) t → own_S p e below T81 (mkF m 82 #[.val (.int p0)] [(.ref b65)]) t := by
          intro t k
          show own_S p e below T81 (mkF m 82 #[.val (.int p0)] [(.ref b65)]) _
          refine XS.dup X81.here hx rfl (hb hby d1_82) rfl rfl ?_
          show own_S p e below T81 (mkF m 83 #[.val (.int p0)] [(.ref b65), (.ref b65)]) _
          refine XS.iconst X81.here hx rfl (hb hby d1_83) ?_
          show own_S p e below T81 (mkF m 84 #[.val (.int p0)] [(.int (3 : Int32)), (.ref b65), (.ref b65)]) _
          refine XS.bipush X81.here hx rfl (hb hby d1_84) ?_
          exact k
        refine own_by sg86 ?_
        obtain ⟨cl86, Ar86, qa86, Sa86, Na86, Ha86, Ga86⟩ := id V81
        obtain ⟨T86, h86, X86, e86, W86, st86⟩ := stC X81 hx hZ e81 Ar86 (j := (3 : Int32)) (inb_of Sa86 ⟨by decide, by decide⟩) (g := (mkF m 86 #[.val (.int p0)] [(.int (121 : Int32)), (.int (3 : Int32)), (.ref b65), (.ref b65)])) rfl rfl (hb hby d1_86)
        have V86 : Arv Z h86 b65 kc65 .char (6 : Int32) [(.int (98 : Int32)), (.int (121 : Int32)), (.int (84 : Int32)), (.int (121 : Int32)), (.int (0 : Int32)), (.int (0 : Int32))] (.int (0 : Int32)) := by
          have q := Arv.set Ar86 qa86 Sa86 Na86 Ha86 Ga86 (fits_nar_char _) W86 3 rfl (Nat.le_of_ble_eq_true rfl)
          exact q
        have K86 : Keep h0 h86 [] := K81.wr W86 (Or.inr sz_b65)
        have Z86 : n0 ≤ h86.size := Nat.le_trans Z81 (Keep.of_wr W86).1
        have N86 := Fr.snoc X86 N81 g_b65
        refine own_by st86 ?_
        have sg91 : ∀ t, own_S p e below T86 (mkF m 91 #[.val (.int p0)] [(.int (112 : Int32)), (.int (4 : Int32)), (.ref b65), (.ref b65)]) t → own_S p e below T86 (mkF m 87 #[.val (.int p0)] [(.ref b65)]) t := by
          intro t k
          show own_S p e below T86 (mkF m 87 #[.val (.int p0)] [(.ref b65)]) _
          refine XS.dup X86.here hx rfl (hb hby d1_87) rfl rfl ?_
          show own_S p e below T86 (mkF m 88 #[.val (.int p0)] [(.ref b65), (.ref b65)]) _
          refine XS.iconst X86.here hx rfl (hb hby d1_88) ?_
          show own_S p e below T86 (mkF m 89 #[.val (.int p0)] [(.int (4 : Int32)), (.ref b65), (.ref b65)]) _
          refine XS.bipush X86.here hx rfl (hb hby d1_89) ?_
          exact k
        refine own_by sg91 ?_
        obtain ⟨cl91, Ar91, qa91, Sa91, Na91, Ha91, Ga91⟩ := id V86
        obtain ⟨T91, h91, X91, e91, W91, st91⟩ := stC X86 hx hZ e86 Ar91 (j := (4 : Int32)) (inb_of Sa91 ⟨by decide, by decide⟩) (g := (mkF m 91 #[.val (.int p0)] [(.int (112 : Int32)), (.int (4 : Int32)), (.ref b65), (.ref b65)])) rfl rfl (hb hby d1_91)
        have V91 : Arv Z h91 b65 kc65 .char (6 : Int32) [(.int (98 : Int32)), (.int (121 : Int32)), (.int (84 : Int32)), (.int (121 : Int32)), (.int (112 : Int32)), (.int (0 : Int32))] (.int (0 : Int32)) := by
          have q := Arv.set Ar91 qa91 Sa91 Na91 Ha91 Ga91 (fits_nar_char _) W91 4 rfl (Nat.le_of_ble_eq_true rfl)
          exact q
        have K91 : Keep h0 h91 [] := K86.wr W91 (Or.inr sz_b65)
        have Z91 : n0 ≤ h91.size := Nat.le_trans Z86 (Keep.of_wr W91).1
        have N91 := Fr.snoc X91 N86 g_b65
        refine own_by st91 ?_
        have sg96 : ∀ t, own_S p e below T91 (mkF m 96 #[.val (.int p0)] [(.int (101 : Int32)), (.int (5 : Int32)), (.ref b65), (.ref b65)]) t → own_S p e below T91 (mkF m 92 #[.val (.int p0)] [(.ref b65)]) t := by
          intro t k
          show own_S p e below T91 (mkF m 92 #[.val (.int p0)] [(.ref b65)]) _
          refine XS.dup X91.here hx rfl (hb hby d1_92) rfl rfl ?_
          show own_S p e below T91 (mkF m 93 #[.val (.int p0)] [(.ref b65), (.ref b65)]) _
          refine XS.iconst X91.here hx rfl (hb hby d1_93) ?_
          show own_S p e below T91 (mkF m 94 #[.val (.int p0)] [(.int (5 : Int32)), (.ref b65), (.ref b65)]) _
          refine XS.bipush X91.here hx rfl (hb hby d1_94) ?_
          exact k
        refine own_by sg96 ?_
        obtain ⟨cl96, Ar96, qa96, Sa96, Na96, Ha96, Ga96⟩ := id V91
        obtain ⟨T96, h96, X96, e96, W96, st96⟩ := stC X91 hx hZ e91 Ar96 (j := (5 : Int32)) (inb_of Sa96 ⟨by decide, by decide⟩) (g := (mkF m 96 #[.val (.int p0)] [(.int (101 : Int32)), (.int (5 : Int32)), (.ref b65), (.ref b65)])) rfl rfl (hb hby d1_96)
        have V96 : Arv Z h96 b65 kc65 .char (6 : Int32) [(.int (98 : Int32)), (.int (121 : Int32)), (.int (84 : Int32)), (.int (121 : Int32)), (.int (112 : Int32)), (.int (101 : Int32))] (.int (0 : Int32)) := by
          have q := Arv.set Ar96 qa96 Sa96 Na96 Ha96 Ga96 (fits_nar_char _) W96 5 rfl (Nat.le_of_ble_eq_true rfl)
          exact q
        have K96 : Keep h0 h96 [] := K91.wr W96 (Or.inr sz_b65)
        have Z96 : n0 ≤ h96.size := Nat.le_trans Z91 (Keep.of_wr W96).1
        have N96 := Fr.snoc X96 N91 g_b65
        refine own_by st96 ?_
        obtain ⟨fs, hr, hrun, hended, hW, hsame⟩ := X96.leave (v := some (.ref b65)) (fun h => by rw [Bd.returns] at h; cases h)
        refine ⟨_, _, ?_, hrun, hended, _, _, rfl, ?_, ⟨_, rfl⟩, hW, hsame.mono (by decide) (by decide)⟩
        · show Steps p.tables e below (T96.setTop (mkF m 97 #[.val (.int p0)] [(.ref b65)])) _
          jvm_step X96.here [X96.here.top, hx, (hb hby d1_97), X96.method', Bd.returns, Value.isRef, FieldType.isReference]
          first | (intro acts; rw [hr _ acts rfl rfl rfl]) | rw [hr _ _ rfl rfl rfl]
          exact Steps.refl _
        · show Q1 Z p0 h0 n0 _ T96.heap _
          rw [e96]
          exact ⟨_, _, rfl, sz_b65, N96, K96, (by unfold own_word; rw [if_neg hc1, if_neg hc20, if_pos hc60]; exact V96)⟩
      · have sg100 : ∀ t, own_S p e below s₁ (mkF m 100 #[.val (.int p0)] [(.int (11 : Int32))]) t → own_S p e below s₁ (mkF m 60 #[.val (.int p0)] [(.int (2 : Int32)), (.int p0)]) t := by
          intro t k
          show own_S p e below s₁ (mkF m 60 #[.val (.int p0)] [(.int (2 : Int32)), (.int p0)]) _
          refine XS.icmpYes X0.here hx rfl (pc0 := 60) (pc' := 98) rfl (hb hby d1_60) rfl (feq hc60).2 (by decide) (by decide) ?_
          show own_S p e below s₁ (mkF m 98 #[.val (.int p0)] []) _
          refine XS.bipush X0.here hx rfl (hb hby d1_98) ?_
          exact k
        refine own_by sg100 ?_
        obtain ⟨T100, h100, kc100, X100, e100, E100, A100, st100⟩ := newP X0 hx hZ (hw _ (List.mem_of_getElem? (i := 7) rfl)) e0 (g := (mkF m 100 #[.val (.int p0)] [(.int (11 : Int32))])) rfl (hb hby d1_100) rfl (by decide) (cap := 11) (by decide) (by decide) (by decide) (by decide)
        obtain ⟨b100, g100⟩ : ∃ z, z = h0.size := ⟨_, rfl⟩
        rw [← g100] at A100 st100
        have g_b100 : n0 ≤ b100 := Nat.le_trans Z0 (Nat.le_of_eq g100.symm)
        have sz_b100 : h0.size ≤ b100 := Nat.le_trans K0.1 (Nat.le_of_eq g100.symm)
        have K100 := K0.ext E100
        have Z100 : n0 ≤ h100.size := Nat.le_trans Z0 E100.1
        have V100 : Arv Z h100 b100 kc100 .char (11 : Int32) [(.int (0 : Int32)), (.int (0 : Int32)), (.int (0 : Int32)), (.int (0 : Int32)), (.int (0 : Int32)), (.int (0 : Int32)), (.int (0 : Int32)), (.int (0 : Int32)), (.int (0 : Int32)), (.int (0 : Int32)), (.int (0 : Int32))] (.int (0 : Int32)) := (Arv.new A100 (by decide)).pad (pad_rep [] (.int (0 : Int32)) 11)
        refine own_by st100 ?_
        have sg106 : ∀ t, own_S p e below T100 (mkF m 106 #[.val (.int p0)] [(.int (99 : Int32)), (.int (0 : Int32)), (.ref b100), (.ref b100)]) t → own_S p e below T100 (mkF m 102 #[.val (.int p0)] [(.ref b100)]) t := by
          intro t k
          show own_S p e below T100 (mkF m 102 #[.val (.int p0)] [(.ref b100)]) _
          refine XS.dup X100.here hx rfl (hb hby d1_102) rfl rfl ?_
          show own_S p e below T100 (mkF m 103 #[.val (.int p0)] [(.ref b100), (.ref b100)]) _
          refine XS.iconst X100.here hx rfl (hb hby d1_103) ?_
          show own_S p e below T100 (mkF m 104 #[.val (.int p0)] [(.int (0 : Int32)), (.ref b100), (.ref b100)]) _
          refine XS.bipush X100.here hx rfl (hb hby d1_104) ?_
          exact k
        refine own_by sg106 ?_
        obtain ⟨cl106, Ar106, qa106, Sa106, Na106, Ha106, Ga106⟩ := id V100
        obtain ⟨T106, h106, X106, e106, W106, st106⟩ := stC X100 hx hZ e100 Ar106 (j := (0 : Int32)) (inb_of Sa106 ⟨by decide, by decide⟩) (g := (mkF m 106 #[.val (.int p0)] [(.int (99 : Int32)), (.int (0 : Int32)), (.ref b100), (.ref b100)])) rfl rfl (hb hby d1_106)
        have V106 : Arv Z h106 b100 kc100 .char (11 : Int32) [(.int (99 : Int32)), (.int (0 : Int32)), (.int (0 : Int32)), (.int (0 : Int32)), (.int (0 : Int32)), (.int (0 : Int32)), (.int (0 : Int32)), (.int (0 : Int32)), (.int (0 : Int32)), (.int (0 : Int32)), (.int (0 : Int32))] (.int (0 : Int32)) := by
          have q := Arv.set Ar106 qa106 Sa106 Na106 Ha106 Ga106 (fits_nar_char _) W106 0 rfl (Nat.le_of_ble_eq_true rfl)
          exact q
        have K106 : Keep h0 h106 [] := K100.wr W106 (Or.inr sz_b100)
        have Z106 : n0 ≤ h106.size := Nat.le_trans Z100 (Keep.of_wr W106).1
        have N106 := Fr.snoc X106 N0 g_b100
        refine own_by st106 ?_
        have sg111 : ∀ t, own_S p e below T106 (mkF m 111 #[.val (.int p0)] [(.int (111 : Int32)), (.int (1 : Int32)), (.ref b100), (.ref b100)]) t → own_S p e below T106 (mkF m 107 #[.val (.int p0)] [(.ref b100)]) t := by
          intro t k
          show own_S p e below T106 (mkF m 107 #[.val (.int p0)] [(.ref b100)]) _
          refine XS.dup X106.here hx rfl (hb hby d1_107) rfl rfl ?_
          show own_S p e below T106 (mkF m 108 #[.val (.int p0)] [(.ref b100), (.ref b100)]) _
          refine XS.iconst X106.here hx rfl (hb hby d1_108) ?_
          show own_S p e below T106 (mkF m 109 #[.val (.int p0)] [(.int (1 : Int32)), (.ref b100), (.ref b100)]) _
          refine XS.bipush X106.here hx rfl (hb hby d1_109) ?_
          exact k
        refine own_by sg111 ?_
        obtain ⟨cl111, Ar111, qa111, Sa111, Na111, Ha111, Ga111⟩ := id V106
        obtain ⟨T111, h111, X111, e111, W111, st111⟩ := stC X106 hx hZ e106 Ar111 (j := (1 : Int32)) (inb_of Sa111 ⟨by decide, by decide⟩) (g := (mkF m 111 #[.val (.int p0)] [(.int (111 : Int32)), (.int (1 : Int32)), (.ref b100), (.ref b100)])) rfl rfl (hb hby d1_111)
        have V111 : Arv Z h111 b100 kc100 .char (11 : Int32) [(.int (99 : Int32)), (.int (111 : Int32)), (.int (0 : Int32)), (.int (0 : Int32)), (.int (0 : Int32)), (.int (0 : Int32)), (.int (0 : Int32)), (.int (0 : Int32)), (.int (0 : Int32)), (.int (0 : Int32)), (.int (0 : Int32))] (.int (0 : Int32)) := by
          have q := Arv.set Ar111 qa111 Sa111 Na111 Ha111 Ga111 (fits_nar_char _) W111 1 rfl (Nat.le_of_ble_eq_true rfl)
          exact q
        have K111 : Keep h0 h111 [] := K106.wr W111 (Or.inr sz_b100)
        have Z111 : n0 ≤ h111.size := Nat.le_trans Z106 (Keep.of_wr W111).1
        have N111 := Fr.snoc X111 N106 g_b100
        refine own_by st111 ?_
        have sg116 : ∀ t, own_S p e below T111 (mkF m 116 #[.val (.int p0)] [(.int (110 : Int32)), (.int (2 : Int32)), (.ref b100), (.ref b100)]) t → own_S p e below T111 (mkF m 112 #[.val (.int p0)] [(.ref b100)]) t := by
          intro t k
          show own_S p e below T111 (mkF m 112 #[.val (.int p0)] [(.ref b100)]) _
          refine XS.dup X111.here hx rfl (hb hby d1_112) rfl rfl ?_
          show own_S p e below T111 (mkF m 113 #[.val (.int p0)] [(.ref b100), (.ref b100)]) _
          refine XS.iconst X111.here hx rfl (hb hby d1_113) ?_
          show own_S p e below T111 (mkF m 114 #[.val (.int p0)] [(.int (2 : Int32)), (.ref b100), (.ref b100)]) _
          refine XS.bipush X111.here hx rfl (hb hby d1_114) ?_
          exact k
        refine own_by sg116 ?_
        obtain ⟨cl116, Ar116, qa116, Sa116, Na116, Ha116, Ga116⟩ := id V111
        obtain ⟨T116, h116, X116, e116, W116, st116⟩ := stC X111 hx hZ e111 Ar116 (j := (2 : Int32)) (inb_of Sa116 ⟨by decide, by decide⟩) (g := (mkF m 116 #[.val (.int p0)] [(.int (110 : Int32)), (.int (2 : Int32)), (.ref b100), (.ref b100)])) rfl rfl (hb hby d1_116)
        have V116 : Arv Z h116 b100 kc100 .char (11 : Int32) [(.int (99 : Int32)), (.int (111 : Int32)), (.int (110 : Int32)), (.int (0 : Int32)), (.int (0 : Int32)), (.int (0 : Int32)), (.int (0 : Int32)), (.int (0 : Int32)), (.int (0 : Int32)), (.int (0 : Int32)), (.int (0 : Int32))] (.int (0 : Int32)) := by
          have q := Arv.set Ar116 qa116 Sa116 Na116 Ha116 Ga116 (fits_nar_char _) W116 2 rfl (Nat.le_of_ble_eq_true rfl)
          exact q
        have K116 : Keep h0 h116 [] := K111.wr W116 (Or.inr sz_b100)
        have Z116 : n0 ≤ h116.size := Nat.le_trans Z111 (Keep.of_wr W116).1
        have N116 := Fr.snoc X116 N111 g_b100
        refine own_by st116 ?_
        have sg121 : ∀ t, own_S p e below T116 (mkF m 121 #[.val (.int p0)] [(.int (115 : Int32)), (.int (3 : Int32)), (.ref b100), (.ref b100)]) t → own_S p e below T116 (mkF m 117 #[.val (.int p0)] [(.ref b100)]) t := by
          intro t k
          show own_S p e below T116 (mkF m 117 #[.val (.int p0)] [(.ref b100)]) _
          refine XS.dup X116.here hx rfl (hb hby d1_117) rfl rfl ?_
          show own_S p e below T116 (mkF m 118 #[.val (.int p0)] [(.ref b100), (.ref b100)]) _
          refine XS.iconst X116.here hx rfl (hb hby d1_118) ?_
          show own_S p e below T116 (mkF m 119 #[.val (.int p0)] [(.int (3 : Int32)), (.ref b100), (.ref b100)]) _
          refine XS.bipush X116.here hx rfl (hb hby d1_119) ?_
          exact k
        refine own_by sg121 ?_
        obtain ⟨cl121, Ar121, qa121, Sa121, Na121, Ha121, Ga121⟩ := id V116
        obtain ⟨T121, h121, X121, e121, W121, st121⟩ := stC X116 hx hZ e116 Ar121 (j := (3 : Int32)) (inb_of Sa121 ⟨by decide, by decide⟩) (g := (mkF m 121 #[.val (.int p0)] [(.int (115 : Int32)), (.int (3 : Int32)), (.ref b100), (.ref b100)])) rfl rfl (hb hby d1_121)
        have V121 : Arv Z h121 b100 kc100 .char (11 : Int32) [(.int (99 : Int32)), (.int (111 : Int32)), (.int (110 : Int32)), (.int (115 : Int32)), (.int (0 : Int32)), (.int (0 : Int32)), (.int (0 : Int32)), (.int (0 : Int32)), (.int (0 : Int32)), (.int (0 : Int32)), (.int (0 : Int32))] (.int (0 : Int32)) := by
          have q := Arv.set Ar121 qa121 Sa121 Na121 Ha121 Ga121 (fits_nar_char _) W121 3 rfl (Nat.le_of_ble_eq_true rfl)
          exact q
        have K121 : Keep h0 h121 [] := K116.wr W121 (Or.inr sz_b100)
        have Z121 : n0 ≤ h121.size := Nat.le_trans Z116 (Keep.of_wr W121).1
        have N121 := Fr.snoc X121 N116 g_b100
        refine own_by st121 ?_
        have sg126 : ∀ t, own_S p e below T121 (mkF m 126 #[.val (.int p0)] [(.int (116 : Int32)), (.int (4 : Int32)), (.ref b100), (.ref b100)]) t → own_S p e below T121 (mkF m 122 #[.val (.int p0)] [(.ref b100)]) t := by
          intro t k
          show own_S p e below T121 (mkF m 122 #[.val (.int p0)] [(.ref b100)]) _
          refine XS.dup X121.here hx rfl (hb hby d1_122) rfl rfl ?_
          show own_S p e below T121 (mkF m 123 #[.val (.int p0)] [(.ref b100), (.ref b100)]) _
          refine XS.iconst X121.here hx rfl (hb hby d1_123) ?_
          show own_S p e below T121 (mkF m 124 #[.val (.int p0)] [(.int (4 : Int32)), (.ref b100), (.ref b100)]) _
          refine XS.bipush X121.here hx rfl (hb hby d1_124) ?_
          exact k
        refine own_by sg126 ?_
        obtain ⟨cl126, Ar126, qa126, Sa126, Na126, Ha126, Ga126⟩ := id V121
        obtain ⟨T126, h126, X126, e126, W126, st126⟩ := stC X121 hx hZ e121 Ar126 (j := (4 : Int32)) (inb_of Sa126 ⟨by decide, by decide⟩) (g := (mkF m 126 #[.val (.int p0)] [(.int (116 : Int32)), (.int (4 : Int32)), (.ref b100), (.ref b100)])) rfl rfl (hb hby d1_126)
        have V126 : Arv Z h126 b100 kc100 .char (11 : Int32) [(.int (99 : Int32)), (.int (111 : Int32)), (.int (110 : Int32)), (.int (115 : Int32)), (.int (116 : Int32)), (.int (0 : Int32)), (.int (0 : Int32)), (.int (0 : Int32)), (.int (0 : Int32)), (.int (0 : Int32)), (.int (0 : Int32))] (.int (0 : Int32)) := by
          have q := Arv.set Ar126 qa126 Sa126 Na126 Ha126 Ga126 (fits_nar_char _) W126 4 rfl (Nat.le_of_ble_eq_true rfl)
          exact q
        have K126 : Keep h0 h126 [] := K121.wr W126 (Or.inr sz_b100)
        have Z126 : n0 ≤ h126.size := Nat.le_trans Z121 (Keep.of_wr W126).1
        have N126 := Fr.snoc X126 N121 g_b100
        refine own_by st126 ?_
        have sg131 : ∀ t, own_S p e below T126 (mkF m 131 #[.val (.int p0)] [(.int (114 : Int32)), (.int (5 : Int32)), (.ref b100), (.ref b100)]) t → own_S p e below T126 (mkF m 127 #[.val (.int p0)] [(.ref b100)]) t := by
          intro t k
          show own_S p e below T126 (mkF m 127 #[.val (.int p0)] [(.ref b100)]) _
          refine XS.dup X126.here hx rfl (hb hby d1_127) rfl rfl ?_
          show own_S p e below T126 (mkF m 128 #[.val (.int p0)] [(.ref b100), (.ref b100)]) _
          refine XS.iconst X126.here hx rfl (hb hby d1_128) ?_
          show own_S p e below T126 (mkF m 129 #[.val (.int p0)] [(.int (5 : Int32)), (.ref b100), (.ref b100)]) _
          refine XS.bipush X126.here hx rfl (hb hby d1_129) ?_
          exact k
        refine own_by sg131 ?_
        obtain ⟨cl131, Ar131, qa131, Sa131, Na131, Ha131, Ga131⟩ := id V126
        obtain ⟨T131, h131, X131, e131, W131, st131⟩ := stC X126 hx hZ e126 Ar131 (j := (5 : Int32)) (inb_of Sa131 ⟨by decide, by decide⟩) (g := (mkF m 131 #[.val (.int p0)] [(.int (114 : Int32)), (.int (5 : Int32)), (.ref b100), (.ref b100)])) rfl rfl (hb hby d1_131)
        have V131 : Arv Z h131 b100 kc100 .char (11 : Int32) [(.int (99 : Int32)), (.int (111 : Int32)), (.int (110 : Int32)), (.int (115 : Int32)), (.int (116 : Int32)), (.int (114 : Int32)), (.int (0 : Int32)), (.int (0 : Int32)), (.int (0 : Int32)), (.int (0 : Int32)), (.int (0 : Int32))] (.int (0 : Int32)) := by
          have q := Arv.set Ar131 qa131 Sa131 Na131 Ha131 Ga131 (fits_nar_char _) W131 5 rfl (Nat.le_of_ble_eq_true rfl)
          exact q
        have K131 : Keep h0 h131 [] := K126.wr W131 (Or.inr sz_b100)
        have Z131 : n0 ≤ h131.size := Nat.le_trans Z126 (Keep.of_wr W131).1
        have N131 := Fr.snoc X131 N126 g_b100
        refine own_by st131 ?_
        have sg137 : ∀ t, own_S p e below T131 (mkF m 137 #[.val (.int p0)] [(.int (117 : Int32)), (.int (6 : Int32)), (.ref b100), (.ref b100)]) t → own_S p e below T131 (mkF m 132 #[.val (.int p0)] [(.ref b100)]) t := by
          intro t k
          show own_S p e below T131 (mkF m 132 #[.val (.int p0)] [(.ref b100)]) _
          refine XS.dup X131.here hx rfl (hb hby d1_132) rfl rfl ?_
          show own_S p e below T131 (mkF m 133 #[.val (.int p0)] [(.ref b100), (.ref b100)]) _
          refine XS.bipush X131.here hx rfl (hb hby d1_133) ?_
          show own_S p e below T131 (mkF m 135 #[.val (.int p0)] [(.int (6 : Int32)), (.ref b100), (.ref b100)]) _
          refine XS.bipush X131.here hx rfl (hb hby d1_135) ?_
          exact k
        refine own_by sg137 ?_
        obtain ⟨cl137, Ar137, qa137, Sa137, Na137, Ha137, Ga137⟩ := id V131
        obtain ⟨T137, h137, X137, e137, W137, st137⟩ := stC X131 hx hZ e131 Ar137 (j := (6 : Int32)) (inb_of Sa137 ⟨by decide, by decide⟩) (g := (mkF m 137 #[.val (.int p0)] [(.int (117 : Int32)), (.int (6 : Int32)), (.ref b100), (.ref b100)])) rfl rfl (hb hby d1_137)
        have V137 : Arv Z h137 b100 kc100 .char (11 : Int32) [(.int (99 : Int32)), (.int (111 : Int32)), (.int (110 : Int32)), (.int (115 : Int32)), (.int (116 : Int32)), (.int (114 : Int32)), (.int (117 : Int32)), (.int (0 : Int32)), (.int (0 : Int32)), (.int (0 : Int32)), (.int (0 : Int32))] (.int (0 : Int32)) := by
          have q := Arv.set Ar137 qa137 Sa137 Na137 Ha137 Ga137 (fits_nar_char _) W137 6 rfl (Nat.le_of_ble_eq_true rfl)
          exact q
        have K137 : Keep h0 h137 [] := K131.wr W137 (Or.inr sz_b100)
        have Z137 : n0 ≤ h137.size := Nat.le_trans Z131 (Keep.of_wr W137).1
        have N137 := Fr.snoc X137 N131 g_b100
        refine own_by st137 ?_
        have sg143 : ∀ t, own_S p e below T137 (mkF m 143 #[.val (.int p0)] [(.int (99 : Int32)), (.int (7 : Int32)), (.ref b100), (.ref b100)]) t → own_S p e below T137 (mkF m 138 #[.val (.int p0)] [(.ref b100)]) t := by
          intro t k
          show own_S p e below T137 (mkF m 138 #[.val (.int p0)] [(.ref b100)]) _
          refine XS.dup X137.here hx rfl (hb hby d1_138) rfl rfl ?_
          show own_S p e below T137 (mkF m 139 #[.val (.int p0)] [(.ref b100), (.ref b100)]) _
          refine XS.bipush X137.here hx rfl (hb hby d1_139) ?_
          show own_S p e below T137 (mkF m 141 #[.val (.int p0)] [(.int (7 : Int32)), (.ref b100), (.ref b100)]) _
          refine XS.bipush X137.here hx rfl (hb hby d1_141) ?_
          exact k
        refine own_by sg143 ?_
        obtain ⟨cl143, Ar143, qa143, Sa143, Na143, Ha143, Ga143⟩ := id V137
        obtain ⟨T143, h143, X143, e143, W143, st143⟩ := stC X137 hx hZ e137 Ar143 (j := (7 : Int32)) (inb_of Sa143 ⟨by decide, by decide⟩) (g := (mkF m 143 #[.val (.int p0)] [(.int (99 : Int32)), (.int (7 : Int32)), (.ref b100), (.ref b100)])) rfl rfl (hb hby d1_143)
        have V143 : Arv Z h143 b100 kc100 .char (11 : Int32) [(.int (99 : Int32)), (.int (111 : Int32)), (.int (110 : Int32)), (.int (115 : Int32)), (.int (116 : Int32)), (.int (114 : Int32)), (.int (117 : Int32)), (.int (99 : Int32)), (.int (0 : Int32)), (.int (0 : Int32)), (.int (0 : Int32))] (.int (0 : Int32)) := by
          have q := Arv.set Ar143 qa143 Sa143 Na143 Ha143 Ga143 (fits_nar_char _) W143 7 rfl (Nat.le_of_ble_eq_true rfl)
          exact q
        have K143 : Keep h0 h143 [] := K137.wr W143 (Or.inr sz_b100)
        have Z143 : n0 ≤ h143.size := Nat.le_trans Z137 (Keep.of_wr W143).1
        have N143 := Fr.snoc X143 N137 g_b100
        refine own_by st143 ?_
        have sg149 : ∀ t, own_S p e below T143 (mkF m 149 #[.val (.int p0)] [(.int (116 : Int32)), (.int (8 : Int32)), (.ref b100), (.ref b100)]) t → own_S p e below T143 (mkF m 144 #[.val (.int p0)] [(.ref b100)]) t := by
          intro t k
          show own_S p e below T143 (mkF m 144 #[.val (.int p0)] [(.ref b100)]) _
          refine XS.dup X143.here hx rfl (hb hby d1_144) rfl rfl ?_
          show own_S p e below T143 (mkF m 145 #[.val (.int p0)] [(.ref b100), (.ref b100)]) _
          refine XS.bipush X143.here hx rfl (hb hby d1_145) ?_
          show own_S p e below T143 (mkF m 147 #[.val (.int p0)] [(.int (8 : Int32)), (.ref b100), (.ref b100)]) _
          refine XS.bipush X143.here hx rfl (hb hby d1_147) ?_
          exact k
        refine own_by sg149 ?_
        obtain ⟨cl149, Ar149, qa149, Sa149, Na149, Ha149, Ga149⟩ := id V143
        obtain ⟨T149, h149, X149, e149, W149, st149⟩ := stC X143 hx hZ e143 Ar149 (j := (8 : Int32)) (inb_of Sa149 ⟨by decide, by decide⟩) (g := (mkF m 149 #[.val (.int p0)] [(.int (116 : Int32)), (.int (8 : Int32)), (.ref b100), (.ref b100)])) rfl rfl (hb hby d1_149)
        have V149 : Arv Z h149 b100 kc100 .char (11 : Int32) [(.int (99 : Int32)), (.int (111 : Int32)), (.int (110 : Int32)), (.int (115 : Int32)), (.int (116 : Int32)), (.int (114 : Int32)), (.int (117 : Int32)), (.int (99 : Int32)), (.int (116 : Int32)), (.int (0 : Int32)), (.int (0 : Int32))] (.int (0 : Int32)) := by
          have q := Arv.set Ar149 qa149 Sa149 Na149 Ha149 Ga149 (fits_nar_char _) W149 8 rfl (Nat.le_of_ble_eq_true rfl)
          exact q
        have K149 : Keep h0 h149 [] := K143.wr W149 (Or.inr sz_b100)
        have Z149 : n0 ≤ h149.size := Nat.le_trans Z143 (Keep.of_wr W149).1
        have N149 := Fr.snoc X149 N143 g_b100
        refine own_by st149 ?_
        have sg155 : ∀ t, own_S p e below T149 (mkF m 155 #[.val (.int p0)] [(.int (111 : Int32)), (.int (9 : Int32)), (.ref b100), (.ref b100)]) t → own_S p e below T149 (mkF m 150 #[.val (.int p0)] [(.ref b100)]) t := by
          intro t k
          show own_S p e below T149 (mkF m 150 #[.val (.int p0)] [(.ref b100)]) _
          refine XS.dup X149.here hx rfl (hb hby d1_150) rfl rfl ?_
          show own_S p e below T149 (mkF m 151 #[.val (.int p0)] [(.ref b100), (.ref b100)]) _
          refine XS.bipush X149.here hx rfl (hb hby d1_151) ?_
          show own_S p e below T149 (mkF m 153 #[.val (.int p0)] [(.int (9 : Int32)), (.ref b100), (.ref b100)]) _
          refine XS.bipush X149.here hx rfl (hb hby d1_153) ?_
          exact k
        refine own_by sg155 ?_
        obtain ⟨cl155, Ar155, qa155, Sa155, Na155, Ha155, Ga155⟩ := id V149
        obtain ⟨T155, h155, X155, e155, W155, st155⟩ := stC X149 hx hZ e149 Ar155 (j := (9 : Int32)) (inb_of Sa155 ⟨by decide, by decide⟩) (g := (mkF m 155 #[.val (.int p0)] [(.int (111 : Int32)), (.int (9 : Int32)), (.ref b100), (.ref b100)])) rfl rfl (hb hby d1_155)
        have V155 : Arv Z h155 b100 kc100 .char (11 : Int32) [(.int (99 : Int32)), (.int (111 : Int32)), (.int (110 : Int32)), (.int (115 : Int32)), (.int (116 : Int32)), (.int (114 : Int32)), (.int (117 : Int32)), (.int (99 : Int32)), (.int (116 : Int32)), (.int (111 : Int32)), (.int (0 : Int32))] (.int (0 : Int32)) := by
          have q := Arv.set Ar155 qa155 Sa155 Na155 Ha155 Ga155 (fits_nar_char _) W155 9 rfl (Nat.le_of_ble_eq_true rfl)
          exact q
        have K155 : Keep h0 h155 [] := K149.wr W155 (Or.inr sz_b100)
        have Z155 : n0 ≤ h155.size := Nat.le_trans Z149 (Keep.of_wr W155).1
        have N155 := Fr.snoc X155 N149 g_b100
        refine own_by st155 ?_
        have sg161 : ∀ t, own_S p e below T155 (mkF m 161 #[.val (.int p0)] [(.int (114 : Int32)), (.int (10 : Int32)), (.ref b100), (.ref b100)]) t → own_S p e below T155 (mkF m 156 #[.val (.int p0)] [(.ref b100)]) t := by
          intro t k
          show own_S p e below T155 (mkF m 156 #[.val (.int p0)] [(.ref b100)]) _
          refine XS.dup X155.here hx rfl (hb hby d1_156) rfl rfl ?_
          show own_S p e below T155 (mkF m 157 #[.val (.int p0)] [(.ref b100), (.ref b100)]) _
          refine XS.bipush X155.here hx rfl (hb hby d1_157) ?_
          show own_S p e below T155 (mkF m 159 #[.val (.int p0)] [(.int (10 : Int32)), (.ref b100), (.ref b100)]) _
          refine XS.bipush X155.here hx rfl (hb hby d1_159) ?_
          exact k
        refine own_by sg161 ?_
        obtain ⟨cl161, Ar161, qa161, Sa161, Na161, Ha161, Ga161⟩ := id V155
        obtain ⟨T161, h161, X161, e161, W161, st161⟩ := stC X155 hx hZ e155 Ar161 (j := (10 : Int32)) (inb_of Sa161 ⟨by decide, by decide⟩) (g := (mkF m 161 #[.val (.int p0)] [(.int (114 : Int32)), (.int (10 : Int32)), (.ref b100), (.ref b100)])) rfl rfl (hb hby d1_161)
        have V161 : Arv Z h161 b100 kc100 .char (11 : Int32) [(.int (99 : Int32)), (.int (111 : Int32)), (.int (110 : Int32)), (.int (115 : Int32)), (.int (116 : Int32)), (.int (114 : Int32)), (.int (117 : Int32)), (.int (99 : Int32)), (.int (116 : Int32)), (.int (111 : Int32)), (.int (114 : Int32))] (.int (0 : Int32)) := by
          have q := Arv.set Ar161 qa161 Sa161 Na161 Ha161 Ga161 (fits_nar_char _) W161 10 rfl (Nat.le_of_ble_eq_true rfl)
          exact q
        have K161 : Keep h0 h161 [] := K155.wr W161 (Or.inr sz_b100)
        have Z161 : n0 ≤ h161.size := Nat.le_trans Z155 (Keep.of_wr W161).1
        have N161 := Fr.snoc X161 N155 g_b100
        refine own_by st161 ?_
        obtain ⟨fs, hr, hrun, hended, hW, hsame⟩ := X161.leave (v := some (.ref b100)) (fun h => by rw [Bd.returns] at h; cases h)
        refine ⟨_, _, ?_, hrun, hended, _, _, rfl, ?_, ⟨_, rfl⟩, hW, hsame.mono (by decide) (by decide)⟩
        · show Steps p.tables e below (T161.setTop (mkF m 162 #[.val (.int p0)] [(.ref b100)])) _
          jvm_step X161.here [X161.here.top, hx, (hb hby d1_162), X161.method', Bd.returns, Value.isRef, FieldType.isReference]
          first | (intro acts; rw [hr _ acts rfl rfl rfl]) | rw [hr _ _ rfl rfl rfl]
          exact Steps.refl _
        · show Q1 Z p0 h0 n0 _ T161.heap _
          rw [e161]
          exact ⟨_, _, rfl, sz_b100, N161, K161, (by unfold own_word; rw [if_neg hc1, if_neg hc20, if_neg hc60]; exact V161)⟩
theorem d13_0 : decode method_5_code 0 = .ok (.iload_n 0, 1) := by decide +kernel
theorem d13_1 : decode method_5_code 1 = .ok (.ifCond .ne 12, 3) := by decide +kernel
theorem d13_4 : decode method_5_code 4 = .ok (.iconst 1, 1) := by decide +kernel
theorem d13_5 : decode method_5_code 5 = .ok (.newarray .char, 2) := by decide +kernel
theorem d13_7 : decode method_5_code 7 = .ok (.dup, 1) := by decide +kernel
theorem d13_8 : decode method_5_code 8 = .ok (.iconst 0, 1) := by decide +kernel
theorem d13_9 : decode method_5_code 9 = .ok (.bipush 110, 2) := by decide +kernel
theorem d13_11 : decode method_5_code 11 = .ok (.castore, 1) := by decide +kernel
theorem d13_12 : decode method_5_code 12 = .ok (.areturn, 1) := by decide +kernel
theorem d13_13 : decode method_5_code 13 = .ok (.iload_n 0, 1) := by decide +kernel
theorem d13_14 : decode method_5_code 14 = .ok (.iconst 1, 1) := by decide +kernel
theorem d13_15 : decode method_5_code 15 = .ok (.if_icmp .ne 32, 3) := by decide +kernel
theorem d13_18 : decode method_5_code 18 = .ok (.iconst 5, 1) := by decide +kernel
theorem d13_19 : decode method_5_code 19 = .ok (.newarray .char, 2) := by decide +kernel
theorem d13_21 : decode method_5_code 21 = .ok (.dup, 1) := by decide +kernel
theorem d13_22 : decode method_5_code 22 = .ok (.iconst 0, 1) := by decide +kernel
theorem d13_23 : decode method_5_code 23 = .ok (.bipush 98, 2) := by decide +kernel
theorem d13_25 : decode method_5_code 25 = .ok (.castore, 1) := by decide +kernel
theorem d13_26 : decode method_5_code 26 = .ok (.dup, 1) := by decide +kernel
theorem d13_27 : decode method_5_code 27 = .ok (.iconst 1, 1) := by decide +kernel
theorem d13_28 : decode method_5_code 28 = .ok (.bipush 121, 2) := by decide +kernel
theorem d13_30 : decode method_5_code 30 = .ok (.castore, 1) := by decide +kernel
theorem d13_31 : decode method_5_code 31 = .ok (.dup, 1) := by decide +kernel
theorem d13_32 : decode method_5_code 32 = .ok (.iconst 2, 1) := by decide +kernel
theorem d13_33 : decode method_5_code 33 = .ok (.bipush 78, 2) := by decide +kernel
theorem d13_35 : decode method_5_code 35 = .ok (.castore, 1) := by decide +kernel
theorem d13_36 : decode method_5_code 36 = .ok (.dup, 1) := by decide +kernel
theorem d13_37 : decode method_5_code 37 = .ok (.iconst 3, 1) := by decide +kernel
theorem d13_38 : decode method_5_code 38 = .ok (.bipush 97, 2) := by decide +kernel
theorem d13_40 : decode method_5_code 40 = .ok (.castore, 1) := by decide +kernel
theorem d13_41 : decode method_5_code 41 = .ok (.dup, 1) := by decide +kernel
theorem d13_42 : decode method_5_code 42 = .ok (.iconst 4, 1) := by decide +kernel
theorem d13_43 : decode method_5_code 43 = .ok (.bipush 109, 2) := by decide +kernel
theorem d13_45 : decode method_5_code 45 = .ok (.castore, 1) := by decide +kernel
theorem d13_46 : decode method_5_code 46 = .ok (.areturn, 1) := by decide +kernel
theorem d13_47 : decode method_5_code 47 = .ok (.iload_n 0, 1) := by decide +kernel
theorem d13_48 : decode method_5_code 48 = .ok (.iconst 2, 1) := by decide +kernel
theorem d13_49 : decode method_5_code 49 = .ok (.if_icmp .ne 32, 3) := by decide +kernel
theorem d13_52 : decode method_5_code 52 = .ok (.iconst 5, 1) := by decide +kernel
theorem d13_53 : decode method_5_code 53 = .ok (.newarray .char, 2) := by decide +kernel
theorem d13_55 : decode method_5_code 55 = .ok (.dup, 1) := by decide +kernel
theorem d13_56 : decode method_5_code 56 = .ok (.iconst 0, 1) := by decide +kernel
theorem d13_57 : decode method_5_code 57 = .ok (.bipush 98, 2) := by decide +kernel
theorem d13_59 : decode method_5_code 59 = .ok (.castore, 1) := by decide +kernel
theorem d13_60 : decode method_5_code 60 = .ok (.dup, 1) := by decide +kernel
theorem d13_61 : decode method_5_code 61 = .ok (.iconst 1, 1) := by decide +kernel
theorem d13_62 : decode method_5_code 62 = .ok (.bipush 121, 2) := by decide +kernel
theorem d13_64 : decode method_5_code 64 = .ok (.castore, 1) := by decide +kernel
theorem d13_65 : decode method_5_code 65 = .ok (.dup, 1) := by decide +kernel
theorem d13_66 : decode method_5_code 66 = .ok (.iconst 2, 1) := by decide +kernel
theorem d13_67 : decode method_5_code 67 = .ok (.bipush 84, 2) := by decide +kernel
theorem d13_69 : decode method_5_code 69 = .ok (.castore, 1) := by decide +kernel
theorem d13_70 : decode method_5_code 70 = .ok (.dup, 1) := by decide +kernel
theorem d13_71 : decode method_5_code 71 = .ok (.iconst 3, 1) := by decide +kernel
theorem d13_72 : decode method_5_code 72 = .ok (.bipush 121, 2) := by decide +kernel
theorem d13_74 : decode method_5_code 74 = .ok (.castore, 1) := by decide +kernel
theorem d13_75 : decode method_5_code 75 = .ok (.dup, 1) := by decide +kernel
theorem d13_76 : decode method_5_code 76 = .ok (.iconst 4, 1) := by decide +kernel
theorem d13_77 : decode method_5_code 77 = .ok (.bipush 112, 2) := by decide +kernel
theorem d13_79 : decode method_5_code 79 = .ok (.castore, 1) := by decide +kernel
theorem d13_80 : decode method_5_code 80 = .ok (.areturn, 1) := by decide +kernel
theorem d13_81 : decode method_5_code 81 = .ok (.bipush 10, 2) := by decide +kernel
theorem d13_83 : decode method_5_code 83 = .ok (.newarray .char, 2) := by decide +kernel
theorem d13_85 : decode method_5_code 85 = .ok (.dup, 1) := by decide +kernel
theorem d13_86 : decode method_5_code 86 = .ok (.iconst 0, 1) := by decide +kernel
theorem d13_87 : decode method_5_code 87 = .ok (.bipush 99, 2) := by decide +kernel
theorem d13_89 : decode method_5_code 89 = .ok (.castore, 1) := by decide +kernel
theorem d13_90 : decode method_5_code 90 = .ok (.dup, 1) := by decide +kernel
theorem d13_91 : decode method_5_code 91 = .ok (.iconst 1, 1) := by decide +kernel
theorem d13_92 : decode method_5_code 92 = .ok (.bipush 111, 2) := by decide +kernel
theorem d13_94 : decode method_5_code 94 = .ok (.castore, 1) := by decide +kernel
theorem d13_95 : decode method_5_code 95 = .ok (.dup, 1) := by decide +kernel
theorem d13_96 : decode method_5_code 96 = .ok (.iconst 2, 1) := by decide +kernel
theorem d13_97 : decode method_5_code 97 = .ok (.bipush 110, 2) := by decide +kernel
theorem d13_99 : decode method_5_code 99 = .ok (.castore, 1) := by decide +kernel
theorem d13_100 : decode method_5_code 100 = .ok (.dup, 1) := by decide +kernel
theorem d13_101 : decode method_5_code 101 = .ok (.iconst 3, 1) := by decide +kernel
theorem d13_102 : decode method_5_code 102 = .ok (.bipush 115, 2) := by decide +kernel
theorem d13_104 : decode method_5_code 104 = .ok (.castore, 1) := by decide +kernel
theorem d13_105 : decode method_5_code 105 = .ok (.dup, 1) := by decide +kernel
theorem d13_106 : decode method_5_code 106 = .ok (.iconst 4, 1) := by decide +kernel
theorem d13_107 : decode method_5_code 107 = .ok (.bipush 116, 2) := by decide +kernel
theorem d13_109 : decode method_5_code 109 = .ok (.castore, 1) := by decide +kernel
theorem d13_110 : decode method_5_code 110 = .ok (.dup, 1) := by decide +kernel
theorem d13_111 : decode method_5_code 111 = .ok (.iconst 5, 1) := by decide +kernel
theorem d13_112 : decode method_5_code 112 = .ok (.bipush 114, 2) := by decide +kernel
theorem d13_114 : decode method_5_code 114 = .ok (.castore, 1) := by decide +kernel
theorem d13_115 : decode method_5_code 115 = .ok (.dup, 1) := by decide +kernel
theorem d13_116 : decode method_5_code 116 = .ok (.bipush 6, 2) := by decide +kernel
theorem d13_118 : decode method_5_code 118 = .ok (.bipush 117, 2) := by decide +kernel
theorem d13_120 : decode method_5_code 120 = .ok (.castore, 1) := by decide +kernel
theorem d13_121 : decode method_5_code 121 = .ok (.dup, 1) := by decide +kernel
theorem d13_122 : decode method_5_code 122 = .ok (.bipush 7, 2) := by decide +kernel
theorem d13_124 : decode method_5_code 124 = .ok (.bipush 99, 2) := by decide +kernel
theorem d13_126 : decode method_5_code 126 = .ok (.castore, 1) := by decide +kernel
theorem d13_127 : decode method_5_code 127 = .ok (.dup, 1) := by decide +kernel
theorem d13_128 : decode method_5_code 128 = .ok (.bipush 8, 2) := by decide +kernel
theorem d13_130 : decode method_5_code 130 = .ok (.bipush 116, 2) := by decide +kernel
theorem d13_132 : decode method_5_code 132 = .ok (.castore, 1) := by decide +kernel
theorem d13_133 : decode method_5_code 133 = .ok (.dup, 1) := by decide +kernel
theorem d13_134 : decode method_5_code 134 = .ok (.bipush 9, 2) := by decide +kernel
theorem d13_136 : decode method_5_code 136 = .ok (.bipush 111, 2) := by decide +kernel
theorem d13_138 : decode method_5_code 138 = .ok (.castore, 1) := by decide +kernel
theorem d13_139 : decode method_5_code 139 = .ok (.areturn, 1) := by decide +kernel
theorem pn_13 : plainFor (⟨"com/example/spojka/spojka/AutowireModeNamedPinLaw", "shorter", "(I)[C"⟩ : MethodName) = true := by first | exact plainFor_of_name (by first | (simp [plainName, overriddenIn]; done) | decide +kernel) | decide +kernel | exact Jvm.Free.JP.mathPlain rfl (by decide +kernel)
theorem ef_13 (m : MethodId) (p0 : Int32) : entryFrame m #[(.int p0)] 1 = mkF m 0 #[.val (.int p0)] [] := by first | (simp [entryFrame, mkF, argsToLocals, Value.category]; done) | rfl
def Q13 (Z : State) (p0 : Int32) (h0 : Heap) (n0 : Nat) (v : Option Value) (h : Heap) (L : List Loc) : Prop := ∃ r kc, v = some (.ref r) ∧ h0.size ≤ r ∧ Fr n0 L ∧ Keep h0 h [] ∧ Arv Z h r kc .char (Int32.ofNat (own_shorter p0).length) ((own_shorter p0).map Value.int) (.int 0)
set_option maxRecDepth 65536 in
set_option maxHeartbeats 40000000 in
theorem rm13 (l : Launch) (Z : State) (a0 : Array Value) (hw : ∀ d ∈ tables_1, d.before a0 Z = true) (ws : List Jvm.Cond) (p0 : Int32) (h0 : Heap) (n0 : Nat) (Z0 : n0 ≤ h0.size) :
    MetFree l (⟨"com/example/spojka/spojka/AutowireModeNamedPinLaw", "shorter", "(I)[C"⟩ : MethodName) (head1 (Jvm.Cond.code (⟨"com/example/spojka/spojka/AutowireModeNamedPinLaw", "shorter", "(I)[C"⟩ : MethodName) method_5_code 1 (some (.array .char)) :: ws) ({ frames := 0, cells := 1, slots := 10, locals := 0 } : Room)) (fun a U => a = #[(.int p0)] ∧ Z.Warmed39 U.vm ∧ U.heap = h0) (fun _ _ _ _ _ => True) (fun _ U o U' => ∃ v L, o = .returned v ∧ Q13 Z p0 h0 n0 v U'.heap L ∧ FrameEnd U o U' L ({ frames := 0, cells := 1, slots := 10, locals := 0 } : Room).cells ({ frames := 0, cells := 1, slots := 10, locals := 0 } : Room).slots) := by
  refine MetFree.of_bodySF pn_13 hisR ?_
  intro p e s m args below meth c s₁ Bd hml0 hP hK
  obtain ⟨rfl, hZ, hh⟩ := hP
  have hx := Bd.exec
  have hby := Bd.bytes
  have hml : c.maxLocals = 1 := hml0
  have hown : s.vm.findClass "com/example/spojka/spojka/AutowireModeNamedPinLaw" = some m.cls := findClass_of_methodNamed Bd.named
  have hnm := (name_of_methodNamed Bd.named Bd.method).1
  have X0 : Stand p l e ({ frames := 0, cells := 1, slots := 10, locals := 0 } : Room) s m #[(.int p0)] below meth c s₁ [] 0 0 := Stand.of_body Bd
  have e0 : s₁.heap = h0 := by rw [← hh, Bd.state]; rfl
  have N0 := Fr.nil n0
  refine own_at (castTop (ef_13 m p0)) ?_
  have K0 := Keep.refl h0 []
  have sg1 : ∀ t, own_S p e below s₁ (mkF m 1 #[.val (.int p0)] [(.int p0)]) t → own_S p e below s₁ (mkF m 0 #[.val (.int p0)] []) t := by
    intro t k
    show own_S p e below s₁ (mkF m 0 #[.val (.int p0)] []) _
    refine XS.iloadN X0.here hx rfl (hb hby d13_0) rfl ?_
    exact k
  refine own_by sg1 ?_
  by_cases hc1 : p0 = (0 : Int32)
  · have sg5 : ∀ t, own_S p e below s₁ (mkF m 5 #[.val (.int p0)] [(.int (1 : Int32))]) t → own_S p e below s₁ (mkF m 1 #[.val (.int p0)] [(.int p0)]) t := by
      intro t k
      show own_S p e below s₁ (mkF m 1 #[.val (.int p0)] [(.int p0)]) _
      refine XS.ifNo X0.here hx rfl (hb hby d13_1) rfl ((if0 _ _).trans (teq hc1).2) ?_
      show own_S p e below s₁ (mkF m 4 #[.val (.int p0)] []) _
      refine XS.iconst X0.here hx rfl (hb hby d13_4) ?_
      exact k
    refine own_by sg5 ?_
    obtain ⟨T5, h5, kc5, X5, e5, E5, A5, st5⟩ := newP X0 hx hZ (hw _ (List.mem_of_getElem? (i := 7) rfl)) e0 (g := (mkF m 5 #[.val (.int p0)] [(.int (1 : Int32))])) rfl (hb hby d13_5) rfl (by decide) (cap := 1) (by decide) (by decide) (by decide) (by decide)
    obtain ⟨b5, g5⟩ : ∃ z, z = h0.size := ⟨_, rfl⟩
    rw [← g5] at A5 st5
    have g_b5 : n0 ≤ b5 := Nat.le_trans Z0 (Nat.le_of_eq g5.symm)
    have sz_b5 : h0.size ≤ b5 := Nat.le_trans K0.1 (Nat.le_of_eq g5.symm)
    have K5 := K0.ext E5
    have Z5 : n0 ≤ h5.size := Nat.le_trans Z0 E5.1
    have V5 : Arv Z h5 b5 kc5 .char (1 : Int32) [(.int (0 : Int32))] (.int (0 : Int32)) := (Arv.new A5 (by decide)).pad (pad_rep [] (.int (0 : Int32)) 1)
    refine own_by st5 ?_
    have sg11 : ∀ t, own_S p e below T5 (mkF m 11 #[.val (.int p0)] [(.int (110 : Int32)), (.int (0 : Int32)), (.ref b5), (.ref b5)]) t → own_S p e below T5 (mkF m 7 #[.val (.int p0)] [(.ref b5)]) t := by
      intro t k
      show own_S p e below T5 (mkF m 7 #[.val (.int p0)] [(.ref b5)]) _
      refine XS.dup X5.here hx rfl (hb hby d13_7) rfl rfl ?_
      show own_S p e below T5 (mkF m 8 #[.val (.int p0)] [(.ref b5), (.ref b5)]) _
      refine XS.iconst X5.here hx rfl (hb hby d13_8) ?_
      show own_S p e below T5 (mkF m 9 #[.val (.int p0)] [(.int (0 : Int32)), (.ref b5), (.ref b5)]) _
      refine XS.bipush X5.here hx rfl (hb hby d13_9) ?_
      exact k
    refine own_by sg11 ?_
    obtain ⟨cl11, Ar11, qa11, Sa11, Na11, Ha11, Ga11⟩ := id V5
    obtain ⟨T11, h11, X11, e11, W11, st11⟩ := stC X5 hx hZ e5 Ar11 (j := (0 : Int32)) (inb_of Sa11 ⟨by decide, by decide⟩) (g := (mkF m 11 #[.val (.int p0)] [(.int (110 : Int32)), (.int (0 : Int32)), (.ref b5), (.ref b5)])) rfl rfl (hb hby d13_11)
    have V11 : Arv Z h11 b5 kc5 .char (1 : Int32) [(.int (110 : Int32))] (.int (0 : Int32)) := by
      have q := Arv.set Ar11 qa11 Sa11 Na11 Ha11 Ga11 (fits_nar_char _) W11 0 rfl (Nat.le_of_ble_eq_true rfl)
      exact q
    have K11 : Keep h0 h11 [] := K5.wr W11 (Or.inr sz_b5)
    have Z11 : n0 ≤ h11.size := Nat.le_trans Z5 (Keep.of_wr W11).1
    have N11 := Fr.snoc X11 N0 g_b5
    refine own_by st11 ?_
    obtain ⟨fs, hr, hrun, hended, hW, hsame⟩ := X11.leave (v := some (.ref b5)) (fun h => by rw [Bd.returns] at h; cases h)
    refine ⟨_, _, ?_, hrun, hended, _, _, rfl, ?_, ⟨_, rfl⟩, hW, hsame.mono (by decide) (by decide)⟩
    · show Steps p.tables e below (T11.setTop (mkF m 12 #[.val (.int p0)] [(.ref b5)])) _
      jvm_step X11.here [X11.here.top, hx, (hb hby d13_12), X11.method', Bd.returns, Value.isRef, FieldType.isReference]
      first | (intro acts; rw [hr _ acts rfl rfl rfl]) | rw [hr _ _ rfl rfl rfl]
      exact Steps.refl _
    · show Q13 Z p0 h0 n0 _ T11.heap _
      rw [e11]
      exact ⟨_, _, rfl, sz_b5, N11, K11, (by unfold own_shorter; rw [if_pos hc1]; exact V11)⟩
  · have sg15 : ∀ t, own_S p e below s₁ (mkF m 15 #[.val (.int p0)] [(.int (1 : Int32)), (.int p0)]) t → own_S p e below s₁ (mkF m 1 #[.val (.int p0)] [(.int p0)]) t := by
      intro t k
      show own_S p e below s₁ (mkF m 1 #[.val (.int p0)] [(.int p0)]) _
      refine XS.ifYes X0.here hx rfl (pc0 := 1) (pc' := 13) rfl (hb hby d13_1) rfl ((if0 _ _).trans (feq hc1).2) (by decide) (by decide) ?_
      show own_S p e below s₁ (mkF m 13 #[.val (.int p0)] []) _
      refine XS.iloadN X0.here hx rfl (hb hby d13_13) rfl ?_
      show own_S p e below s₁ (mkF m 14 #[.val (.int p0)] [(.int p0)]) _
      refine XS.iconst X0.here hx rfl (hb hby d13_14) ?_
      exact k
    refine own_by sg15 ?_
    by_cases hc15 : p0 = (1 : Int32)
    · have sg19 : ∀ t, own_S p e below s₁ (mkF m 19 #[.val (.int p0)] [(.int (5 : Int32))]) t → own_S p e below s₁ (mkF m 15 #[.val (.int p0)] [(.int (1 : Int32)), (.int p0)]) t := by
        intro t k
        show own_S p e below s₁ (mkF m 15 #[.val (.int p0)] [(.int (1 : Int32)), (.int p0)]) _
        refine XS.icmpNo X0.here hx rfl (hb hby d13_15) rfl (teq hc15).2 ?_
        show own_S p e below s₁ (mkF m 18 #[.val (.int p0)] []) _
        refine XS.iconst X0.here hx rfl (hb hby d13_18) ?_
        exact k
      refine own_by sg19 ?_
      obtain ⟨T19, h19, kc19, X19, e19, E19, A19, st19⟩ := newP X0 hx hZ (hw _ (List.mem_of_getElem? (i := 7) rfl)) e0 (g := (mkF m 19 #[.val (.int p0)] [(.int (5 : Int32))])) rfl (hb hby d13_19) rfl (by decide) (cap := 5) (by decide) (by decide) (by decide) (by decide)
      obtain ⟨b19, g19⟩ : ∃ z, z = h0.size := ⟨_, rfl⟩
      rw [← g19] at A19 st19
      have g_b19 : n0 ≤ b19 := Nat.le_trans Z0 (Nat.le_of_eq g19.symm)
      have sz_b19 : h0.size ≤ b19 := Nat.le_trans K0.1 (Nat.le_of_eq g19.symm)
      have K19 := K0.ext E19
      have Z19 : n0 ≤ h19.size := Nat.le_trans Z0 E19.1
      have V19 : Arv Z h19 b19 kc19 .char (5 : Int32) [(.int (0 : Int32)), (.int (0 : Int32)), (.int (0 : Int32)), (.int (0 : Int32)), (.int (0 : Int32))] (.int (0 : Int32)) := (Arv.new A19 (by decide)).pad (pad_rep [] (.int (0 : Int32)) 5)
      refine own_by st19 ?_
      have sg25 : ∀ t, own_S p e below T19 (mkF m 25 #[.val (.int p0)] [(.int (98 : Int32)), (.int (0 : Int32)), (.ref b19), (.ref b19)]) t → own_S p e below T19 (mkF m 21 #[.val (.int p0)] [(.ref b19)]) t := by
        intro t k
        show own_S p e below T19 (mkF m 21 #[.val (.int p0)] [(.ref b19)]) _
        refine XS.dup X19.here hx rfl (hb hby d13_21) rfl rfl ?_
        show own_S p e below T19 (mkF m 22 #[.val (.int p0)] [(.ref b19), (.ref b19)]) _
        refine XS.iconst X19.here hx rfl (hb hby d13_22) ?_
        show own_S p e below T19 (mkF m 23 #[.val (.int p0)] [(.int (0 : Int32)), (.ref b19), (.ref b19)]) _
        refine XS.bipush X19.here hx rfl (hb hby d13_23) ?_
        exact k
      refine own_by sg25 ?_
      obtain ⟨cl25, Ar25, qa25, Sa25, Na25, Ha25, Ga25⟩ := id V19
      obtain ⟨T25, h25, X25, e25, W25, st25⟩ := stC X19 hx hZ e19 Ar25 (j := (0 : Int32)) (inb_of Sa25 ⟨by decide, by decide⟩) (g := (mkF m 25 #[.val (.int p0)] [(.int (98 : Int32)), (.int (0 : Int32)), (.ref b19), (.ref b19)])) rfl rfl (hb hby d13_25)
      have V25 : Arv Z h25 b19 kc19 .char (5 : Int32) [(.int (98 : Int32)), (.int (0 : Int32)), (.int (0 : Int32)), (.int (0 : Int32)), (.int (0 : Int32))] (.int (0 : Int32)) := by
        have q := Arv.set Ar25 qa25 Sa25 Na25 Ha25 Ga25 (fits_nar_char _) W25 0 rfl (Nat.le_of_ble_eq_true rfl)
        exact q
      have K25 : Keep h0 h25 [] := K19.wr W25 (Or.inr sz_b19)
      have Z25 : n0 ≤ h25.size := Nat.le_trans Z19 (Keep.of_wr W25).1
      have N25 := Fr.snoc X25 N0 g_b19
      refine own_by st25 ?_
      have sg30 : ∀ t, own_S p e below T25 (mkF m 30 #[.val (.int p0)] [(.int (121 : Int32)), (.int (1 : Int32)), (.ref b19), (.ref b19)]) t → own_S p e below T25 (mkF m 26 #[.val (.int p0)] [(.ref b19)]) t := by
        intro t k
        show own_S p e below T25 (mkF m 26 #[.val (.int p0)] [(.ref b19)]) _
        refine XS.dup X25.here hx rfl (hb hby d13_26) rfl rfl ?_
        show own_S p e below T25 (mkF m 27 #[.val (.int p0)] [(.ref b19), (.ref b19)]) _
        refine XS.iconst X25.here hx rfl (hb hby d13_27) ?_
        show own_S p e below T25 (mkF m 28 #[.val (.int p0)] [(.int (1 : Int32)), (.ref b19), (.ref b19)]) _
        refine XS.bipush X25.here hx rfl (hb hby d13_28) ?_
        exact k
      refine own_by sg30 ?_
      obtain ⟨cl30, Ar30, qa30, Sa30, Na30, Ha30, Ga30⟩ := id V25
      obtain ⟨T30, h30, X30, e30, W30, st30⟩ := stC X25 hx hZ e25 Ar30 (j := (1 : Int32)) (inb_of Sa30 ⟨by decide, by decide⟩) (g := (mkF m 30 #[.val (.int p0)] [(.int (121 : Int32)), (.int (1 : Int32)), (.ref b19), (.ref b19)])) rfl rfl (hb hby d13_30)
      have V30 : Arv Z h30 b19 kc19 .char (5 : Int32) [(.int (98 : Int32)), (.int (121 : Int32)), (.int (0 : Int32)), (.int (0 : Int32)), (.int (0 : Int32))] (.int (0 : Int32)) := by
        have q := Arv.set Ar30 qa30 Sa30 Na30 Ha30 Ga30 (fits_nar_char _) W30 1 rfl (Nat.le_of_ble_eq_true rfl)
        exact q
      have K30 : Keep h0 h30 [] := K25.wr W30 (Or.inr sz_b19)
      have Z30 : n0 ≤ h30.size := Nat.le_trans Z25 (Keep.of_wr W30).1
      have N30 := Fr.snoc X30 N25 g_b19
      refine own_by st30 ?_
      have sg35 : ∀ t, own_S p e below T30 (mkF m 35 #[.val (.int p0)] [(.int (78 : Int32)), (.int (2 : Int32)), (.ref b19), (.ref b19)]) t → own_S p e below T30 (mkF m 31 #[.val (.int p0)] [(.ref b19)]) t := by
        intro t k
        show own_S p e below T30 (mkF m 31 #[.val (.int p0)] [(.ref b19)]) _
        refine XS.dup X30.here hx rfl (hb hby d13_31) rfl rfl ?_
        show own_S p e below T30 (mkF m 32 #[.val (.int p0)] [(.ref b19), (.ref b19)]) _
        refine XS.iconst X30.here hx rfl (hb hby d13_32) ?_
        show own_S p e below T30 (mkF m 33 #[.val (.int p0)] [(.int (2 : Int32)), (.ref b19), (.ref b19)]) _
        refine XS.bipush X30.here hx rfl (hb hby d13_33) ?_
        exact k
      refine own_by sg35 ?_
      obtain ⟨cl35, Ar35, qa35, Sa35, Na35, Ha35, Ga35⟩ := id V30
      obtain ⟨T35, h35, X35, e35, W35, st35⟩ := stC X30 hx hZ e30 Ar35 (j := (2 : Int32)) (inb_of Sa35 ⟨by decide, by decide⟩) (g := (mkF m 35 #[.val (.int p0)] [(.int (78 : Int32)), (.int (2 : Int32)), (.ref b19), (.ref b19)])) rfl rfl (hb hby d13_35)
      have V35 : Arv Z h35 b19 kc19 .char (5 : Int32) [(.int (98 : Int32)), (.int (121 : Int32)), (.int (78 : Int32)), (.int (0 : Int32)), (.int (0 : Int32))] (.int (0 : Int32)) := by
        have q := Arv.set Ar35 qa35 Sa35 Na35 Ha35 Ga35 (fits_nar_char _) W35 2 rfl (Nat.le_of_ble_eq_true rfl)
        exact q
      have K35 : Keep h0 h35 [] := K30.wr W35 (Or.inr sz_b19)
      have Z35 : n0 ≤ h35.size := Nat.le_trans Z30 (Keep.of_wr W35).1
      have N35 := Fr.snoc X35 N30 g_b19
      refine own_by st35 ?_
      have sg40 : ∀ t, own_S p e below T35 (mkF m 40 #[.val (.int p0)] [(.int (97 : Int32)), (.int (3 : Int32)), (.ref b19), (.ref b19)]) t → own_S p e below T35 (mkF m 36 #[.val (.int p0)] [(.ref b19)]) t := by
        intro t k
        show own_S p e below T35 (mkF m 36 #[.val (.int p0)] [(.ref b19)]) _
        refine XS.dup X35.here hx rfl (hb hby d13_36) rfl rfl ?_
        show own_S p e below T35 (mkF m 37 #[.val (.int p0)] [(.ref b19), (.ref b19)]) _
        refine XS.iconst X35.here hx rfl (hb hby d13_37) ?_
        show own_S p e below T35 (mkF m 38 #[.val (.int p0)] [(.int (3 : Int32)), (.ref b19), (.ref b19)]) _
        refine XS.bipush X35.here hx rfl (hb hby d13_38) ?_
        exact k
      refine own_by sg40 ?_
      obtain ⟨cl40, Ar40, qa40, Sa40, Na40, Ha40, Ga40⟩ := id V35
      obtain ⟨T40, h40, X40, e40, W40, st40⟩ := stC X35 hx hZ e35 Ar40 (j := (3 : Int32)) (inb_of Sa40 ⟨by decide, by decide⟩) (g := (mkF m 40 #[.val (.int p0)] [(.int (97 : Int32)), (.int (3 : Int32)), (.ref b19), (.ref b19)])) rfl rfl (hb hby d13_40)
      have V40 : Arv Z h40 b19 kc19 .char (5 : Int32) [(.int (98 : Int32)), (.int (121 : Int32)), (.int (78 : Int32)), (.int (97 : Int32)), (.int (0 : Int32))] (.int (0 : Int32)) := by
        have q := Arv.set Ar40 qa40 Sa40 Na40 Ha40 Ga40 (fits_nar_char _) W40 3 rfl (Nat.le_of_ble_eq_true rfl)
        exact q
      have K40 : Keep h0 h40 [] := K35.wr W40 (Or.inr sz_b19)
      have Z40 : n0 ≤ h40.size := Nat.le_trans Z35 (Keep.of_wr W40).1
      have N40 := Fr.snoc X40 N35 g_b19
      refine own_by st40 ?_
      have sg45 : ∀ t, own_S p e below T40 (mkF m 45 #[.val (.int p0)] [(.int (109 : Int32)), (.int (4 : Int32)), (.ref b19), (.ref b19)]) t → own_S p e below T40 (mkF m 41 #[.val (.int p0)] [(.ref b19)]) t := by
        intro t k
        show own_S p e below T40 (mkF m 41 #[.val (.int p0)] [(.ref b19)]) _
        refine XS.dup X40.here hx rfl (hb hby d13_41) rfl rfl ?_
        show own_S p e below T40 (mkF m 42 #[.val (.int p0)] [(.ref b19), (.ref b19)]) _
        refine XS.iconst X40.here hx rfl (hb hby d13_42) ?_
        show own_S p e below T40 (mkF m 43 #[.val (.int p0)] [(.int (4 : Int32)), (.ref b19), (.ref b19)]) _
        refine XS.bipush X40.here hx rfl (hb hby d13_43) ?_
        exact k
      refine own_by sg45 ?_
      obtain ⟨cl45, Ar45, qa45, Sa45, Na45, Ha45, Ga45⟩ := id V40
      obtain ⟨T45, h45, X45, e45, W45, st45⟩ := stC X40 hx hZ e40 Ar45 (j := (4 : Int32)) (inb_of Sa45 ⟨by decide, by decide⟩) (g := (mkF m 45 #[.val (.int p0)] [(.int (109 : Int32)), (.int (4 : Int32)), (.ref b19), (.ref b19)])) rfl rfl (hb hby d13_45)
      have V45 : Arv Z h45 b19 kc19 .char (5 : Int32) [(.int (98 : Int32)), (.int (121 : Int32)), (.int (78 : Int32)), (.int (97 : Int32)), (.int (109 : Int32))] (.int (0 : Int32)) := by
        have q := Arv.set Ar45 qa45 Sa45 Na45 Ha45 Ga45 (fits_nar_char _) W45 4 rfl (Nat.le_of_ble_eq_true rfl)
        exact q
      have K45 : Keep h0 h45 [] := K40.wr W45 (Or.inr sz_b19)
      have Z45 : n0 ≤ h45.size := Nat.le_trans Z40 (Keep.of_wr W45).1
      have N45 := Fr.snoc X45 N40 g_b19
      refine own_by st45 ?_
      obtain ⟨fs, hr, hrun, hended, hW, hsame⟩ := X45.leave (v := some (.ref b19)) (fun h => by rw [Bd.returns] at h; cases h)
      refine ⟨_, _, ?_, hrun, hended, _, _, rfl, ?_, ⟨_, rfl⟩, hW, hsame.mono (by decide) (by decide)⟩
      · show Steps p.tables e below (T45.setTop (mkF m 46 #[.val (.int p0)] [(.ref b19)])) _
        jvm_step X45.here [X45.here.top, hx, (hb hby d13_46), X45.method', Bd.returns, Value.isRef, FieldType.isReference]
        first | (intro acts; rw [hr _ acts rfl rfl rfl]) | rw [hr _ _ rfl rfl rfl]
        exact Steps.refl _
      · show Q13 Z p0 h0 n0 _ T45.heap _
        rw [e45]
        exact ⟨_, _, rfl, sz_b19, N45, K45, (by unfold own_shorter; rw [if_neg hc1, if_pos hc15]; exact V45)⟩
    · have sg49 : ∀ t, own_S p e below s₁ (mkF m 49 #[.val (.int p0)] [(.int (2 : Int32)), (.int p0)]) t → own_S p e below s₁ (mkF m 15 #[.val (.int p0)] [(.int (1 : Int32)), (.int p0)]) t := by
        intro t k
        show own_S p e below s₁ (mkF m 15 #[.val (.int p0)] [(.int (1 : Int32)), (.int p0)]) _
        refine XS.icmpYes X0.here hx rfl (pc0 := 15) (pc' := 47) rfl (hb hby d13_15) rfl (feq hc15).2 (by decide) (by decide) ?_
        show own_S p e below s₁ (mkF m 47 #[.val (.int p0)] []) _
        refine XS.iloadN X0.here hx rfl (hb hby d13_47) rfl ?_
        show own_S p e below s₁ (mkF m 48 #[.val (.int p0)] [(.int p0)]) _
        refine XS.iconst X0.here hx rfl (hb hby d13_48) ?_
        exact k
      refine own_by sg49 ?_
      by_cases hc49 : p0 = (2 : Int32)
      · have sg53 : ∀ t, own_S p e below s₁ (mkF m 53 #[.val (.int p0)] [(.int (5 : Int32))]) t → own_S p e below s₁ (mkF m 49 #[.val (.int p0)] [(.int (2 : Int32)), (.int p0)]) t := by
          intro t k
          show own_S p e below s₁ (mkF m 49 #[.val (.int p0)] [(.int (2 : Int32)), (.int p0)]) _
          refine XS.icmpNo X0.here hx rfl (hb hby d13_49) rfl (teq hc49).2 ?_
          show own_S p e below s₁ (mkF m 52 #[.val (.int p0)] []) _
          refine XS.iconst X0.here hx rfl (hb hby d13_52) ?_
          exact k
        refine own_by sg53 ?_
        obtain ⟨T53, h53, kc53, X53, e53, E53, A53, st53⟩ := newP X0 hx hZ (hw _ (List.mem_of_getElem? (i := 7) rfl)) e0 (g := (mkF m 53 #[.val (.int p0)] [(.int (5 : Int32))])) rfl (hb hby d13_53) rfl (by decide) (cap := 5) (by decide) (by decide) (by decide) (by decide)
        obtain ⟨b53, g53⟩ : ∃ z, z = h0.size := ⟨_, rfl⟩
        rw [← g53] at A53 st53
        have g_b53 : n0 ≤ b53 := Nat.le_trans Z0 (Nat.le_of_eq g53.symm)
        have sz_b53 : h0.size ≤ b53 := Nat.le_trans K0.1 (Nat.le_of_eq g53.symm)
        have K53 := K0.ext E53
        have Z53 : n0 ≤ h53.size := Nat.le_trans Z0 E53.1
        have V53 : Arv Z h53 b53 kc53 .char (5 : Int32) [(.int (0 : Int32)), (.int (0 : Int32)), (.int (0 : Int32)), (.int (0 : Int32)), (.int (0 : Int32))] (.int (0 : Int32)) := (Arv.new A53 (by decide)).pad (pad_rep [] (.int (0 : Int32)) 5)
        refine own_by st53 ?_
        have sg59 : ∀ t, own_S p e below T53 (mkF m 59 #[.val (.int p0)] [(.int (98 : Int32)), (.int (0 : Int32)), (.ref b53), (.ref b53)]) t → own_S p e below T53 (mkF m 55 #[.val (.int p0)] [(.ref b53)]) t := by
          intro t k
          show own_S p e below T53 (mkF m 55 #[.val (.int p0)] [(.ref b53)]) _
          refine XS.dup X53.here hx rfl (hb hby d13_55) rfl rfl ?_
          show own_S p e below T53 (mkF m 56 #[.val (.int p0)] [(.ref b53), (.ref b53)]) _
          refine XS.iconst X53.here hx rfl (hb hby d13_56) ?_
          show own_S p e below T53 (mkF m 57 #[.val (.int p0)] [(.int (0 : Int32)), (.ref b53), (.ref b53)]) _
          refine XS.bipush X53.here hx rfl (hb hby d13_57) ?_
          exact k
        refine own_by sg59 ?_
        obtain ⟨cl59, Ar59, qa59, Sa59, Na59, Ha59, Ga59⟩ := id V53
        obtain ⟨T59, h59, X59, e59, W59, st59⟩ := stC X53 hx hZ e53 Ar59 (j := (0 : Int32)) (inb_of Sa59 ⟨by decide, by decide⟩) (g := (mkF m 59 #[.val (.int p0)] [(.int (98 : Int32)), (.int (0 : Int32)), (.ref b53), (.ref b53)])) rfl rfl (hb hby d13_59)
        have V59 : Arv Z h59 b53 kc53 .char (5 : Int32) [(.int (98 : Int32)), (.int (0 : Int32)), (.int (0 : Int32)), (.int (0 : Int32)), (.int (0 : Int32))] (.int (0 : Int32)) := by
          have q := Arv.set Ar59 qa59 Sa59 Na59 Ha59 Ga59 (fits_nar_char _) W59 0 rfl (Nat.le_of_ble_eq_true rfl)
          exact q
        have K59 : Keep h0 h59 [] := K53.wr W59 (Or.inr sz_b53)
        have Z59 : n0 ≤ h59.size := Nat.le_trans Z53 (Keep.of_wr W59).1
        have N59 := Fr.snoc X59 N0 g_b53
        refine own_by st59 ?_
        have sg64 : ∀ t, own_S p e below T59 (mkF m 64 #[.val (.int p0)] [(.int (121 : Int32)), (.int (1 : Int32)), (.ref b53), (.ref b53)]) t → own_S p e below T59 (mkF m 60 #[.val (.int p0)] [(.ref b53)]) t := by
          intro t k
          show own_S p e below T59 (mkF m 60 #[.val (.int p0)] [(.ref b53)]) _
          refine XS.dup X59.here hx rfl (hb hby d13_60) rfl rfl ?_
          show own_S p e below T59 (mkF m 61 #[.val (.int p0)] [(.ref b53), (.ref b53)]) _
          refine XS.iconst X59.here hx rfl (hb hby d13_61) ?_
          show own_S p e below T59 (mkF m 62 #[.val (.int p0)] [(.int (1 : Int32)), (.ref b53), (.ref b53)]) _
          refine XS.bipush X59.here hx rfl (hb hby d13_62) ?_
          exact k
        refine own_by sg64 ?_
        obtain ⟨cl64, Ar64, qa64, Sa64, Na64, Ha64, Ga64⟩ := id V59
        obtain ⟨T64, h64, X64, e64, W64, st64⟩ := stC X59 hx hZ e59 Ar64 (j := (1 : Int32)) (inb_of Sa64 ⟨by decide, by decide⟩) (g := (mkF m 64 #[.val (.int p0)] [(.int (121 : Int32)), (.int (1 : Int32)), (.ref b53), (.ref b53)])) rfl rfl (hb hby d13_64)
        have V64 : Arv Z h64 b53 kc53 .char (5 : Int32) [(.int (98 : Int32)), (.int (121 : Int32)), (.int (0 : Int32)), (.int (0 : Int32)), (.int (0 : Int32))] (.int (0 : Int32)) := by
          have q := Arv.set Ar64 qa64 Sa64 Na64 Ha64 Ga64 (fits_nar_char _) W64 1 rfl (Nat.le_of_ble_eq_true rfl)
          exact q
        have K64 : Keep h0 h64 [] := K59.wr W64 (Or.inr sz_b53)
        have Z64 : n0 ≤ h64.size := Nat.le_trans Z59 (Keep.of_wr W64).1
        have N64 := Fr.snoc X64 N59 g_b53
        refine own_by st64 ?_
        have sg69 : ∀ t, own_S p e below T64 (mkF m 69 #[.val (.int p0)] [(.int (84 : Int32)), (.int (2 : Int32)), (.ref b53), (.ref b53)]) t → own_S p e below T64 (mkF m 65 #[.val (.int p0)] [(.ref b53)]) t := by
          intro t k
          show own_S p e below T64 (mkF m 65 #[.val (.int p0)] [(.ref b53)]) _
          refine XS.dup X64.here hx rfl (hb hby d13_65) rfl rfl ?_
          show own_S p e below T64 (mkF m 66 #[.val (.int p0)] [(.ref b53), (.ref b53)]) _
          refine XS.iconst X64.here hx rfl (hb hby d13_66) ?_
          show own_S p e below T64 (mkF m 67 #[.val (.int p0)] [(.int (2 : Int32)), (.ref b53), (.ref b53)]) _
          refine XS.bipush X64.here hx rfl (hb hby d13_67) ?_
          exact k
        refine own_by sg69 ?_
        obtain ⟨cl69, Ar69, qa69, Sa69, Na69, Ha69, Ga69⟩ := id V64
        obtain ⟨T69, h69, X69, e69, W69, st69⟩ := stC X64 hx hZ e64 Ar69 (j := (2 : Int32)) (inb_of Sa69 ⟨by decide, by decide⟩) (g := (mkF m 69 #[.val (.int p0)] [(.int (84 : Int32)), (.int (2 : Int32)), (.ref b53), (.ref b53)])) rfl rfl (hb hby d13_69)
        have V69 : Arv Z h69 b53 kc53 .char (5 : Int32) [(.int (98 : Int32)), (.int (121 : Int32)), (.int (84 : Int32)), (.int (0 : Int32)), (.int (0 : Int32))] (.int (0 : Int32)) := by
          have q := Arv.set Ar69 qa69 Sa69 Na69 Ha69 Ga69 (fits_nar_char _) W69 2 rfl (Nat.le_of_ble_eq_true rfl)
          exact q
        have K69 : Keep h0 h69 [] := K64.wr W69 (Or.inr sz_b53)
        have Z69 : n0 ≤ h69.size := Nat.le_trans Z64 (Keep.of_wr W69).1
        have N69 := Fr.snoc X69 N64 g_b53
        refine own_by st69 ?_
        have sg74 : ∀ t, own_S p e below T69 (mkF m 74 #[.val (.int p0)] [(.int (121 : Int32)), (.int (3 : Int32)), (.ref b53), (.ref b53)]) t → own_S p e below T69 (mkF m 70 #[.val (.int p0)] [(.ref b53)]) t := by
          intro t k
          show own_S p e below T69 (mkF m 70 #[.val (.int p0)] [(.ref b53)]) _
          refine XS.dup X69.here hx rfl (hb hby d13_70) rfl rfl ?_
          show own_S p e below T69 (mkF m 71 #[.val (.int p0)] [(.ref b53), (.ref b53)]) _
          refine XS.iconst X69.here hx rfl (hb hby d13_71) ?_
          show own_S p e below T69 (mkF m 72 #[.val (.int p0)] [(.int (3 : Int32)), (.ref b53), (.ref b53)]) _
          refine XS.bipush X69.here hx rfl (hb hby d13_72) ?_
          exact k
        refine own_by sg74 ?_
        obtain ⟨cl74, Ar74, qa74, Sa74, Na74, Ha74, Ga74⟩ := id V69
        obtain ⟨T74, h74, X74, e74, W74, st74⟩ := stC X69 hx hZ e69 Ar74 (j := (3 : Int32)) (inb_of Sa74 ⟨by decide, by decide⟩) (g := (mkF m 74 #[.val (.int p0)] [(.int (121 : Int32)), (.int (3 : Int32)), (.ref b53), (.ref b53)])) rfl rfl (hb hby d13_74)
        have V74 : Arv Z h74 b53 kc53 .char (5 : Int32) [(.int (98 : Int32)), (.int (121 : Int32)), (.int (84 : Int32)), (.int (121 : Int32)), (.int (0 : Int32))] (.int (0 : Int32)) := by
          have q := Arv.set Ar74 qa74 Sa74 Na74 Ha74 Ga74 (fits_nar_char _) W74 3 rfl (Nat.le_of_ble_eq_true rfl)
          exact q
        have K74 : Keep h0 h74 [] := K69.wr W74 (Or.inr sz_b53)
        have Z74 : n0 ≤ h74.size := Nat.le_trans Z69 (Keep.of_wr W74).1
        have N74 := Fr.snoc X74 N69 g_b53
        refine own_by st74 ?_
        have sg79 : ∀ t, own_S p e below T74 (mkF m 79 #[.val (.int p0)] [(.int (112 : Int32)), (.int (4 : Int32)), (.ref b53), (.ref b53)]) t → own_S p e below T74 (mkF m 75 #[.val (.int p0)] [(.ref b53)]) t := by
          intro t k
          show own_S p e below T74 (mkF m 75 #[.val (.int p0)] [(.ref b53)]) _
          refine XS.dup X74.here hx rfl (hb hby d13_75) rfl rfl ?_
          show own_S p e below T74 (mkF m 76 #[.val (.int p0)] [(.ref b53), (.ref b53)]) _
          refine XS.iconst X74.here hx rfl (hb hby d13_76) ?_
          show own_S p e below T74 (mkF m 77 #[.val (.int p0)] [(.int (4 : Int32)), (.ref b53), (.ref b53)]) _
          refine XS.bipush X74.here hx rfl (hb hby d13_77) ?_
          exact k
        refine own_by sg79 ?_
        obtain ⟨cl79, Ar79, qa79, Sa79, Na79, Ha79, Ga79⟩ := id V74
        obtain ⟨T79, h79, X79, e79, W79, st79⟩ := stC X74 hx hZ e74 Ar79 (j := (4 : Int32)) (inb_of Sa79 ⟨by decide, by decide⟩) (g := (mkF m 79 #[.val (.int p0)] [(.int (112 : Int32)), (.int (4 : Int32)), (.ref b53), (.ref b53)])) rfl rfl (hb hby d13_79)
        have V79 : Arv Z h79 b53 kc53 .char (5 : Int32) [(.int (98 : Int32)), (.int (121 : Int32)), (.int (84 : Int32)), (.int (121 : Int32)), (.int (112 : Int32))] (.int (0 : Int32)) := by
          have q := Arv.set Ar79 qa79 Sa79 Na79 Ha79 Ga79 (fits_nar_char _) W79 4 rfl (Nat.le_of_ble_eq_true rfl)
          exact q
        have K79 : Keep h0 h79 [] := K74.wr W79 (Or.inr sz_b53)
        have Z79 : n0 ≤ h79.size := Nat.le_trans Z74 (Keep.of_wr W79).1
        have N79 := Fr.snoc X79 N74 g_b53
        refine own_by st79 ?_
        obtain ⟨fs, hr, hrun, hended, hW, hsame⟩ := X79.leave (v := some (.ref b53)) (fun h => by rw [Bd.returns] at h; cases h)
        refine ⟨_, _, ?_, hrun, hended, _, _, rfl, ?_, ⟨_, rfl⟩, hW, hsame.mono (by decide) (by decide)⟩
        · show Steps p.tables e below (T79.setTop (mkF m 80 #[.val (.int p0)] [(.ref b53)])) _
          jvm_step X79.here [X79.here.top, hx, (hb hby d13_80), X79.method', Bd.returns, Value.isRef, FieldType.isReference]
          first | (intro acts; rw [hr _ acts rfl rfl rfl]) | rw [hr _ _ rfl rfl rfl]
          exact Steps.refl _
        · show Q13 Z p0 h0 n0 _ T79.heap _
          rw [e79]
          exact ⟨_, _, rfl, sz_b53, N79, K79, (by unfold own_shorter; rw [if_neg hc1, if_neg hc15, if_pos hc49]; exact V79)⟩
      · have sg83 : ∀ t, own_S p e below s₁ (mkF m 83 #[.val (.int p0)] [(.int (10 : Int32))]) t → own_S p e below s₁ (mkF m 49 #[.val (.int p0)] [(.int (2 : Int32)), (.int p0)]) t := by
          intro t k
          show own_S p e below s₁ (mkF m 49 #[.val (.int p0)] [(.int (2 : Int32)), (.int p0)]) _
          refine XS.icmpYes X0.here hx rfl (pc0 := 49) (pc' := 81) rfl (hb hby d13_49) rfl (feq hc49).2 (by decide) (by decide) ?_
          show own_S p e below s₁ (mkF m 81 #[.val (.int p0)] []) _
          refine XS.bipush X0.here hx rfl (hb hby d13_81) ?_
          exact k
        refine own_by sg83 ?_
        obtain ⟨T83, h83, kc83, X83, e83, E83, A83, st83⟩ := newP X0 hx hZ (hw _ (List.mem_of_getElem? (i := 7) rfl)) e0 (g := (mkF m 83 #[.val (.int p0)] [(.int (10 : Int32))])) rfl (hb hby d13_83) rfl (by decide) (cap := 10) (by decide) (by decide) (by decide) (by decide)
        obtain ⟨b83, g83⟩ : ∃ z, z = h0.size := ⟨_, rfl⟩
        rw [← g83] at A83 st83
        have g_b83 : n0 ≤ b83 := Nat.le_trans Z0 (Nat.le_of_eq g83.symm)
        have sz_b83 : h0.size ≤ b83 := Nat.le_trans K0.1 (Nat.le_of_eq g83.symm)
        have K83 := K0.ext E83
        have Z83 : n0 ≤ h83.size := Nat.le_trans Z0 E83.1
        have V83 : Arv Z h83 b83 kc83 .char (10 : Int32) [(.int (0 : Int32)), (.int (0 : Int32)), (.int (0 : Int32)), (.int (0 : Int32)), (.int (0 : Int32)), (.int (0 : Int32)), (.int (0 : Int32)), (.int (0 : Int32)), (.int (0 : Int32)), (.int (0 : Int32))] (.int (0 : Int32)) := (Arv.new A83 (by decide)).pad (pad_rep [] (.int (0 : Int32)) 10)
        refine own_by st83 ?_
        have sg89 : ∀ t, own_S p e below T83 (mkF m 89 #[.val (.int p0)] [(.int (99 : Int32)), (.int (0 : Int32)), (.ref b83), (.ref b83)]) t → own_S p e below T83 (mkF m 85 #[.val (.int p0)] [(.ref b83)]) t := by
          intro t k
          show own_S p e below T83 (mkF m 85 #[.val (.int p0)] [(.ref b83)]) _
          refine XS.dup X83.here hx rfl (hb hby d13_85) rfl rfl ?_
          show own_S p e below T83 (mkF m 86 #[.val (.int p0)] [(.ref b83), (.ref b83)]) _
          refine XS.iconst X83.here hx rfl (hb hby d13_86) ?_
          show own_S p e below T83 (mkF m 87 #[.val (.int p0)] [(.int (0 : Int32)), (.ref b83), (.ref b83)]) _
          refine XS.bipush X83.here hx rfl (hb hby d13_87) ?_
          exact k
        refine own_by sg89 ?_
        obtain ⟨cl89, Ar89, qa89, Sa89, Na89, Ha89, Ga89⟩ := id V83
        obtain ⟨T89, h89, X89, e89, W89, st89⟩ := stC X83 hx hZ e83 Ar89 (j := (0 : Int32)) (inb_of Sa89 ⟨by decide, by decide⟩) (g := (mkF m 89 #[.val (.int p0)] [(.int (99 : Int32)), (.int (0 : Int32)), (.ref b83), (.ref b83)])) rfl rfl (hb hby d13_89)
        have V89 : Arv Z h89 b83 kc83 .char (10 : Int32) [(.int (99 : Int32)), (.int (0 : Int32)), (.int (0 : Int32)), (.int (0 : Int32)), (.int (0 : Int32)), (.int (0 : Int32)), (.int (0 : Int32)), (.int (0 : Int32)), (.int (0 : Int32)), (.int (0 : Int32))] (.int (0 : Int32)) := by
          have q := Arv.set Ar89 qa89 Sa89 Na89 Ha89 Ga89 (fits_nar_char _) W89 0 rfl (Nat.le_of_ble_eq_true rfl)
          exact q
        have K89 : Keep h0 h89 [] := K83.wr W89 (Or.inr sz_b83)
        have Z89 : n0 ≤ h89.size := Nat.le_trans Z83 (Keep.of_wr W89).1
        have N89 := Fr.snoc X89 N0 g_b83
        refine own_by st89 ?_
        have sg94 : ∀ t, own_S p e below T89 (mkF m 94 #[.val (.int p0)] [(.int (111 : Int32)), (.int (1 : Int32)), (.ref b83), (.ref b83)]) t → own_S p e below T89 (mkF m 90 #[.val (.int p0)] [(.ref b83)]) t := by
          intro t k
          show own_S p e below T89 (mkF m 90 #[.val (.int p0)] [(.ref b83)]) _
          refine XS.dup X89.here hx rfl (hb hby d13_90) rfl rfl ?_
          show own_S p e below T89 (mkF m 91 #[.val (.int p0)] [(.ref b83), (.ref b83)]) _
          refine XS.iconst X89.here hx rfl (hb hby d13_91) ?_
          show own_S p e below T89 (mkF m 92 #[.val (.int p0)] [(.int (1 : Int32)), (.ref b83), (.ref b83)]) _
          refine XS.bipush X89.here hx rfl (hb hby d13_92) ?_
          exact k
        refine own_by sg94 ?_
        obtain ⟨cl94, Ar94, qa94, Sa94, Na94, Ha94, Ga94⟩ := id V89
        obtain ⟨T94, h94, X94, e94, W94, st94⟩ := stC X89 hx hZ e89 Ar94 (j := (1 : Int32)) (inb_of Sa94 ⟨by decide, by decide⟩) (g := (mkF m 94 #[.val (.int p0)] [(.int (111 : Int32)), (.int (1 : Int32)), (.ref b83), (.ref b83)])) rfl rfl (hb hby d13_94)
        have V94 : Arv Z h94 b83 kc83 .char (10 : Int32) [(.int (99 : Int32)), (.int (111 : Int32)), (.int (0 : Int32)), (.int (0 : Int32)), (.int (0 : Int32)), (.int (0 : Int32)), (.int (0 : Int32)), (.int (0 : Int32)), (.int (0 : Int32)), (.int (0 : Int32))] (.int (0 : Int32)) := by
          have q := Arv.set Ar94 qa94 Sa94 Na94 Ha94 Ga94 (fits_nar_char _) W94 1 rfl (Nat.le_of_ble_eq_true rfl)
          exact q
        have K94 : Keep h0 h94 [] := K89.wr W94 (Or.inr sz_b83)
        have Z94 : n0 ≤ h94.size := Nat.le_trans Z89 (Keep.of_wr W94).1
        have N94 := Fr.snoc X94 N89 g_b83
        refine own_by st94 ?_
        have sg99 : ∀ t, own_S p e below T94 (mkF m 99 #[.val (.int p0)] [(.int (110 : Int32)), (.int (2 : Int32)), (.ref b83), (.ref b83)]) t → own_S p e below T94 (mkF m 95 #[.val (.int p0)] [(.ref b83)]) t := by
          intro t k
          show own_S p e below T94 (mkF m 95 #[.val (.int p0)] [(.ref b83)]) _
          refine XS.dup X94.here hx rfl (hb hby d13_95) rfl rfl ?_
          show own_S p e below T94 (mkF m 96 #[.val (.int p0)] [(.ref b83), (.ref b83)]) _
          refine XS.iconst X94.here hx rfl (hb hby d13_96) ?_
          show own_S p e below T94 (mkF m 97 #[.val (.int p0)] [(.int (2 : Int32)), (.ref b83), (.ref b83)]) _
          refine XS.bipush X94.here hx rfl (hb hby d13_97) ?_
          exact k
        refine own_by sg99 ?_
        obtain ⟨cl99, Ar99, qa99, Sa99, Na99, Ha99, Ga99⟩ := id V94
        obtain ⟨T99, h99, X99, e99, W99, st99⟩ := stC X94 hx hZ e94 Ar99 (j := (2 : Int32)) (inb_of Sa99 ⟨by decide, by decide⟩) (g := (mkF m 99 #[.val (.int p0)] [(.int (110 : Int32)), (.int (2 : Int32)), (.ref b83), (.ref b83)])) rfl rfl (hb hby d13_99)
        have V99 : Arv Z h99 b83 kc83 .char (10 : Int32) [(.int (99 : Int32)), (.int (111 : Int32)), (.int (110 : Int32)), (.int (0 : Int32)), (.int (0 : Int32)), (.int (0 : Int32)), (.int (0 : Int32)), (.int (0 : Int32)), (.int (0 : Int32)), (.int (0 : Int32))] (.int (0 : Int32)) := by
          have q := Arv.set Ar99 qa99 Sa99 Na99 Ha99 Ga99 (fits_nar_char _) W99 2 rfl (Nat.le_of_ble_eq_true rfl)
          exact q
        have K99 : Keep h0 h99 [] := K94.wr W99 (Or.inr sz_b83)
        have Z99 : n0 ≤ h99.size := Nat.le_trans Z94 (Keep.of_wr W99).1
        have N99 := Fr.snoc X99 N94 g_b83
        refine own_by st99 ?_
        have sg104 : ∀ t, own_S p e below T99 (mkF m 104 #[.val (.int p0)] [(.int (115 : Int32)), (.int (3 : Int32)), (.ref b83), (.ref b83)]) t → own_S p e below T99 (mkF m 100 #[.val (.int p0)] [(.ref b83)]) t := by
          intro t k
          show own_S p e below T99 (mkF m 100 #[.val (.int p0)] [(.ref b83)]) _
          refine XS.dup X99.here hx rfl (hb hby d13_100) rfl rfl ?_
          show own_S p e below T99 (mkF m 101 #[.val (.int p0)] [(.ref b83), (.ref b83)]) _
          refine XS.iconst X99.here hx rfl (hb hby d13_101) ?_
          show own_S p e below T99 (mkF m 102 #[.val (.int p0)] [(.int (3 : Int32)), (.ref b83), (.ref b83)]) _
          refine XS.bipush X99.here hx rfl (hb hby d13_102) ?_
          exact k
        refine own_by sg104 ?_
        obtain ⟨cl104, Ar104, qa104, Sa104, Na104, Ha104, Ga104⟩ := id V99
        obtain ⟨T104, h104, X104, e104, W104, st104⟩ := stC X99 hx hZ e99 Ar104 (j := (3 : Int32)) (inb_of Sa104 ⟨by decide, by decide⟩) (g := (mkF m 104 #[.val (.int p0)] [(.int (115 : Int32)), (.int (3 : Int32)), (.ref b83), (.ref b83)])) rfl rfl (hb hby d13_104)
        have V104 : Arv Z h104 b83 kc83 .char (10 : Int32) [(.int (99 : Int32)), (.int (111 : Int32)), (.int (110 : Int32)), (.int (115 : Int32)), (.int (0 : Int32)), (.int (0 : Int32)), (.int (0 : Int32)), (.int (0 : Int32)), (.int (0 : Int32)), (.int (0 : Int32))] (.int (0 : Int32)) := by
          have q := Arv.set Ar104 qa104 Sa104 Na104 Ha104 Ga104 (fits_nar_char _) W104 3 rfl (Nat.le_of_ble_eq_true rfl)
          exact q
        have K104 : Keep h0 h104 [] := K99.wr W104 (Or.inr sz_b83)
        have Z104 : n0 ≤ h104.size := Nat.le_trans Z99 (Keep.of_wr W104).1
        have N104 := Fr.snoc X104 N99 g_b83
        refine own_by st104 ?_
        have sg109 : ∀ t, own_S p e below T104 (mkF m 109 #[.val (.int p0)] [(.int (116 : Int32)), (.int (4 : Int32)), (.ref b83), (.ref b83)]) t → own_S p e below T104 (mkF m 105 #[.val (.int p0)] [(.ref b83)]) t := by
          intro t k
          show own_S p e below T104 (mkF m 105 #[.val (.int p0)] [(.ref b83)]) _
          refine XS.dup X104.here hx rfl (hb hby d13_105) rfl rfl ?_
          show own_S p e below T104 (mkF m 106 #[.val (.int p0)] [(.ref b83), (.ref b83)]) _
          refine XS.iconst X104.here hx rfl (hb hby d13_106) ?_
          show own_S p e below T104 (mkF m 107 #[.val (.int p0)] [(.int (4 : Int32)), (.ref b83), (.ref b83)]) _
          refine XS.bipush X104.here hx rfl (hb hby d13_107) ?_
          exact k
        refine own_by sg109 ?_
        obtain ⟨cl109, Ar109, qa109, Sa109, Na109, Ha109, Ga109⟩ := id V104
        obtain ⟨T109, h109, X109, e109, W109, st109⟩ := stC X104 hx hZ e104 Ar109 (j := (4 : Int32)) (inb_of Sa109 ⟨by decide, by decide⟩) (g := (mkF m 109 #[.val (.int p0)] [(.int (116 : Int32)), (.int (4 : Int32)), (.ref b83), (.ref b83)])) rfl rfl (hb hby d13_109)
        have V109 : Arv Z h109 b83 kc83 .char (10 : Int32) [(.int (99 : Int32)), (.int (111 : Int32)), (.int (110 : Int32)), (.int (115 : Int32)), (.int (116 : Int32)), (.int (0 : Int32)), (.int (0 : Int32)), (.int (0 : Int32)), (.int (0 : Int32)), (.int (0 : Int32))] (.int (0 : Int32)) := by
          have q := Arv.set Ar109 qa109 Sa109 Na109 Ha109 Ga109 (fits_nar_char _) W109 4 rfl (Nat.le_of_ble_eq_true rfl)
          exact q
        have K109 : Keep h0 h109 [] := K104.wr W109 (Or.inr sz_b83)
        have Z109 : n0 ≤ h109.size := Nat.le_trans Z104 (Keep.of_wr W109).1
        have N109 := Fr.snoc X109 N104 g_b83
        refine own_by st109 ?_
        have sg114 : ∀ t, own_S p e below T109 (mkF m 114 #[.val (.int p0)] [(.int (114 : Int32)), (.int (5 : Int32)), (.ref b83), (.ref b83)]) t → own_S p e below T109 (mkF m 110 #[.val (.int p0)] [(.ref b83)]) t := by
          intro t k
          show own_S p e below T109 (mkF m 110 #[.val (.int p0)] [(.ref b83)]) _
          refine XS.dup X109.here hx rfl (hb hby d13_110) rfl rfl ?_
          show own_S p e below T109 (mkF m 111 #[.val (.int p0)] [(.ref b83), (.ref b83)]) _
          refine XS.iconst X109.here hx rfl (hb hby d13_111) ?_
          show own_S p e below T109 (mkF m 112 #[.val (.int p0)] [(.int (5 : Int32)), (.ref b83), (.ref b83)]) _
          refine XS.bipush X109.here hx rfl (hb hby d13_112) ?_
          exact k
        refine own_by sg114 ?_
        obtain ⟨cl114, Ar114, qa114, Sa114, Na114, Ha114, Ga114⟩ := id V109
        obtain ⟨T114, h114, X114, e114, W114, st114⟩ := stC X109 hx hZ e109 Ar114 (j := (5 : Int32)) (inb_of Sa114 ⟨by decide, by decide⟩) (g := (mkF m 114 #[.val (.int p0)] [(.int (114 : Int32)), (.int (5 : Int32)), (.ref b83), (.ref b83)])) rfl rfl (hb hby d13_114)
        have V114 : Arv Z h114 b83 kc83 .char (10 : Int32) [(.int (99 : Int32)), (.int (111 : Int32)), (.int (110 : Int32)), (.int (115 : Int32)), (.int (116 : Int32)), (.int (114 : Int32)), (.int (0 : Int32)), (.int (0 : Int32)), (.int (0 : Int32)), (.int (0 : Int32))] (.int (0 : Int32)) := by
          have q := Arv.set Ar114 qa114 Sa114 Na114 Ha114 Ga114 (fits_nar_char _) W114 5 rfl (Nat.le_of_ble_eq_true rfl)
          exact q
        have K114 : Keep h0 h114 [] := K109.wr W114 (Or.inr sz_b83)
        have Z114 : n0 ≤ h114.size := Nat.le_trans Z109 (Keep.of_wr W114).1
        have N114 := Fr.snoc X114 N109 g_b83
        refine own_by st114 ?_
        have sg120 : ∀ t, own_S p e below T114 (mkF m 120 #[.val (.int p0)] [(.int (117 : Int32)), (.int (6 : Int32)), (.ref b83), (.ref b83)]) t → own_S p e below T114 (mkF m 115 #[.val (.int p0)] [(.ref b83)]) t := by
          intro t k
          show own_S p e below T114 (mkF m 115 #[.val (.int p0)] [(.ref b83)]) _
          refine XS.dup X114.here hx rfl (hb hby d13_115) rfl rfl ?_
          show own_S p e below T114 (mkF m 116 #[.val (.int p0)] [(.ref b83), (.ref b83)]) _
          refine XS.bipush X114.here hx rfl (hb hby d13_116) ?_
          show own_S p e below T114 (mkF m 118 #[.val (.int p0)] [(.int (6 : Int32)), (.ref b83), (.ref b83)]) _
          refine XS.bipush X114.here hx rfl (hb hby d13_118) ?_
          exact k
        refine own_by sg120 ?_
        obtain ⟨cl120, Ar120, qa120, Sa120, Na120, Ha120, Ga120⟩ := id V114
        obtain ⟨T120, h120, X120, e120, W120, st120⟩ := stC X114 hx hZ e114 Ar120 (j := (6 : Int32)) (inb_of Sa120 ⟨by decide, by decide⟩) (g := (mkF m 120 #[.val (.int p0)] [(.int (117 : Int32)), (.int (6 : Int32)), (.ref b83), (.ref b83)])) rfl rfl (hb hby d13_120)
        have V120 : Arv Z h120 b83 kc83 .char (10 : Int32) [(.int (99 : Int32)), (.int (111 : Int32)), (.int (110 : Int32)), (.int (115 : Int32)), (.int (116 : Int32)), (.int (114 : Int32)), (.int (117 : Int32)), (.int (0 : Int32)), (.int (0 : Int32)), (.int (0 : Int32))] (.int (0 : Int32)) := by
          have q := Arv.set Ar120 qa120 Sa120 Na120 Ha120 Ga120 (fits_nar_char _) W120 6 rfl (Nat.le_of_ble_eq_true rfl)
          exact q
        have K120 : Keep h0 h120 [] := K114.wr W120 (Or.inr sz_b83)
        have Z120 : n0 ≤ h120.size := Nat.le_trans Z114 (Keep.of_wr W120).1
        have N120 := Fr.snoc X120 N114 g_b83
        refine own_by st120 ?_
        have sg126 : ∀ t, own_S p e below T120 (mkF m 126 #[.val (.int p0)] [(.int (99 : Int32)), (.int (7 : Int32)), (.ref b83), (.ref b83)]) t → own_S p e below T120 (mkF m 121 #[.val (.int p0)] [(.ref b83)]) t := by
          intro t k
          show own_S p e below T120 (mkF m 121 #[.val (.int p0)] [(.ref b83)]) _
          refine XS.dup X120.here hx rfl (hb hby d13_121) rfl rfl ?_
          show own_S p e below T120 (mkF m 122 #[.val (.int p0)] [(.ref b83), (.ref b83)]) _
          refine XS.bipush X120.here hx rfl (hb hby d13_122) ?_
          show own_S p e below T120 (mkF m 124 #[.val (.int p0)] [(.int (7 : Int32)), (.ref b83), (.ref b83)]) _
          refine XS.bipush X120.here hx rfl (hb hby d13_124) ?_
          exact k
        refine own_by sg126 ?_
        obtain ⟨cl126, Ar126, qa126, Sa126, Na126, Ha126, Ga126⟩ := id V120
        obtain ⟨T126, h126, X126, e126, W126, st126⟩ := stC X120 hx hZ e120 Ar126 (j := (7 : Int32)) (inb_of Sa126 ⟨by decide, by decide⟩) (g := (mkF m 126 #[.val (.int p0)] [(.int (99 : Int32)), (.int (7 : Int32)), (.ref b83), (.ref b83)])) rfl rfl (hb hby d13_126)
        have V126 : Arv Z h126 b83 kc83 .char (10 : Int32) [(.int (99 : Int32)), (.int (111 : Int32)), (.int (110 : Int32)), (.int (115 : Int32)), (.int (116 : Int32)), (.int (114 : Int32)), (.int (117 : Int32)), (.int (99 : Int32)), (.int (0 : Int32)), (.int (0 : Int32))] (.int (0 : Int32)) := by
          have q := Arv.set Ar126 qa126 Sa126 Na126 Ha126 Ga126 (fits_nar_char _) W126 7 rfl (Nat.le_of_ble_eq_true rfl)
          exact q
        have K126 : Keep h0 h126 [] := K120.wr W126 (Or.inr sz_b83)
        have Z126 : n0 ≤ h126.size := Nat.le_trans Z120 (Keep.of_wr W126).1
        have N126 := Fr.snoc X126 N120 g_b83
        refine own_by st126 ?_
        have sg132 : ∀ t, own_S p e below T126 (mkF m 132 #[.val (.int p0)] [(.int (116 : Int32)), (.int (8 : Int32)), (.ref b83), (.ref b83)]) t → own_S p e below T126 (mkF m 127 #[.val (.int p0)] [(.ref b83)]) t := by
          intro t k
          show own_S p e below T126 (mkF m 127 #[.val (.int p0)] [(.ref b83)]) _
          refine XS.dup X126.here hx rfl (hb hby d13_127) rfl rfl ?_
          show own_S p e below T126 (mkF m 128 #[.val (.int p0)] [(.ref b83), (.ref b83)]) _
          refine XS.bipush X126.here hx rfl (hb hby d13_128) ?_
          show own_S p e below T126 (mkF m 130 #[.val (.int p0)] [(.int (8 : Int32)), (.ref b83), (.ref b83)]) _
          refine XS.bipush X126.here hx rfl (hb hby d13_130) ?_
          exact k
        refine own_by sg132 ?_
        obtain ⟨cl132, Ar132, qa132, Sa132, Na132, Ha132, Ga132⟩ := id V126
        obtain ⟨T132, h132, X132, e132, W132, st132⟩ := stC X126 hx hZ e126 Ar132 (j := (8 : Int32)) (inb_of Sa132 ⟨by decide, by decide⟩) (g := (mkF m 132 #[.val (.int p0)] [(.int (116 : Int32)), (.int (8 : Int32)), (.ref b83), (.ref b83)])) rfl rfl (hb hby d13_132)
        have V132 : Arv Z h132 b83 kc83 .char (10 : Int32) [(.int (99 : Int32)), (.int (111 : Int32)), (.int (110 : Int32)), (.int (115 : Int32)), (.int (116 : Int32)), (.int (114 : Int32)), (.int (117 : Int32)), (.int (99 : Int32)), (.int (116 : Int32)), (.int (0 : Int32))] (.int (0 : Int32)) := by
          have q := Arv.set Ar132 qa132 Sa132 Na132 Ha132 Ga132 (fits_nar_char _) W132 8 rfl (Nat.le_of_ble_eq_true rfl)
          exact q
        have K132 : Keep h0 h132 [] := K126.wr W132 (Or.inr sz_b83)
        have Z132 : n0 ≤ h132.size := Nat.le_trans Z126 (Keep.of_wr W132).1
        have N132 := Fr.snoc X132 N126 g_b83
        refine own_by st132 ?_
        have sg138 : ∀ t, own_S p e below T132 (mkF m 138 #[.val (.int p0)] [(.int (111 : Int32)), (.int (9 : Int32)), (.ref b83), (.ref b83)]) t → own_S p e below T132 (mkF m 133 #[.val (.int p0)] [(.ref b83)]) t := by
          intro t k
          show own_S p e below T132 (mkF m 133 #[.val (.int p0)] [(.ref b83)]) _
          refine XS.dup X132.here hx rfl (hb hby d13_133) rfl rfl ?_
          show own_S p e below T132 (mkF m 134 #[.val (.int p0)] [(.ref b83), (.ref b83)]) _
          refine XS.bipush X132.here hx rfl (hb hby d13_134) ?_
          show own_S p e below T132 (mkF m 136 #[.val (.int p0)] [(.int (9 : Int32)), (.ref b83), (.ref b83)]) _
          refine XS.bipush X132.here hx rfl (hb hby d13_136) ?_
          exact k
        refine own_by sg138 ?_
        obtain ⟨cl138, Ar138, qa138, Sa138, Na138, Ha138, Ga138⟩ := id V132
        obtain ⟨T138, h138, X138, e138, W138, st138⟩ := stC X132 hx hZ e132 Ar138 (j := (9 : Int32)) (inb_of Sa138 ⟨by decide, by decide⟩) (g := (mkF m 138 #[.val (.int p0)] [(.int (111 : Int32)), (.int (9 : Int32)), (.ref b83), (.ref b83)])) rfl rfl (hb hby d13_138)
        have V138 : Arv Z h138 b83 kc83 .char (10 : Int32) [(.int (99 : Int32)), (.int (111 : Int32)), (.int (110 : Int32)), (.int (115 : Int32)), (.int (116 : Int32)), (.int (114 : Int32)), (.int (117 : Int32)), (.int (99 : Int32)), (.int (116 : Int32)), (.int (111 : Int32))] (.int (0 : Int32)) := by
          have q := Arv.set Ar138 qa138 Sa138 Na138 Ha138 Ga138 (fits_nar_char _) W138 9 rfl (Nat.le_of_ble_eq_true rfl)
          exact q
        have K138 : Keep h0 h138 [] := K132.wr W138 (Or.inr sz_b83)
        have Z138 : n0 ≤ h138.size := Nat.le_trans Z132 (Keep.of_wr W138).1
        have N138 := Fr.snoc X138 N132 g_b83
        refine own_by st138 ?_
        obtain ⟨fs, hr, hrun, hended, hW, hsame⟩ := X138.leave (v := some (.ref b83)) (fun h => by rw [Bd.returns] at h; cases h)
        refine ⟨_, _, ?_, hrun, hended, _, _, rfl, ?_, ⟨_, rfl⟩, hW, hsame.mono (by decide) (by decide)⟩
        · show Steps p.tables e below (T138.setTop (mkF m 139 #[.val (.int p0)] [(.ref b83)])) _
          jvm_step X138.here [X138.here.top, hx, (hb hby d13_139), X138.method', Bd.returns, Value.isRef, FieldType.isReference]
          first | (intro acts; rw [hr _ acts rfl rfl rfl]) | rw [hr _ _ rfl rfl rfl]
          exact Steps.refl _
        · show Q13 Z p0 h0 n0 _ T138.heap _
          rw [e138]
          exact ⟨_, _, rfl, sz_b83, N138, K138, (by unfold own_shorter; rw [if_neg hc1, if_neg hc15, if_neg hc49]; exact V138)⟩
theorem d14_0 : decode method_6_code 0 = .ok (.iload_n 0, 1) := by decide +kernel
theorem d14_1 : decode method_6_code 1 = .ok (.ifCond .ne 21, 3) := by decide +kernel
theorem d14_4 : decode method_6_code 4 = .ok (.iconst 3, 1) := by decide +kernel
theorem d14_5 : decode method_6_code 5 = .ok (.newarray .char, 2) := by decide +kernel
theorem d14_7 : decode method_6_code 7 = .ok (.dup, 1) := by decide +kernel
theorem d14_8 : decode method_6_code 8 = .ok (.iconst 0, 1) := by decide +kernel
theorem d14_9 : decode method_6_code 9 = .ok (.bipush 110, 2) := by decide +kernel
theorem d14_11 : decode method_6_code 11 = .ok (.castore, 1) := by decide +kernel
theorem d14_12 : decode method_6_code 12 = .ok (.dup, 1) := by decide +kernel
theorem d14_13 : decode method_6_code 13 = .ok (.iconst 1, 1) := by decide +kernel
theorem d14_14 : decode method_6_code 14 = .ok (.bipush 111, 2) := by decide +kernel
theorem d14_16 : decode method_6_code 16 = .ok (.castore, 1) := by decide +kernel
theorem d14_17 : decode method_6_code 17 = .ok (.dup, 1) := by decide +kernel
theorem d14_18 : decode method_6_code 18 = .ok (.iconst 2, 1) := by decide +kernel
theorem d14_19 : decode method_6_code 19 = .ok (.iload_n 1, 1) := by decide +kernel
theorem d14_20 : decode method_6_code 20 = .ok (.castore, 1) := by decide +kernel
theorem d14_21 : decode method_6_code 21 = .ok (.areturn, 1) := by decide +kernel
theorem d14_22 : decode method_6_code 22 = .ok (.iload_n 0, 1) := by decide +kernel
theorem d14_23 : decode method_6_code 23 = .ok (.iconst 1, 1) := by decide +kernel
theorem d14_24 : decode method_6_code 24 = .ok (.if_icmp .ne 43, 3) := by decide +kernel
theorem d14_27 : decode method_6_code 27 = .ok (.bipush 7, 2) := by decide +kernel
theorem d14_29 : decode method_6_code 29 = .ok (.newarray .char, 2) := by decide +kernel
theorem d14_31 : decode method_6_code 31 = .ok (.dup, 1) := by decide +kernel
theorem d14_32 : decode method_6_code 32 = .ok (.iconst 0, 1) := by decide +kernel
theorem d14_33 : decode method_6_code 33 = .ok (.bipush 98, 2) := by decide +kernel
theorem d14_35 : decode method_6_code 35 = .ok (.castore, 1) := by decide +kernel
theorem d14_36 : decode method_6_code 36 = .ok (.dup, 1) := by decide +kernel
theorem d14_37 : decode method_6_code 37 = .ok (.iconst 1, 1) := by decide +kernel
theorem d14_38 : decode method_6_code 38 = .ok (.bipush 121, 2) := by decide +kernel
theorem d14_40 : decode method_6_code 40 = .ok (.castore, 1) := by decide +kernel
theorem d14_41 : decode method_6_code 41 = .ok (.dup, 1) := by decide +kernel
theorem d14_42 : decode method_6_code 42 = .ok (.iconst 2, 1) := by decide +kernel
theorem d14_43 : decode method_6_code 43 = .ok (.bipush 78, 2) := by decide +kernel
theorem d14_45 : decode method_6_code 45 = .ok (.castore, 1) := by decide +kernel
theorem d14_46 : decode method_6_code 46 = .ok (.dup, 1) := by decide +kernel
theorem d14_47 : decode method_6_code 47 = .ok (.iconst 3, 1) := by decide +kernel
theorem d14_48 : decode method_6_code 48 = .ok (.bipush 97, 2) := by decide +kernel
theorem d14_50 : decode method_6_code 50 = .ok (.castore, 1) := by decide +kernel
theorem d14_51 : decode method_6_code 51 = .ok (.dup, 1) := by decide +kernel
theorem d14_52 : decode method_6_code 52 = .ok (.iconst 4, 1) := by decide +kernel
theorem d14_53 : decode method_6_code 53 = .ok (.bipush 109, 2) := by decide +kernel
theorem d14_55 : decode method_6_code 55 = .ok (.castore, 1) := by decide +kernel
theorem d14_56 : decode method_6_code 56 = .ok (.dup, 1) := by decide +kernel
theorem d14_57 : decode method_6_code 57 = .ok (.iconst 5, 1) := by decide +kernel
theorem d14_58 : decode method_6_code 58 = .ok (.bipush 101, 2) := by decide +kernel
theorem d14_60 : decode method_6_code 60 = .ok (.castore, 1) := by decide +kernel
theorem d14_61 : decode method_6_code 61 = .ok (.dup, 1) := by decide +kernel
theorem d14_62 : decode method_6_code 62 = .ok (.bipush 6, 2) := by decide +kernel
theorem d14_64 : decode method_6_code 64 = .ok (.iload_n 1, 1) := by decide +kernel
theorem d14_65 : decode method_6_code 65 = .ok (.castore, 1) := by decide +kernel
theorem d14_66 : decode method_6_code 66 = .ok (.areturn, 1) := by decide +kernel
theorem d14_67 : decode method_6_code 67 = .ok (.iload_n 0, 1) := by decide +kernel
theorem d14_68 : decode method_6_code 68 = .ok (.iconst 2, 1) := by decide +kernel
theorem d14_69 : decode method_6_code 69 = .ok (.if_icmp .ne 43, 3) := by decide +kernel
theorem d14_72 : decode method_6_code 72 = .ok (.bipush 7, 2) := by decide +kernel
theorem d14_74 : decode method_6_code 74 = .ok (.newarray .char, 2) := by decide +kernel
theorem d14_76 : decode method_6_code 76 = .ok (.dup, 1) := by decide +kernel
theorem d14_77 : decode method_6_code 77 = .ok (.iconst 0, 1) := by decide +kernel
theorem d14_78 : decode method_6_code 78 = .ok (.bipush 98, 2) := by decide +kernel
theorem d14_80 : decode method_6_code 80 = .ok (.castore, 1) := by decide +kernel
theorem d14_81 : decode method_6_code 81 = .ok (.dup, 1) := by decide +kernel
theorem d14_82 : decode method_6_code 82 = .ok (.iconst 1, 1) := by decide +kernel
theorem d14_83 : decode method_6_code 83 = .ok (.bipush 121, 2) := by decide +kernel
theorem d14_85 : decode method_6_code 85 = .ok (.castore, 1) := by decide +kernel
theorem d14_86 : decode method_6_code 86 = .ok (.dup, 1) := by decide +kernel
theorem d14_87 : decode method_6_code 87 = .ok (.iconst 2, 1) := by decide +kernel
theorem d14_88 : decode method_6_code 88 = .ok (.bipush 84, 2) := by decide +kernel
theorem d14_90 : decode method_6_code 90 = .ok (.castore, 1) := by decide +kernel
theorem d14_91 : decode method_6_code 91 = .ok (.dup, 1) := by decide +kernel
theorem d14_92 : decode method_6_code 92 = .ok (.iconst 3, 1) := by decide +kernel
theorem d14_93 : decode method_6_code 93 = .ok (.bipush 121, 2) := by decide +kernel
theorem d14_95 : decode method_6_code 95 = .ok (.castore, 1) := by decide +kernel
theorem d14_96 : decode method_6_code 96 = .ok (.dup, 1) := by decide +kernel
theorem d14_97 : decode method_6_code 97 = .ok (.iconst 4, 1) := by decide +kernel
theorem d14_98 : decode method_6_code 98 = .ok (.bipush 112, 2) := by decide +kernel
theorem d14_100 : decode method_6_code 100 = .ok (.castore, 1) := by decide +kernel
theorem d14_101 : decode method_6_code 101 = .ok (.dup, 1) := by decide +kernel
theorem d14_102 : decode method_6_code 102 = .ok (.iconst 5, 1) := by decide +kernel
theorem d14_103 : decode method_6_code 103 = .ok (.bipush 101, 2) := by decide +kernel
theorem d14_105 : decode method_6_code 105 = .ok (.castore, 1) := by decide +kernel
theorem d14_106 : decode method_6_code 106 = .ok (.dup, 1) := by decide +kernel
theorem d14_107 : decode method_6_code 107 = .ok (.bipush 6, 2) := by decide +kernel
theorem d14_109 : decode method_6_code 109 = .ok (.iload_n 1, 1) := by decide +kernel
theorem d14_110 : decode method_6_code 110 = .ok (.castore, 1) := by decide +kernel
theorem d14_111 : decode method_6_code 111 = .ok (.areturn, 1) := by decide +kernel
theorem d14_112 : decode method_6_code 112 = .ok (.bipush 12, 2) := by decide +kernel
theorem d14_114 : decode method_6_code 114 = .ok (.newarray .char, 2) := by decide +kernel
theorem d14_116 : decode method_6_code 116 = .ok (.dup, 1) := by decide +kernel
theorem d14_117 : decode method_6_code 117 = .ok (.iconst 0, 1) := by decide +kernel
theorem d14_118 : decode method_6_code 118 = .ok (.bipush 99, 2) := by decide +kernel
theorem d14_120 : decode method_6_code 120 = .ok (.castore, 1) := by decide +kernel
theorem d14_121 : decode method_6_code 121 = .ok (.dup, 1) := by decide +kernel
theorem d14_122 : decode method_6_code 122 = .ok (.iconst 1, 1) := by decide +kernel
theorem d14_123 : decode method_6_code 123 = .ok (.bipush 111, 2) := by decide +kernel
theorem d14_125 : decode method_6_code 125 = .ok (.castore, 1) := by decide +kernel
theorem d14_126 : decode method_6_code 126 = .ok (.dup, 1) := by decide +kernel
theorem d14_127 : decode method_6_code 127 = .ok (.iconst 2, 1) := by decide +kernel
theorem d14_128 : decode method_6_code 128 = .ok (.bipush 110, 2) := by decide +kernel
theorem d14_130 : decode method_6_code 130 = .ok (.castore, 1) := by decide +kernel
theorem d14_131 : decode method_6_code 131 = .ok (.dup, 1) := by decide +kernel
theorem d14_132 : decode method_6_code 132 = .ok (.iconst 3, 1) := by decide +kernel
theorem d14_133 : decode method_6_code 133 = .ok (.bipush 115, 2) := by decide +kernel
theorem d14_135 : decode method_6_code 135 = .ok (.castore, 1) := by decide +kernel
theorem d14_136 : decode method_6_code 136 = .ok (.dup, 1) := by decide +kernel
theorem d14_137 : decode method_6_code 137 = .ok (.iconst 4, 1) := by decide +kernel
theorem d14_138 : decode method_6_code 138 = .ok (.bipush 116, 2) := by decide +kernel
theorem d14_140 : decode method_6_code 140 = .ok (.castore, 1) := by decide +kernel
theorem d14_141 : decode method_6_code 141 = .ok (.dup, 1) := by decide +kernel
theorem d14_142 : decode method_6_code 142 = .ok (.iconst 5, 1) := by decide +kernel
theorem d14_143 : decode method_6_code 143 = .ok (.bipush 114, 2) := by decide +kernel
theorem d14_145 : decode method_6_code 145 = .ok (.castore, 1) := by decide +kernel
theorem d14_146 : decode method_6_code 146 = .ok (.dup, 1) := by decide +kernel
theorem d14_147 : decode method_6_code 147 = .ok (.bipush 6, 2) := by decide +kernel
theorem d14_149 : decode method_6_code 149 = .ok (.bipush 117, 2) := by decide +kernel
theorem d14_151 : decode method_6_code 151 = .ok (.castore, 1) := by decide +kernel
theorem d14_152 : decode method_6_code 152 = .ok (.dup, 1) := by decide +kernel
theorem d14_153 : decode method_6_code 153 = .ok (.bipush 7, 2) := by decide +kernel
theorem d14_155 : decode method_6_code 155 = .ok (.bipush 99, 2) := by decide +kernel
theorem d14_157 : decode method_6_code 157 = .ok (.castore, 1) := by decide +kernel
theorem d14_158 : decode method_6_code 158 = .ok (.dup, 1) := by decide +kernel
theorem d14_159 : decode method_6_code 159 = .ok (.bipush 8, 2) := by decide +kernel
theorem d14_161 : decode method_6_code 161 = .ok (.bipush 116, 2) := by decide +kernel
theorem d14_163 : decode method_6_code 163 = .ok (.castore, 1) := by decide +kernel
theorem d14_164 : decode method_6_code 164 = .ok (.dup, 1) := by decide +kernel
theorem d14_165 : decode method_6_code 165 = .ok (.bipush 9, 2) := by decide +kernel
theorem d14_167 : decode method_6_code 167 = .ok (.bipush 111, 2) := by decide +kernel
theorem d14_169 : decode method_6_code 169 = .ok (.castore, 1) := by decide +kernel
theorem d14_170 : decode method_6_code 170 = .ok (.dup, 1) := by decide +kernel
theorem d14_171 : decode method_6_code 171 = .ok (.bipush 10, 2) := by decide +kernel
theorem d14_173 : decode method_6_code 173 = .ok (.bipush 114, 2) := by decide +kernel
theorem d14_175 : decode method_6_code 175 = .ok (.castore, 1) := by decide +kernel
theorem d14_176 : decode method_6_code 176 = .ok (.dup, 1) := by decide +kernel
theorem d14_177 : decode method_6_code 177 = .ok (.bipush 11, 2) := by decide +kernel
theorem d14_179 : decode method_6_code 179 = .ok (.iload_n 1, 1) := by decide +kernel
theorem d14_180 : decode method_6_code 180 = .ok (.castore, 1) := by decide +kernel
theorem d14_181 : decode method_6_code 181 = .ok (.areturn, 1) := by decide +kernel
theorem pn_14 : plainFor (⟨"com/example/spojka/spojka/AutowireModeNamedPinLaw", "longer", "(IC)[C"⟩ : MethodName) = true := by first | exact plainFor_of_name (by first | (simp [plainName, overriddenIn]; done) | decide +kernel) | decide +kernel | exact Jvm.Free.JP.mathPlain rfl (by decide +kernel)
theorem ef_14 (m : MethodId) (p0 : Int32) (p1 : Int32) : entryFrame m #[(.int p0), (.int p1)] 2 = mkF m 0 #[.val (.int p0), .val (.int p1)] [] := by first | (simp [entryFrame, mkF, argsToLocals, Value.category]; done) | rfl
def Q14 (Z : State) (p0 : Int32) (p1 : Int32) (h0 : Heap) (n0 : Nat) (v : Option Value) (h : Heap) (L : List Loc) : Prop := ∃ r kc, v = some (.ref r) ∧ h0.size ≤ r ∧ Fr n0 L ∧ Keep h0 h [] ∧ Arv Z h r kc .char (Int32.ofNat (own_longer p0 p1).length) ((own_longer p0 p1).map Value.int) (.int 0)
set_option maxRecDepth 65536 in
set_option maxHeartbeats 40000000 in
theorem rm14 (l : Launch) (Z : State) (a0 : Array Value) (hw : ∀ d ∈ tables_1, d.before a0 Z = true) (ws : List Jvm.Cond) (p0 : Int32) (p1 : Int32) (h0 : Heap) (n0 : Nat) (Z0 : n0 ≤ h0.size) (hk : ¬ p1 < 0 ∧ ¬ (255 : Int32) < p1) :
    MetFree l (⟨"com/example/spojka/spojka/AutowireModeNamedPinLaw", "longer", "(IC)[C"⟩ : MethodName) (head1 (Jvm.Cond.code (⟨"com/example/spojka/spojka/AutowireModeNamedPinLaw", "longer", "(IC)[C"⟩ : MethodName) method_6_code 2 (some (.array .char)) :: ws) ({ frames := 0, cells := 1, slots := 12, locals := 0 } : Room)) (fun a U => a = #[(.int p0), (.int p1)] ∧ Z.Warmed39 U.vm ∧ U.heap = h0) (fun _ _ _ _ _ => True) (fun _ U o U' => ∃ v L, o = .returned v ∧ Q14 Z p0 p1 h0 n0 v U'.heap L ∧ FrameEnd U o U' L ({ frames := 0, cells := 1, slots := 12, locals := 0 } : Room).cells ({ frames := 0, cells := 1, slots := 12, locals := 0 } : Room).slots) := by
  refine MetFree.of_bodySF pn_14 hisR ?_
  intro p e s m args below meth c s₁ Bd hml0 hP hK
  obtain ⟨rfl, hZ, hh⟩ := hP
  have hx := Bd.exec
  have hby := Bd.bytes
  have hml : c.maxLocals = 2 := hml0
  have hown : s.vm.findClass "com/example/spojka/spojka/AutowireModeNamedPinLaw" = some m.cls := findClass_of_methodNamed Bd.named
  have hnm := (name_of_methodNamed Bd.named Bd.method).1
  have X0 : Stand p l e ({ frames := 0, cells := 1, slots := 12, locals := 0 } : Room) s m #[(.int p0), (.int p1)] below meth c s₁ [] 0 0 := Stand.of_body Bd
  have e0 : s₁.heap = h0 := by rw [← hh, Bd.state]; rfl
  have N0 := Fr.nil n0
  refine own_at (castTop (ef_14 m p0 p1)) ?_
  have K0 := Keep.refl h0 []
  have sg1 : ∀ t, own_S p e below s₁ (mkF m 1 #[.val (.int p0), .val (.int p1)] [(.int p0)]) t → own_S p e below s₁ (mkF m 0 #[.val (.int p0), .val (.int p1)] []) t := by
    intro t k
    show own_S p e below s₁ (mkF m 0 #[.val (.int p0), .val (.int p1)] []) _
    refine XS.iloadN X0.here hx rfl (hb hby d14_0) rfl ?_
    exact k
  refine own_by sg1 ?_
  by_cases hc1 : p0 = (0 : Int32)
  · have sg5 : ∀ t, own_S p e below s₁ (mkF m 5 #[.val (.int p0), .val (.int p1)] [(.int (3 : Int32))]) t → own_S p e below s₁ (mkF m 1 #[.val (.int p0), .val (.int p1)] [(.int p0)]) t := by
      intro t k
      show own_S p e below s₁ (mkF m 1 #[.val (.int p0), .val (.int p1)] [(.int p0)]) _
      refine XS.ifNo X0.here hx rfl (hb hby d14_1) rfl ((if0 _ _).trans (teq hc1).2) ?_
      show own_S p e below s₁ (mkF m 4 #[.val (.int p0), .val (.int p1)] []) _
      refine XS.iconst X0.here hx rfl (hb hby d14_4) ?_
      exact k
    refine own_by sg5 ?_
    obtain ⟨T5, h5, kc5, X5, e5, E5, A5, st5⟩ := newP X0 hx hZ (hw _ (List.mem_of_getElem? (i := 7) rfl)) e0 (g := (mkF m 5 #[.val (.int p0), .val (.int p1)] [(.int (3 : Int32))])) rfl (hb hby d14_5) rfl (by decide) (cap := 3) (by decide) (by decide) (by decide) (by decide)
    obtain ⟨b5, g5⟩ : ∃ z, z = h0.size := ⟨_, rfl⟩
    rw [← g5] at A5 st5
    have g_b5 : n0 ≤ b5 := Nat.le_trans Z0 (Nat.le_of_eq g5.symm)
    have sz_b5 : h0.size ≤ b5 := Nat.le_trans K0.1 (Nat.le_of_eq g5.symm)
    have K5 := K0.ext E5
    have Z5 : n0 ≤ h5.size := Nat.le_trans Z0 E5.1
    have V5 : Arv Z h5 b5 kc5 .char (3 : Int32) [(.int (0 : Int32)), (.int (0 : Int32)), (.int (0 : Int32))] (.int (0 : Int32)) := (Arv.new A5 (by decide)).pad (pad_rep [] (.int (0 : Int32)) 3)
    refine own_by st5 ?_
    have sg11 : ∀ t, own_S p e below T5 (mkF m 11 #[.val (.int p0), .val (.int p1)] [(.int (110 : Int32)), (.int (0 : Int32)), (.ref b5), (.ref b5)]) t → own_S p e below T5 (mkF m 7 #[.val (.int p0), .val (.int p1)] [(.ref b5)]) t := by
      intro t k
      show own_S p e below T5 (mkF m 7 #[.val (.int p0), .val (.int p1)] [(.ref b5)]) _
      refine XS.dup X5.here hx rfl (hb hby d14_7) rfl rfl ?_
      show own_S p e below T5 (mkF m 8 #[.val (.int p0), .val (.int p1)] [(.ref b5), (.ref b5)]) _
      refine XS.iconst X5.here hx rfl (hb hby d14_8) ?_
      show own_S p e below T5 (mkF m 9 #[.val (.int p0), .val (.int p1)] [(.int (0 : Int32)), (.ref b5), (.ref b5)]) _
      refine XS.bipush X5.here hx rfl (hb hby d14_9) ?_
      exact k
    refine own_by sg11 ?_
    obtain ⟨cl11, Ar11, qa11, Sa11, Na11, Ha11, Ga11⟩ := id V5
    obtain ⟨T11, h11, X11, e11, W11, st11⟩ := stC X5 hx hZ e5 Ar11 (j := (0 : Int32)) (inb_of Sa11 ⟨by decide, by decide⟩) (g := (mkF m 11 #[.val (.int p0), .val (.int p1)] [(.int (110 : Int32)), (.int (0 : Int32)), (.ref b5), (.ref b5)])) rfl rfl (hb hby d14_11)
    have V11 : Arv Z h11 b5 kc5 .char (3 : Int32) [(.int (110 : Int32)), (.int (0 : Int32)), (.int (0 : Int32))] (.int (0 : Int32)) := by
      have q := Arv.set Ar11 qa11 Sa11 Na11 Ha11 Ga11 (fits_nar_char _) W11 0 rfl (Nat.le_of_ble_eq_true rfl)
      exact q
    have K11 : Keep h0 h11 [] := K5.wr W11 (Or.inr sz_b5)
    have Z11 : n0 ≤ h11.size := Nat.le_trans Z5 (Keep.of_wr W11).1
    have N11 := Fr.snoc X11 N0 g_b5
    refine own_by st11 ?_
    have sg16 : ∀ t, own_S p e below T11 (mkF m 16 #[.val (.int p0), .val (.int p1)] [(.int (111 : Int32)), (.int (1 : Int32)), (.ref b5), (.ref b5)]) t → own_S p e below T11 (mkF m 12 #[.val (.int p0), .val (.int p1)] [(.ref b5)]) t := by
      intro t k
      show own_S p e below T11 (mkF m 12 #[.val (.int p0), .val (.int p1)] [(.ref b5)]) _
      refine XS.dup X11.here hx rfl (hb hby d14_12) rfl rfl ?_
      show own_S p e below T11 (mkF m 13 #[.val (.int p0), .val (.int p1)] [(.ref b5), (.ref b5)]) _
      refine XS.iconst X11.here hx rfl (hb hby d14_13) ?_
      show own_S p e below T11 (mkF m 14 #[.val (.int p0), .val (.int p1)] [(.int (1 : Int32)), (.ref b5), (.ref b5)]) _
      refine XS.bipush X11.here hx rfl (hb hby d14_14) ?_
      exact k
    refine own_by sg16 ?_
    obtain ⟨cl16, Ar16, qa16, Sa16, Na16, Ha16, Ga16⟩ := id V11
    obtain ⟨T16, h16, X16, e16, W16, st16⟩ := stC X11 hx hZ e11 Ar16 (j := (1 : Int32)) (inb_of Sa16 ⟨by decide, by decide⟩) (g := (mkF m 16 #[.val (.int p0), .val (.int p1)] [(.int (111 : Int32)), (.int (1 : Int32)), (.ref b5), (.ref b5)])) rfl rfl (hb hby d14_16)
    have V16 : Arv Z h16 b5 kc5 .char (3 : Int32) [(.int (110 : Int32)), (.int (111 : Int32)), (.int (0 : Int32))] (.int (0 : Int32)) := by
      have q := Arv.set Ar16 qa16 Sa16 Na16 Ha16 Ga16 (fits_nar_char _) W16 1 rfl (Nat.le_of_ble_eq_true rfl)
      exact q
    have K16 : Keep h0 h16 [] := K11.wr W16 (Or.inr sz_b5)
    have Z16 : n0 ≤ h16.size := Nat.le_trans Z11 (Keep.of_wr W16).1
    have N16 := Fr.snoc X16 N11 g_b5
    refine own_by st16 ?_
    have sg20 : ∀ t, own_S p e below T16 (mkF m 20 #[.val (.int p0), .val (.int p1)] [(.int p1), (.int (2 : Int32)), (.ref b5), (.ref b5)]) t → own_S p e below T16 (mkF m 17 #[.val (.int p0), .val (.int p1)] [(.ref b5)]) t := by
      intro t k
      show own_S p e below T16 (mkF m 17 #[.val (.int p0), .val (.int p1)] [(.ref b5)]) _
      refine XS.dup X16.here hx rfl (hb hby d14_17) rfl rfl ?_
      show own_S p e below T16 (mkF m 18 #[.val (.int p0), .val (.int p1)] [(.ref b5), (.ref b5)]) _
      refine XS.iconst X16.here hx rfl (hb hby d14_18) ?_
      show own_S p e below T16 (mkF m 19 #[.val (.int p0), .val (.int p1)] [(.int (2 : Int32)), (.ref b5), (.ref b5)]) _
      refine XS.iloadN X16.here hx rfl (hb hby d14_19) rfl ?_
      exact k
    refine own_by sg20 ?_
    obtain ⟨cl20, Ar20, qa20, Sa20, Na20, Ha20, Ga20⟩ := id V16
    obtain ⟨T20, h20, X20, e20, W20, st20⟩ := stC X16 hx hZ e16 Ar20 (j := (2 : Int32)) (inb_of Sa20 ⟨by decide, by decide⟩) (g := (mkF m 20 #[.val (.int p0), .val (.int p1)] [(.int p1), (.int (2 : Int32)), (.ref b5), (.ref b5)])) rfl rfl (hb hby d14_20)
    have V20 : Arv Z h20 b5 kc5 .char (3 : Int32) [(.int (110 : Int32)), (.int (111 : Int32)), (.int p1)] (.int (0 : Int32)) := by
      have q := Arv.set Ar20 qa20 Sa20 Na20 Ha20 Ga20 (fits_nar_char _) W20 2 rfl (Nat.le_of_ble_eq_true rfl)
      rw [own_narc hk] at q
      exact q
    have K20 : Keep h0 h20 [] := K16.wr W20 (Or.inr sz_b5)
    have Z20 : n0 ≤ h20.size := Nat.le_trans Z16 (Keep.of_wr W20).1
    have N20 := Fr.snoc X20 N16 g_b5
    refine own_by st20 ?_
    obtain ⟨fs, hr, hrun, hended, hW, hsame⟩ := X20.leave (v := some (.ref b5)) (fun h => by rw [Bd.returns] at h; cases h)
    refine ⟨_, _, ?_, hrun, hended, _, _, rfl, ?_, ⟨_, rfl⟩, hW, hsame.mono (by decide) (by decide)⟩
    · show Steps p.tables e below (T20.setTop (mkF m 21 #[.val (.int p0), .val (.int p1)] [(.ref b5)])) _
      jvm_step X20.here [X20.here.top, hx, (hb hby d14_21), X20.method', Bd.returns, Value.isRef, FieldType.isReference]
      first | (intro acts; rw [hr _ acts rfl rfl rfl]) | rw [hr _ _ rfl rfl rfl]
      exact Steps.refl _
    · show Q14 Z p0 p1 h0 n0 _ T20.heap _
      rw [e20]
      exact ⟨_, _, rfl, sz_b5, N20, K20, (by unfold own_longer; rw [if_pos hc1]; exact V20)⟩
  · have sg24 : ∀ t, own_S p e below s₁ (mkF m 24 #[.val (.int p0), .val (.int p1)] [(.int (1 : Int32)), (.int p0)]) t → own_S p e below s₁ (mkF m 1 #[.val (.int p0), .val (.int p1)] [(.int p0)]) t := by
      intro t k
      show own_S p e below s₁ (mkF m 1 #[.val (.int p0), .val (.int p1)] [(.int p0)]) _
      refine XS.ifYes X0.here hx rfl (pc0 := 1) (pc' := 22) rfl (hb hby d14_1) rfl ((if0 _ _).trans (feq hc1).2) (by decide) (by decide) ?_
      show own_S p e below s₁ (mkF m 22 #[.val (.int p0), .val (.int p1)] []) _
      refine XS.iloadN X0.here hx rfl (hb hby d14_22) rfl ?_
      show own_S p e below s₁ (mkF m 23 #[.val (.int p0), .val (.int p1)] [(.int p0)]) _
      refine XS.iconst X0.here hx rfl (hb hby d14_23) ?_
      exact k
    refine own_by sg24 ?_
    by_cases hc24 : p0 = (1 : Int32)
    · have sg29 : ∀ t, own_S p e below s₁ (mkF m 29 #[.val (.int p0), .val (.int p1)] [(.int (7 : Int32))]) t → own_S p e below s₁ (mkF m 24 #[.val (.int p0), .val (.int p1)] [(.int (1 : Int32)), (.int p0)]) t := by
        intro t k
        show own_S p e below s₁ (mkF m 24 #[.val (.int p0), .val (.int p1)] [(.int (1 : Int32)), (.int p0)]) _
        refine XS.icmpNo X0.here hx rfl (hb hby d14_24) rfl (teq hc24).2 ?_
        show own_S p e below s₁ (mkF m 27 #[.val (.int p0), .val (.int p1)] []) _
        refine XS.bipush X0.here hx rfl (hb hby d14_27) ?_
        exact k
      refine own_by sg29 ?_
      obtain ⟨T29, h29, kc29, X29, e29, E29, A29, st29⟩ := newP X0 hx hZ (hw _ (List.mem_of_getElem? (i := 7) rfl)) e0 (g := (mkF m 29 #[.val (.int p0), .val (.int p1)] [(.int (7 : Int32))])) rfl (hb hby d14_29) rfl (by decide) (cap := 7) (by decide) (by decide) (by decide) (by decide)
      obtain ⟨b29, g29⟩ : ∃ z, z = h0.size := ⟨_, rfl⟩
      rw [← g29] at A29 st29
      have g_b29 : n0 ≤ b29 := Nat.le_trans Z0 (Nat.le_of_eq g29.symm)
      have sz_b29 : h0.size ≤ b29 := Nat.le_trans K0.1 (Nat.le_of_eq g29.symm)
      have K29 := K0.ext E29
      have Z29 : n0 ≤ h29.size := Nat.le_trans Z0 E29.1
      have V29 : Arv Z h29 b29 kc29 .char (7 : Int32) [(.int (0 : Int32)), (.int (0 : Int32)), (.int (0 : Int32)), (.int (0 : Int32)), (.int (0 : Int32)), (.int (0 : Int32)), (.int (0 : Int32))] (.int (0 : Int32)) := (Arv.new A29 (by decide)).pad (pad_rep [] (.int (0 : Int32)) 7)
      refine own_by st29 ?_
      have sg35 : ∀ t, own_S p e below T29 (mkF m 35 #[.val (.int p0), .val (.int p1)] [(.int (98 : Int32)), (.int (0 : Int32)), (.ref b29), (.ref b29)]) t → own_S p e below T29 (mkF m 31 #[.val (.int p0), .val (.int p1)] [(.ref b29)]) t := by
        intro t k
        show own_S p e below T29 (mkF m 31 #[.val (.int p0), .val (.int p1)] [(.ref b29)]) _
        refine XS.dup X29.here hx rfl (hb hby d14_31) rfl rfl ?_
        show own_S p e below T29 (mkF m 32 #[.val (.int p0), .val (.int p1)] [(.ref b29), (.ref b29)]) _
        refine XS.iconst X29.here hx rfl (hb hby d14_32) ?_
        show own_S p e below T29 (mkF m 33 #[.val (.int p0), .val (.int p1)] [(.int (0 : Int32)), (.ref b29), (.ref b29)]) _
        refine XS.bipush X29.here hx rfl (hb hby d14_33) ?_
        exact k
      refine own_by sg35 ?_
      obtain ⟨cl35, Ar35, qa35, Sa35, Na35, Ha35, Ga35⟩ := id V29
      obtain ⟨T35, h35, X35, e35, W35, st35⟩ := stC X29 hx hZ e29 Ar35 (j := (0 : Int32)) (inb_of Sa35 ⟨by decide, by decide⟩) (g := (mkF m 35 #[.val (.int p0), .val (.int p1)] [(.int (98 : Int32)), (.int (0 : Int32)), (.ref b29), (.ref b29)])) rfl rfl (hb hby d14_35)
      have V35 : Arv Z h35 b29 kc29 .char (7 : Int32) [(.int (98 : Int32)), (.int (0 : Int32)), (.int (0 : Int32)), (.int (0 : Int32)), (.int (0 : Int32)), (.int (0 : Int32)), (.int (0 : Int32))] (.int (0 : Int32)) := by
        have q := Arv.set Ar35 qa35 Sa35 Na35 Ha35 Ga35 (fits_nar_char _) W35 0 rfl (Nat.le_of_ble_eq_true rfl)
        exact q
      have K35 : Keep h0 h35 [] := K29.wr W35 (Or.inr sz_b29)
      have Z35 : n0 ≤ h35.size := Nat.le_trans Z29 (Keep.of_wr W35).1
      have N35 := Fr.snoc X35 N0 g_b29
      refine own_by st35 ?_
      have sg40 : ∀ t, own_S p e below T35 (mkF m 40 #[.val (.int p0), .val (.int p1)] [(.int (121 : Int32)), (.int (1 : Int32)), (.ref b29), (.ref b29)]) t → own_S p e below T35 (mkF m 36 #[.val (.int p0), .val (.int p1)] [(.ref b29)]) t := by
        intro t k
        show own_S p e below T35 (mkF m 36 #[.val (.int p0), .val (.int p1)] [(.ref b29)]) _
        refine XS.dup X35.here hx rfl (hb hby d14_36) rfl rfl ?_
        show own_S p e below T35 (mkF m 37 #[.val (.int p0), .val (.int p1)] [(.ref b29), (.ref b29)]) _
        refine XS.iconst X35.here hx rfl (hb hby d14_37) ?_
        show own_S p e below T35 (mkF m 38 #[.val (.int p0), .val (.int p1)] [(.int (1 : Int32)), (.ref b29), (.ref b29)]) _
        refine XS.bipush X35.here hx rfl (hb hby d14_38) ?_
        exact k
      refine own_by sg40 ?_
      obtain ⟨cl40, Ar40, qa40, Sa40, Na40, Ha40, Ga40⟩ := id V35
      obtain ⟨T40, h40, X40, e40, W40, st40⟩ := stC X35 hx hZ e35 Ar40 (j := (1 : Int32)) (inb_of Sa40 ⟨by decide, by decide⟩) (g := (mkF m 40 #[.val (.int p0), .val (.int p1)] [(.int (121 : Int32)), (.int (1 : Int32)), (.ref b29), (.ref b29)])) rfl rfl (hb hby d14_40)
      have V40 : Arv Z h40 b29 kc29 .char (7 : Int32) [(.int (98 : Int32)), (.int (121 : Int32)), (.int (0 : Int32)), (.int (0 : Int32)), (.int (0 : Int32)), (.int (0 : Int32)), (.int (0 : Int32))] (.int (0 : Int32)) := by
        have q := Arv.set Ar40 qa40 Sa40 Na40 Ha40 Ga40 (fits_nar_char _) W40 1 rfl (Nat.le_of_ble_eq_true rfl)
        exact q
      have K40 : Keep h0 h40 [] := K35.wr W40 (Or.inr sz_b29)
      have Z40 : n0 ≤ h40.size := Nat.le_trans Z35 (Keep.of_wr W40).1
      have N40 := Fr.snoc X40 N35 g_b29
      refine own_by st40 ?_
      have sg45 : ∀ t, own_S p e below T40 (mkF m 45 #[.val (.int p0), .val (.int p1)] [(.int (78 : Int32)), (.int (2 : Int32)), (.ref b29), (.ref b29)]) t → own_S p e below T40 (mkF m 41 #[.val (.int p0), .val (.int p1)] [(.ref b29)]) t := by
        intro t k
        show own_S p e below T40 (mkF m 41 #[.val (.int p0), .val (.int p1)] [(.ref b29)]) _
        refine XS.dup X40.here hx rfl (hb hby d14_41) rfl rfl ?_
        show own_S p e below T40 (mkF m 42 #[.val (.int p0), .val (.int p1)] [(.ref b29), (.ref b29)]) _
        refine XS.iconst X40.here hx rfl (hb hby d14_42) ?_
        show own_S p e below T40 (mkF m 43 #[.val (.int p0), .val (.int p1)] [(.int (2 : Int32)), (.ref b29), (.ref b29)]) _
        refine XS.bipush X40.here hx rfl (hb hby d14_43) ?_
        exact k
      refine own_by sg45 ?_
      obtain ⟨cl45, Ar45, qa45, Sa45, Na45, Ha45, Ga45⟩ := id V40
      obtain ⟨T45, h45, X45, e45, W45, st45⟩ := stC X40 hx hZ e40 Ar45 (j := (2 : Int32)) (inb_of Sa45 ⟨by decide, by decide⟩) (g := (mkF m 45 #[.val (.int p0), .val (.int p1)] [(.int (78 : Int32)), (.int (2 : Int32)), (.ref b29), (.ref b29)])) rfl rfl (hb hby d14_45)
      have V45 : Arv Z h45 b29 kc29 .char (7 : Int32) [(.int (98 : Int32)), (.int (121 : Int32)), (.int (78 : Int32)), (.int (0 : Int32)), (.int (0 : Int32)), (.int (0 : Int32)), (.int (0 : Int32))] (.int (0 : Int32)) := by
        have q := Arv.set Ar45 qa45 Sa45 Na45 Ha45 Ga45 (fits_nar_char _) W45 2 rfl (Nat.le_of_ble_eq_true rfl)
        exact q
      have K45 : Keep h0 h45 [] := K40.wr W45 (Or.inr sz_b29)
      have Z45 : n0 ≤ h45.size := Nat.le_trans Z40 (Keep.of_wr W45).1
      have N45 := Fr.snoc X45 N40 g_b29
      refine own_by st45 ?_
      have sg50 : ∀ t, own_S p e below T45 (mkF m 50 #[.val (.int p0), .val (.int p1)] [(.int (97 : Int32)), (.int (3 : Int32)), (.ref b29), (.ref b29)]) t → own_S p e below T45 (mkF m 46 #[.val (.int p0), .val (.int p1)] [(.ref b29)]) t := by
        intro t k
        show own_S p e below T45 (mkF m 46 #[.val (.int p0), .val (.int p1)] [(.ref b29)]) _
        refine XS.dup X45.here hx rfl (hb hby d14_46) rfl rfl ?_
        show own_S p e below T45 (mkF m 47 #[.val (.int p0), .val (.int p1)] [(.ref b29), (.ref b29)]) _
        refine XS.iconst X45.here hx rfl (hb hby d14_47) ?_
        show own_S p e below T45 (mkF m 48 #[.val (.int p0), .val (.int p1)] [(.int (3 : Int32)), (.ref b29), (.ref b29)]) _
        refine XS.bipush X45.here hx rfl (hb hby d14_48) ?_
        exact k
      refine own_by sg50 ?_
      obtain ⟨cl50, Ar50, qa50, Sa50, Na50, Ha50, Ga50⟩ := id V45
      obtain ⟨T50, h50, X50, e50, W50, st50⟩ := stC X45 hx hZ e45 Ar50 (j := (3 : Int32)) (inb_of Sa50 ⟨by decide, by decide⟩) (g := (mkF m 50 #[.val (.int p0), .val (.int p1)] [(.int (97 : Int32)), (.int (3 : Int32)), (.ref b29), (.ref b29)])) rfl rfl (hb hby d14_50)
      have V50 : Arv Z h50 b29 kc29 .char (7 : Int32) [(.int (98 : Int32)), (.int (121 : Int32)), (.int (78 : Int32)), (.int (97 : Int32)), (.int (0 : Int32)), (.int (0 : Int32)), (.int (0 : Int32))] (.int (0 : Int32)) := by
        have q := Arv.set Ar50 qa50 Sa50 Na50 Ha50 Ga50 (fits_nar_char _) W50 3 rfl (Nat.le_of_ble_eq_true rfl)
        exact q
      have K50 : Keep h0 h50 [] := K45.wr W50 (Or.inr sz_b29)
      have Z50 : n0 ≤ h50.size := Nat.le_trans Z45 (Keep.of_wr W50).1
      have N50 := Fr.snoc X50 N45 g_b29
      refine own_by st50 ?_
      have sg55 : ∀ t, own_S p e below T50 (mkF m 55 #[.val (.int p0), .val (.int p1)] [(.int (109 : Int32)), (.int (4 : Int32)), (.ref b29), (.ref b29)]) t → own_S p e below T50 (mkF m 51 #[.val (.int p0), .val (.int p1)] [(.ref b29)]) t := by
        intro t k
        show own_S p e below T50 (mkF m 51 #[.val (.int p0), .val (.int p1)] [(.ref b29)]) _
        refine XS.dup X50.here hx rfl (hb hby d14_51) rfl rfl ?_
        show own_S p e below T50 (mkF m 52 #[.val (.int p0), .val (.int p1)] [(.ref b29), (.ref b29)]) _
        refine XS.iconst X50.here hx rfl (hb hby d14_52) ?_
        show own_S p e below T50 (mkF m 53 #[.val (.int p0), .val (.int p1)] [(.int (4 : Int32)), (.ref b29), (.ref b29)]) _
        refine XS.bipush X50.here hx rfl (hb hby d14_53) ?_
        exact k
      refine own_by sg55 ?_
      obtain ⟨cl55, Ar55, qa55, Sa55, Na55, Ha55, Ga55⟩ := id V50
      obtain ⟨T55, h55, X55, e55, W55, st55⟩ := stC X50 hx hZ e50 Ar55 (j := (4 : Int32)) (inb_of Sa55 ⟨by decide, by decide⟩) (g := (mkF m 55 #[.val (.int p0), .val (.int p1)] [(.int (109 : Int32)), (.int (4 : Int32)), (.ref b29), (.ref b29)])) rfl rfl (hb hby d14_55)
      have V55 : Arv Z h55 b29 kc29 .char (7 : Int32) [(.int (98 : Int32)), (.int (121 : Int32)), (.int (78 : Int32)), (.int (97 : Int32)), (.int (109 : Int32)), (.int (0 : Int32)), (.int (0 : Int32))] (.int (0 : Int32)) := by
        have q := Arv.set Ar55 qa55 Sa55 Na55 Ha55 Ga55 (fits_nar_char _) W55 4 rfl (Nat.le_of_ble_eq_true rfl)
        exact q
      have K55 : Keep h0 h55 [] := K50.wr W55 (Or.inr sz_b29)
      have Z55 : n0 ≤ h55.size := Nat.le_trans Z50 (Keep.of_wr W55).1
      have N55 := Fr.snoc X55 N50 g_b29
      refine own_by st55 ?_
      have sg60 : ∀ t, own_S p e below T55 (mkF m 60 #[.val (.int p0), .val (.int p1)] [(.int (101 : Int32)), (.int (5 : Int32)), (.ref b29), (.ref b29)]) t → own_S p e below T55 (mkF m 56 #[.val (.int p0), .val (.int p1)] [(.ref b29)]) t := by
        intro t k
        show own_S p e below T55 (mkF m 56 #[.val (.int p0), .val (.int p1)] [(.ref b29)]) _
        refine XS.dup X55.here hx rfl (hb hby d14_56) rfl rfl ?_
        show own_S p e below T55 (mkF m 57 #[.val (.int p0), .val (.int p1)] [(.ref b29), (.ref b29)]) _
        refine XS.iconst X55.here hx rfl (hb hby d14_57) ?_
        show own_S p e below T55 (mkF m 58 #[.val (.int p0), .val (.int p1)] [(.int (5 : Int32)), (.ref b29), (.ref b29)]) _
        refine XS.bipush X55.here hx rfl (hb hby d14_58) ?_
        exact k
      refine own_by sg60 ?_
      obtain ⟨cl60, Ar60, qa60, Sa60, Na60, Ha60, Ga60⟩ := id V55
      obtain ⟨T60, h60, X60, e60, W60, st60⟩ := stC X55 hx hZ e55 Ar60 (j := (5 : Int32)) (inb_of Sa60 ⟨by decide, by decide⟩) (g := (mkF m 60 #[.val (.int p0), .val (.int p1)] [(.int (101 : Int32)), (.int (5 : Int32)), (.ref b29), (.ref b29)])) rfl rfl (hb hby d14_60)
      have V60 : Arv Z h60 b29 kc29 .char (7 : Int32) [(.int (98 : Int32)), (.int (121 : Int32)), (.int (78 : Int32)), (.int (97 : Int32)), (.int (109 : Int32)), (.int (101 : Int32)), (.int (0 : Int32))] (.int (0 : Int32)) := by
        have q := Arv.set Ar60 qa60 Sa60 Na60 Ha60 Ga60 (fits_nar_char _) W60 5 rfl (Nat.le_of_ble_eq_true rfl)
        exact q
      have K60 : Keep h0 h60 [] := K55.wr W60 (Or.inr sz_b29)
      have Z60 : n0 ≤ h60.size := Nat.le_trans Z55 (Keep.of_wr W60).1
      have N60 := Fr.snoc X60 N55 g_b29
      refine own_by st60 ?_
      have sg65 : ∀ t, own_S p e below T60 (mkF m 65 #[.val (.int p0), .val (.int p1)] [(.int p1), (.int (6 : Int32)), (.ref b29), (.ref b29)]) t → own_S p e below T60 (mkF m 61 #[.val (.int p0), .val (.int p1)] [(.ref b29)]) t := by
        intro t k
        show own_S p e below T60 (mkF m 61 #[.val (.int p0), .val (.int p1)] [(.ref b29)]) _
        refine XS.dup X60.here hx rfl (hb hby d14_61) rfl rfl ?_
        show own_S p e below T60 (mkF m 62 #[.val (.int p0), .val (.int p1)] [(.ref b29), (.ref b29)]) _
        refine XS.bipush X60.here hx rfl (hb hby d14_62) ?_
        show own_S p e below T60 (mkF m 64 #[.val (.int p0), .val (.int p1)] [(.int (6 : Int32)), (.ref b29), (.ref b29)]) _
        refine XS.iloadN X60.here hx rfl (hb hby d14_64) rfl ?_
        exact k
      refine own_by sg65 ?_
      obtain ⟨cl65, Ar65, qa65, Sa65, Na65, Ha65, Ga65⟩ := id V60
      obtain ⟨T65, h65, X65, e65, W65, st65⟩ := stC X60 hx hZ e60 Ar65 (j := (6 : Int32)) (inb_of Sa65 ⟨by decide, by decide⟩) (g := (mkF m 65 #[.val (.int p0), .val (.int p1)] [(.int p1), (.int (6 : Int32)), (.ref b29), (.ref b29)])) rfl rfl (hb hby d14_65)
      have V65 : Arv Z h65 b29 kc29 .char (7 : Int32) [(.int (98 : Int32)), (.int (121 : Int32)), (.int (78 : Int32)), (.int (97 : Int32)), (.int (109 : Int32)), (.int (101 : Int32)), (.int p1)] (.int (0 : Int32)) := by
        have q := Arv.set Ar65 qa65 Sa65 Na65 Ha65 Ga65 (fits_nar_char _) W65 6 rfl (Nat.le_of_ble_eq_true rfl)
        rw [own_narc hk] at q
        exact q
      have K65 : Keep h0 h65 [] := K60.wr W65 (Or.inr sz_b29)
      have Z65 : n0 ≤ h65.size := Nat.le_trans Z60 (Keep.of_wr W65).1
      have N65 := Fr.snoc X65 N60 g_b29
      refine own_by st65 ?_
      obtain ⟨fs, hr, hrun, hended, hW, hsame⟩ := X65.leave (v := some (.ref b29)) (fun h => by rw [Bd.returns] at h; cases h)
      refine ⟨_, _, ?_, hrun, hended, _, _, rfl, ?_, ⟨_, rfl⟩, hW, hsame.mono (by decide) (by decide)⟩
      · show Steps p.tables e below (T65.setTop (mkF m 66 #[.val (.int p0), .val (.int p1)] [(.ref b29)])) _
        jvm_step X65.here [X65.here.top, hx, (hb hby d14_66), X65.method', Bd.returns, Value.isRef, FieldType.isReference]
        first | (intro acts; rw [hr _ acts rfl rfl rfl]) | rw [hr _ _ rfl rfl rfl]
        exact Steps.refl _
      · show Q14 Z p0 p1 h0 n0 _ T65.heap _
        rw [e65]
        exact ⟨_, _, rfl, sz_b29, N65, K65, (by unfold own_longer; rw [if_neg hc1, if_pos hc24]; exact V65)⟩
    · have sg69 : ∀ t, own_S p e below s₁ (mkF m 69 #[.val (.int p0), .val (.int p1)] [(.int (2 : Int32)), (.int p0)]) t → own_S p e below s₁ (mkF m 24 #[.val (.int p0), .val (.int p1)] [(.int (1 : Int32)), (.int p0)]) t := by
        intro t k
        show own_S p e below s₁ (mkF m 24 #[.val (.int p0), .val (.int p1)] [(.int (1 : Int32)), (.int p0)]) _
        refine XS.icmpYes X0.here hx rfl (pc0 := 24) (pc' := 67) rfl (hb hby d14_24) rfl (feq hc24).2 (by decide) (by decide) ?_
        show own_S p e below s₁ (mkF m 67 #[.val (.int p0), .val (.int p1)] []) _
        refine XS.iloadN X0.here hx rfl (hb hby d14_67) rfl ?_
        show own_S p e below s₁ (mkF m 68 #[.val (.int p0), .val (.int p1)] [(.int p0)]) _
        refine XS.iconst X0.here hx rfl (hb hby d14_68) ?_
        exact k
      refine own_by sg69 ?_
      by_cases hc69 : p0 = (2 : Int32)
      · have sg74 : ∀ t, own_S p e below s₁ (mkF m 74 #[.val (.int p0), .val (.int p1)] [(.int (7 : Int32))]) t → own_S p e below s₁ (mkF m 69 #[.val (.int p0), .val (.int p1)] [(.int (2 : Int32)), (.int p0)]) t := by
          intro t k
          show own_S p e below s₁ (mkF m 69 #[.val (.int p0), .val (.int p1)] [(.int (2 : Int32)), (.int p0)]) _
          refine XS.icmpNo X0.here hx rfl (hb hby d14_69) rfl (teq hc69).2 ?_
          show own_S p e below s₁ (mkF m 72 #[.val (.int p0), .val (.int p1)] []) _
          refine XS.bipush X0.here hx rfl (hb hby d14_72) ?_
          exact k
        refine own_by sg74 ?_
        obtain ⟨T74, h74, kc74, X74, e74, E74, A74, st74⟩ := newP X0 hx hZ (hw _ (List.mem_of_getElem? (i := 7) rfl)) e0 (g := (mkF m 74 #[.val (.int p0), .val (.int p1)] [(.int (7 : Int32))])) rfl (hb hby d14_74) rfl (by decide) (cap := 7) (by decide) (by decide) (by decide) (by decide)
        obtain ⟨b74, g74⟩ : ∃ z, z = h0.size := ⟨_, rfl⟩
        rw [← g74] at A74 st74
        have g_b74 : n0 ≤ b74 := Nat.le_trans Z0 (Nat.le_of_eq g74.symm)
        have sz_b74 : h0.size ≤ b74 := Nat.le_trans K0.1 (Nat.le_of_eq g74.symm)
        have K74 := K0.ext E74
        have Z74 : n0 ≤ h74.size := Nat.le_trans Z0 E74.1
        have V74 : Arv Z h74 b74 kc74 .char (7 : Int32) [(.int (0 : Int32)), (.int (0 : Int32)), (.int (0 : Int32)), (.int (0 : Int32)), (.int (0 : Int32)), (.int (0 : Int32)), (.int (0 : Int32))] (.int (0 : Int32)) := (Arv.new A74 (by decide)).pad (pad_rep [] (.int (0 : Int32)) 7)
        refine own_by st74 ?_
        have sg80 : ∀ t, own_S p e below T74 (mkF m 80 #[.val (.int p0), .val (.int p1)] [(.int (98 : Int32)), (.int (0 : Int32)), (.ref b74), (.ref b74)]) t → own_S p e below T74 (mkF m 76 #[.val (.int p0), .val (.int p1)] [(.ref b74)]) t := by
          intro t k
          show own_S p e below T74 (mkF m 76 #[.val (.int p0), .val (.int p1)] [(.ref b74)]) _
          refine XS.dup X74.here hx rfl (hb hby d14_76) rfl rfl ?_
          show own_S p e below T74 (mkF m 77 #[.val (.int p0), .val (.int p1)] [(.ref b74), (.ref b74)]) _
          refine XS.iconst X74.here hx rfl (hb hby d14_77) ?_
          show own_S p e below T74 (mkF m 78 #[.val (.int p0), .val (.int p1)] [(.int (0 : Int32)), (.ref b74), (.ref b74)]) _
          refine XS.bipush X74.here hx rfl (hb hby d14_78) ?_
          exact k
        refine own_by sg80 ?_
        obtain ⟨cl80, Ar80, qa80, Sa80, Na80, Ha80, Ga80⟩ := id V74
        obtain ⟨T80, h80, X80, e80, W80, st80⟩ := stC X74 hx hZ e74 Ar80 (j := (0 : Int32)) (inb_of Sa80 ⟨by decide, by decide⟩) (g := (mkF m 80 #[.val (.int p0), .val (.int p1)] [(.int (98 : Int32)), (.int (0 : Int32)), (.ref b74), (.ref b74)])) rfl rfl (hb hby d14_80)
        have V80 : Arv Z h80 b74 kc74 .char (7 : Int32) [(.int (98 : Int32)), (.int (0 : Int32)), (.int (0 : Int32)), (.int (0 : Int32)), (.int (0 : Int32)), (.int (0 : Int32)), (.int (0 : Int32))] (.int (0 : Int32)) := by
          have q := Arv.set Ar80 qa80 Sa80 Na80 Ha80 Ga80 (fits_nar_char _) W80 0 rfl (Nat.le_of_ble_eq_true rfl)
          exact q
        have K80 : Keep h0 h80 [] := K74.wr W80 (Or.inr sz_b74)
        have Z80 : n0 ≤ h80.size := Nat.le_trans Z74 (Keep.of_wr W80).1
        have N80 := Fr.snoc X80 N0 g_b74
        refine own_by st80 ?_
        have sg85 : ∀ t, own_S p e below T80 (mkF m 85 #[.val (.int p0), .val (.int p1)] [(.int (121 : Int32)), (.int (1 : Int32)), (.ref b74), (.ref b74)]) t → own_S p e below T80 (mkF m 81 #[.val (.int p0), .val (.int p1)] [(.ref b74)]) t := by
          intro t k
          show own_S p e below T80 (mkF m 81 #[.val (.int p0), .val (.int p1)] [(.ref b74)]) _
          refine XS.dup X80.here hx rfl (hb hby d14_81) rfl rfl ?_
          show own_S p e below T80 (mkF m 82 #[.val (.int p0), .val (.int p1)] [(.ref b74), (.ref b74)]) _
          refine XS.iconst X80.here hx rfl (hb hby d14_82) ?_
          show own_S p e below T80 (mkF m 83 #[.val (.int p0), .val (.int p1)] [(.int (1 : Int32)), (.ref b74), (.ref b74)]) _
          refine XS.bipush X80.here hx rfl (hb hby d14_83) ?_
          exact k
        refine own_by sg85 ?_
        obtain ⟨cl85, Ar85, qa85, Sa85, Na85, Ha85, Ga85⟩ := id V80
        obtain ⟨T85, h85, X85, e85, W85, st85⟩ := stC X80 hx hZ e80 Ar85 (j := (1 : Int32)) (inb_of Sa85 ⟨by decide, by decide⟩) (g := (mkF m 85 #[.val (.int p0), .val (.int p1)] [(.int (121 : Int32)), (.int (1 : Int32)), (.ref b74), (.ref b74)])) rfl rfl (hb hby d14_85)
        have V85 : Arv Z h85 b74 kc74 .char (7 : Int32) [(.int (98 : Int32)), (.int (121 : Int32)), (.int (0 : Int32)), (.int (0 : Int32)), (.int (0 : Int32)), (.int (0 : Int32)), (.int (0 : Int32))] (.int (0 : Int32)) := by
          have q := Arv.set Ar85 qa85 Sa85 Na85 Ha85 Ga85 (fits_nar_char _) W85 1 rfl (Nat.le_of_ble_eq_true rfl)
          exact q
        have K85 : Keep h0 h85 [] := K80.wr W85 (Or.inr sz_b74)
        have Z85 : n0 ≤ h85.size := Nat.le_trans Z80 (Keep.of_wr W85).1
        have N85 := Fr.snoc X85 N80 g_b74
        refine own_by st85 ?_
        have sg90 : ∀ t, own_S p e below T85 (mkF m 90 #[.val (.int p0), .val (.int p1)] [(.int (84 : Int32)), (.int (2 : Int32)), (.ref b74), (.ref b74)]) t → own_S p e below T85 (mkF m 86 #[.val (.int p0), .val (.int p1)] [(.ref b74)]) t := by
          intro t k
          show own_S p e below T85 (mkF m 86 #[.val (.int p0), .val (.int p1)] [(.ref b74)]) _
          refine XS.dup X85.here hx rfl (hb hby d14_86) rfl rfl ?_
          show own_S p e below T85 (mkF m 87 #[.val (.int p0), .val (.int p1)] [(.ref b74), (.ref b74)]) _
          refine XS.iconst X85.here hx rfl (hb hby d14_87) ?_
          show own_S p e below T85 (mkF m 88 #[.val (.int p0), .val (.int p1)] [(.int (2 : Int32)), (.ref b74), (.ref b74)]) _
          refine XS.bipush X85.here hx rfl (hb hby d14_88) ?_
          exact k
        refine own_by sg90 ?_
        obtain ⟨cl90, Ar90, qa90, Sa90, Na90, Ha90, Ga90⟩ := id V85
        obtain ⟨T90, h90, X90, e90, W90, st90⟩ := stC X85 hx hZ e85 Ar90 (j := (2 : Int32)) (inb_of Sa90 ⟨by decide, by decide⟩) (g := (mkF m 90 #[.val (.int p0), .val (.int p1)] [(.int (84 : Int32)), (.int (2 : Int32)), (.ref b74), (.ref b74)])) rfl rfl (hb hby d14_90)
        have V90 : Arv Z h90 b74 kc74 .char (7 : Int32) [(.int (98 : Int32)), (.int (121 : Int32)), (.int (84 : Int32)), (.int (0 : Int32)), (.int (0 : Int32)), (.int (0 : Int32)), (.int (0 : Int32))] (.int (0 : Int32)) := by
          have q := Arv.set Ar90 qa90 Sa90 Na90 Ha90 Ga90 (fits_nar_char _) W90 2 rfl (Nat.le_of_ble_eq_true rfl)
          exact q
        have K90 : Keep h0 h90 [] := K85.wr W90 (Or.inr sz_b74)
        have Z90 : n0 ≤ h90.size := Nat.le_trans Z85 (Keep.of_wr W90).1
        have N90 := Fr.snoc X90 N85 g_b74
        refine own_by st90 ?_
        have sg95 : ∀ t, own_S p e below T90 (mkF m 95 #[.val (.int p0), .val (.int p1)] [(.int (121 : Int32)), (.int (3 : Int32)), (.ref b74), (.ref b74)]) t → own_S p e below T90 (mkF m 91 #[.val (.int p0), .val (.int p1)] [(.ref b74)]) t := by
          intro t k
          show own_S p e below T90 (mkF m 91 #[.val (.int p0), .val (.int p1)] [(.ref b74)]) _
          refine XS.dup X90.here hx rfl (hb hby d14_91) rfl rfl ?_
          show own_S p e below T90 (mkF m 92 #[.val (.int p0), .val (.int p1)] [(.ref b74), (.ref b74)]) _
          refine XS.iconst X90.here hx rfl (hb hby d14_92) ?_
          show own_S p e below T90 (mkF m 93 #[.val (.int p0), .val (.int p1)] [(.int (3 : Int32)), (.ref b74), (.ref b74)]) _
          refine XS.bipush X90.here hx rfl (hb hby d14_93) ?_
          exact k
        refine own_by sg95 ?_
        obtain ⟨cl95, Ar95, qa95, Sa95, Na95, Ha95, Ga95⟩ := id V90
        obtain ⟨T95, h95, X95, e95, W95, st95⟩ := stC X90 hx hZ e90 Ar95 (j := (3 : Int32)) (inb_of Sa95 ⟨by decide, by decide⟩) (g := (mkF m 95 #[.val (.int p0), .val (.int p1)] [(.int (121 : Int32)), (.int (3 : Int32)), (.ref b74), (.ref b74)])) rfl rfl (hb hby d14_95)
        have V95 : Arv Z h95 b74 kc74 .char (7 : Int32) [(.int (98 : Int32)), (.int (121 : Int32)), (.int (84 : Int32)), (.int (121 : Int32)), (.int (0 : Int32)), (.int (0 : Int32)), (.int (0 : Int32))] (.int (0 : Int32)) := by
          have q := Arv.set Ar95 qa95 Sa95 Na95 Ha95 Ga95 (fits_nar_char _) W95 3 rfl (Nat.le_of_ble_eq_true rfl)
          exact q
        have K95 : Keep h0 h95 [] := K90.wr W95 (Or.inr sz_b74)
        have Z95 : n0 ≤ h95.size := Nat.le_trans Z90 (Keep.of_wr W95).1
        have N95 := Fr.snoc X95 N90 g_b74
        refine own_by st95 ?_
        have sg100 : ∀ t, own_S p e below T95 (mkF m 100 #[.val (.int p0), .val (.int p1)] [(.int (112 : Int32)), (.int (4 : Int32)), (.ref b74), (.ref b74)]) t → own_S p e below T95 (mkF m 96 #[.val (.int p0), .val (.int p1)] [(.ref b74)]) t := by
          intro t k
          show own_S p e below T95 (mkF m 96 #[.val (.int p0), .val (.int p1)] [(.ref b74)]) _
          refine XS.dup X95.here hx rfl (hb hby d14_96) rfl rfl ?_
          show own_S p e below T95 (mkF m 97 #[.val (.int p0), .val (.int p1)] [(.ref b74), (.ref b74)]) _
          refine XS.iconst X95.here hx rfl (hb hby d14_97) ?_
          show own_S p e below T95 (mkF m 98 #[.val (.int p0), .val (.int p1)] [(.int (4 : Int32)), (.ref b74), (.ref b74)]) _
          refine XS.bipush X95.here hx rfl (hb hby d14_98) ?_
          exact k
        refine own_by sg100 ?_
        obtain ⟨cl100, Ar100, qa100, Sa100, Na100, Ha100, Ga100⟩ := id V95
        obtain ⟨T100, h100, X100, e100, W100, st100⟩ := stC X95 hx hZ e95 Ar100 (j := (4 : Int32)) (inb_of Sa100 ⟨by decide, by decide⟩) (g := (mkF m 100 #[.val (.int p0), .val (.int p1)] [(.int (112 : Int32)), (.int (4 : Int32)), (.ref b74), (.ref b74)])) rfl rfl (hb hby d14_100)
        have V100 : Arv Z h100 b74 kc74 .char (7 : Int32) [(.int (98 : Int32)), (.int (121 : Int32)), (.int (84 : Int32)), (.int (121 : Int32)), (.int (112 : Int32)), (.int (0 : Int32)), (.int (0 : Int32))] (.int (0 : Int32)) := by
          have q := Arv.set Ar100 qa100 Sa100 Na100 Ha100 Ga100 (fits_nar_char _) W100 4 rfl (Nat.le_of_ble_eq_true rfl)
          exact q
        have K100 : Keep h0 h100 [] := K95.wr W100 (Or.inr sz_b74)
        have Z100 : n0 ≤ h100.size := Nat.le_trans Z95 (Keep.of_wr W100).1
        have N100 := Fr.snoc X100 N95 g_b74
        refine own_by st100 ?_
        have sg105 : ∀ t, own_S p e below T100 (mkF m 105 #[.val (.int p0), .val (.int p1)] [(.int (101 : Int32)), (.int (5 : Int32)), (.ref b74), (.ref b74)]) t → own_S p e below T100 (mkF m 101 #[.val (.int p0), .val (.int p1)] [(.ref b74)]) t := by
          intro t k
          show own_S p e below T100 (mkF m 101 #[.val (.int p0), .val (.int p1)] [(.ref b74)]) _
          refine XS.dup X100.here hx rfl (hb hby d14_101) rfl rfl ?_
          show own_S p e below T100 (mkF m 102 #[.val (.int p0), .val (.int p1)] [(.ref b74), (.ref b74)]) _
          refine XS.iconst X100.here hx rfl (hb hby d14_102) ?_
          show own_S p e below T100 (mkF m 103 #[.val (.int p0), .val (.int p1)] [(.int (5 : Int32)), (.ref b74), (.ref b74)]) _
          refine XS.bipush X100.here hx rfl (hb hby d14_103) ?_
          exact k
        refine own_by sg105 ?_
        obtain ⟨cl105, Ar105, qa105, Sa105, Na105, Ha105, Ga105⟩ := id V100
        obtain ⟨T105, h105, X105, e105, W105, st105⟩ := stC X100 hx hZ e100 Ar105 (j := (5 : Int32)) (inb_of Sa105 ⟨by decide, by decide⟩) (g := (mkF m 105 #[.val (.int p0), .val (.int p1)] [(.int (101 : Int32)), (.int (5 : Int32)), (.ref b74), (.ref b74)])) rfl rfl (hb hby d14_105)
        have V105 : Arv Z h105 b74 kc74 .char (7 : Int32) [(.int (98 : Int32)), (.int (121 : Int32)), (.int (84 : Int32)), (.int (121 : Int32)), (.int (112 : Int32)), (.int (101 : Int32)), (.int (0 : Int32))] (.int (0 : Int32)) := by
          have q := Arv.set Ar105 qa105 Sa105 Na105 Ha105 Ga105 (fits_nar_char _) W105 5 rfl (Nat.le_of_ble_eq_true rfl)
          exact q
        have K105 : Keep h0 h105 [] := K100.wr W105 (Or.inr sz_b74)
        have Z105 : n0 ≤ h105.size := Nat.le_trans Z100 (Keep.of_wr W105).1
        have N105 := Fr.snoc X105 N100 g_b74
        refine own_by st105 ?_
        have sg110 : ∀ t, own_S p e below T105 (mkF m 110 #[.val (.int p0), .val (.int p1)] [(.int p1), (.int (6 : Int32)), (.ref b74), (.ref b74)]) t → own_S p e below T105 (mkF m 106 #[.val (.int p0), .val (.int p1)] [(.ref b74)]) t := by
          intro t k
          show own_S p e below T105 (mkF m 106 #[.val (.int p0), .val (.int p1)] [(.ref b74)]) _
          refine XS.dup X105.here hx rfl (hb hby d14_106) rfl rfl ?_
          show own_S p e below T105 (mkF m 107 #[.val (.int p0), .val (.int p1)] [(.ref b74), (.ref b74)]) _
          refine XS.bipush X105.here hx rfl (hb hby d14_107) ?_
          show own_S p e below T105 (mkF m 109 #[.val (.int p0), .val (.int p1)] [(.int (6 : Int32)), (.ref b74), (.ref b74)]) _
          refine XS.iloadN X105.here hx rfl (hb hby d14_109) rfl ?_
          exact k
        refine own_by sg110 ?_
        obtain ⟨cl110, Ar110, qa110, Sa110, Na110, Ha110, Ga110⟩ := id V105
        obtain ⟨T110, h110, X110, e110, W110, st110⟩ := stC X105 hx hZ e105 Ar110 (j := (6 : Int32)) (inb_of Sa110 ⟨by decide, by decide⟩) (g := (mkF m 110 #[.val (.int p0), .val (.int p1)] [(.int p1), (.int (6 : Int32)), (.ref b74), (.ref b74)])) rfl rfl (hb hby d14_110)
        have V110 : Arv Z h110 b74 kc74 .char (7 : Int32) [(.int (98 : Int32)), (.int (121 : Int32)), (.int (84 : Int32)), (.int (121 : Int32)), (.int (112 : Int32)), (.int (101 : Int32)), (.int p1)] (.int (0 : Int32)) := by
          have q := Arv.set Ar110 qa110 Sa110 Na110 Ha110 Ga110 (fits_nar_char _) W110 6 rfl (Nat.le_of_ble_eq_true rfl)
          rw [own_narc hk] at q
          exact q
        have K110 : Keep h0 h110 [] := K105.wr W110 (Or.inr sz_b74)
        have Z110 : n0 ≤ h110.size := Nat.le_trans Z105 (Keep.of_wr W110).1
        have N110 := Fr.snoc X110 N105 g_b74
        refine own_by st110 ?_
        obtain ⟨fs, hr, hrun, hended, hW, hsame⟩ := X110.leave (v := some (.ref b74)) (fun h => by rw [Bd.returns] at h; cases h)
        refine ⟨_, _, ?_, hrun, hended, _, _, rfl, ?_, ⟨_, rfl⟩, hW, hsame.mono (by decide) (by decide)⟩
        · show Steps p.tables e below (T110.setTop (mkF m 111 #[.val (.int p0), .val (.int p1)] [(.ref b74)])) _
          jvm_step X110.here [X110.here.top, hx, (hb hby d14_111), X110.method', Bd.returns, Value.isRef, FieldType.isReference]
          first | (intro acts; rw [hr _ acts rfl rfl rfl]) | rw [hr _ _ rfl rfl rfl]
          exact Steps.refl _
        · show Q14 Z p0 p1 h0 n0 _ T110.heap _
          rw [e110]
          exact ⟨_, _, rfl, sz_b74, N110, K110, (by unfold own_longer; rw [if_neg hc1, if_neg hc24, if_pos hc69]; exact V110)⟩
      · have sg114 : ∀ t, own_S p e below s₁ (mkF m 114 #[.val (.int p0), .val (.int p1)] [(.int (12 : Int32))]) t → own_S p e below s₁ (mkF m 69 #[.val (.int p0), .val (.int p1)] [(.int (2 : Int32)), (.int p0)]) t := by
          intro t k
          show own_S p e below s₁ (mkF m 69 #[.val (.int p0), .val (.int p1)] [(.int (2 : Int32)), (.int p0)]) _
          refine XS.icmpYes X0.here hx rfl (pc0 := 69) (pc' := 112) rfl (hb hby d14_69) rfl (feq hc69).2 (by decide) (by decide) ?_
          show own_S p e below s₁ (mkF m 112 #[.val (.int p0), .val (.int p1)] []) _
          refine XS.bipush X0.here hx rfl (hb hby d14_112) ?_
          exact k
        refine own_by sg114 ?_
        obtain ⟨T114, h114, kc114, X114, e114, E114, A114, st114⟩ := newP X0 hx hZ (hw _ (List.mem_of_getElem? (i := 7) rfl)) e0 (g := (mkF m 114 #[.val (.int p0), .val (.int p1)] [(.int (12 : Int32))])) rfl (hb hby d14_114) rfl (by decide) (cap := 12) (by decide) (by decide) (by decide) (by decide)
        obtain ⟨b114, g114⟩ : ∃ z, z = h0.size := ⟨_, rfl⟩
        rw [← g114] at A114 st114
        have g_b114 : n0 ≤ b114 := Nat.le_trans Z0 (Nat.le_of_eq g114.symm)
        have sz_b114 : h0.size ≤ b114 := Nat.le_trans K0.1 (Nat.le_of_eq g114.symm)
        have K114 := K0.ext E114
        have Z114 : n0 ≤ h114.size := Nat.le_trans Z0 E114.1
        have V114 : Arv Z h114 b114 kc114 .char (12 : Int32) [(.int (0 : Int32)), (.int (0 : Int32)), (.int (0 : Int32)), (.int (0 : Int32)), (.int (0 : Int32)), (.int (0 : Int32)), (.int (0 : Int32)), (.int (0 : Int32)), (.int (0 : Int32)), (.int (0 : Int32)), (.int (0 : Int32)), (.int (0 : Int32))] (.int (0 : Int32)) := (Arv.new A114 (by decide)).pad (pad_rep [] (.int (0 : Int32)) 12)
        refine own_by st114 ?_
        have sg120 : ∀ t, own_S p e below T114 (mkF m 120 #[.val (.int p0), .val (.int p1)] [(.int (99 : Int32)), (.int (0 : Int32)), (.ref b114), (.ref b114)]) t → own_S p e below T114 (mkF m 116 #[.val (.int p0), .val (.int p1)] [(.ref b114)]) t := by
          intro t k
          show own_S p e below T114 (mkF m 116 #[.val (.int p0), .val (.int p1)] [(.ref b114)]) _
          refine XS.dup X114.here hx rfl (hb hby d14_116) rfl rfl ?_
          show own_S p e below T114 (mkF m 117 #[.val (.int p0), .val (.int p1)] [(.ref b114), (.ref b114)]) _
          refine XS.iconst X114.here hx rfl (hb hby d14_117) ?_
          show own_S p e below T114 (mkF m 118 #[.val (.int p0), .val (.int p1)] [(.int (0 : Int32)), (.ref b114), (.ref b114)]) _
          refine XS.bipush X114.here hx rfl (hb hby d14_118) ?_
          exact k
        refine own_by sg120 ?_
        obtain ⟨cl120, Ar120, qa120, Sa120, Na120, Ha120, Ga120⟩ := id V114
        obtain ⟨T120, h120, X120, e120, W120, st120⟩ := stC X114 hx hZ e114 Ar120 (j := (0 : Int32)) (inb_of Sa120 ⟨by decide, by decide⟩) (g := (mkF m 120 #[.val (.int p0), .val (.int p1)] [(.int (99 : Int32)), (.int (0 : Int32)), (.ref b114), (.ref b114)])) rfl rfl (hb hby d14_120)
        have V120 : Arv Z h120 b114 kc114 .char (12 : Int32) [(.int (99 : Int32)), (.int (0 : Int32)), (.int (0 : Int32)), (.int (0 : Int32)), (.int (0 : Int32)), (.int (0 : Int32)), (.int (0 : Int32)), (.int (0 : Int32)), (.int (0 : Int32)), (.int (0 : Int32)), (.int (0 : Int32)), (.int (0 : Int32))] (.int (0 : Int32)) := by
          have q := Arv.set Ar120 qa120 Sa120 Na120 Ha120 Ga120 (fits_nar_char _) W120 0 rfl (Nat.le_of_ble_eq_true rfl)
          exact q
        have K120 : Keep h0 h120 [] := K114.wr W120 (Or.inr sz_b114)
        have Z120 : n0 ≤ h120.size := Nat.le_trans Z114 (Keep.of_wr W120).1
        have N120 := Fr.snoc X120 N0 g_b114
        refine own_by st120 ?_
        have sg125 : ∀ t, own_S p e below T120 (mkF m 125 #[.val (.int p0), .val (.int p1)] [(.int (111 : Int32)), (.int (1 : Int32)), (.ref b114), (.ref b114)]) t → own_S p e below T120 (mkF m 121 #[.val (.int p0), .val (.int p1)] [(.ref b114)]) t := by
          intro t k
          show own_S p e below T120 (mkF m 121 #[.val (.int p0), .val (.int p1)] [(.ref b114)]) _
          refine XS.dup X120.here hx rfl (hb hby d14_121) rfl rfl ?_
          show own_S p e below T120 (mkF m 122 #[.val (.int p0), .val (.int p1)] [(.ref b114), (.ref b114)]) _
          refine XS.iconst X120.here hx rfl (hb hby d14_122) ?_
          show own_S p e below T120 (mkF m 123 #[.val (.int p0), .val (.int p1)] [(.int (1 : Int32)), (.ref b114), (.ref b114)]) _
          refine XS.bipush X120.here hx rfl (hb hby d14_123) ?_
          exact k
        refine own_by sg125 ?_
        obtain ⟨cl125, Ar125, qa125, Sa125, Na125, Ha125, Ga125⟩ := id V120
        obtain ⟨T125, h125, X125, e125, W125, st125⟩ := stC X120 hx hZ e120 Ar125 (j := (1 : Int32)) (inb_of Sa125 ⟨by decide, by decide⟩) (g := (mkF m 125 #[.val (.int p0), .val (.int p1)] [(.int (111 : Int32)), (.int (1 : Int32)), (.ref b114), (.ref b114)])) rfl rfl (hb hby d14_125)
        have V125 : Arv Z h125 b114 kc114 .char (12 : Int32) [(.int (99 : Int32)), (.int (111 : Int32)), (.int (0 : Int32)), (.int (0 : Int32)), (.int (0 : Int32)), (.int (0 : Int32)), (.int (0 : Int32)), (.int (0 : Int32)), (.int (0 : Int32)), (.int (0 : Int32)), (.int (0 : Int32)), (.int (0 : Int32))] (.int (0 : Int32)) := by
          have q := Arv.set Ar125 qa125 Sa125 Na125 Ha125 Ga125 (fits_nar_char _) W125 1 rfl (Nat.le_of_ble_eq_true rfl)
          exact q
        have K125 : Keep h0 h125 [] := K120.wr W125 (Or.inr sz_b114)
        have Z125 : n0 ≤ h125.size := Nat.le_trans Z120 (Keep.of_wr W125).1
        have N125 := Fr.snoc X125 N120 g_b114
        refine own_by st125 ?_
        have sg130 : ∀ t, own_S p e below T125 (mkF m 130 #[.val (.int p0), .val (.int p1)] [(.int (110 : Int32)), (.int (2 : Int32)), (.ref b114), (.ref b114)]) t → own_S p e below T125 (mkF m 126 #[.val (.int p0), .val (.int p1)] [(.ref b114)]) t := by
          intro t k
          show own_S p e below T125 (mkF m 126 #[.val (.int p0), .val (.int p1)] [(.ref b114)]) _
          refine XS.dup X125.here hx rfl (hb hby d14_126) rfl rfl ?_
          show own_S p e below T125 (mkF m 127 #[.val (.int p0), .val (.int p1)] [(.ref b114), (.ref b114)]) _
          refine XS.iconst X125.here hx rfl (hb hby d14_127) ?_
          show own_S p e below T125 (mkF m 128 #[.val (.int p0), .val (.int p1)] [(.int (2 : Int32)), (.ref b114), (.ref b114)]) _
          refine XS.bipush X125.here hx rfl (hb hby d14_128) ?_
          exact k
        refine own_by sg130 ?_
        obtain ⟨cl130, Ar130, qa130, Sa130, Na130, Ha130, Ga130⟩ := id V125
        obtain ⟨T130, h130, X130, e130, W130, st130⟩ := stC X125 hx hZ e125 Ar130 (j := (2 : Int32)) (inb_of Sa130 ⟨by decide, by decide⟩) (g := (mkF m 130 #[.val (.int p0), .val (.int p1)] [(.int (110 : Int32)), (.int (2 : Int32)), (.ref b114), (.ref b114)])) rfl rfl (hb hby d14_130)
        have V130 : Arv Z h130 b114 kc114 .char (12 : Int32) [(.int (99 : Int32)), (.int (111 : Int32)), (.int (110 : Int32)), (.int (0 : Int32)), (.int (0 : Int32)), (.int (0 : Int32)), (.int (0 : Int32)), (.int (0 : Int32)), (.int (0 : Int32)), (.int (0 : Int32)), (.int (0 : Int32)), (.int (0 : Int32))] (.int (0 : Int32)) := by
          have q := Arv.set Ar130 qa130 Sa130 Na130 Ha130 Ga130 (fits_nar_char _) W130 2 rfl (Nat.le_of_ble_eq_true rfl)
          exact q
        have K130 : Keep h0 h130 [] := K125.wr W130 (Or.inr sz_b114)
        have Z130 : n0 ≤ h130.size := Nat.le_trans Z125 (Keep.of_wr W130).1
        have N130 := Fr.snoc X130 N125 g_b114
        refine own_by st130 ?_
        have sg135 : ∀ t, own_S p e below T130 (mkF m 135 #[.val (.int p0), .val (.int p1)] [(.int (115 : Int32)), (.int (3 : Int32)), (.ref b114), (.ref b114)]) t → own_S p e below T130 (mkF m 131 #[.val (.int p0), .val (.int p1)] [(.ref b114)]) t := by
          intro t k
          show own_S p e below T130 (mkF m 131 #[.val (.int p0), .val (.int p1)] [(.ref b114)]) _
          refine XS.dup X130.here hx rfl (hb hby d14_131) rfl rfl ?_
          show own_S p e below T130 (mkF m 132 #[.val (.int p0), .val (.int p1)] [(.ref b114), (.ref b114)]) _
          refine XS.iconst X130.here hx rfl (hb hby d14_132) ?_
          show own_S p e below T130 (mkF m 133 #[.val (.int p0), .val (.int p1)] [(.int (3 : Int32)), (.ref b114), (.ref b114)]) _
          refine XS.bipush X130.here hx rfl (hb hby d14_133) ?_
          exact k
        refine own_by sg135 ?_
        obtain ⟨cl135, Ar135, qa135, Sa135, Na135, Ha135, Ga135⟩ := id V130
        obtain ⟨T135, h135, X135, e135, W135, st135⟩ := stC X130 hx hZ e130 Ar135 (j := (3 : Int32)) (inb_of Sa135 ⟨by decide, by decide⟩) (g := (mkF m 135 #[.val (.int p0), .val (.int p1)] [(.int (115 : Int32)), (.int (3 : Int32)), (.ref b114), (.ref b114)])) rfl rfl (hb hby d14_135)
        have V135 : Arv Z h135 b114 kc114 .char (12 : Int32) [(.int (99 : Int32)), (.int (111 : Int32)), (.int (110 : Int32)), (.int (115 : Int32)), (.int (0 : Int32)), (.int (0 : Int32)), (.int (0 : Int32)), (.int (0 : Int32)), (.int (0 : Int32)), (.int (0 : Int32)), (.int (0 : Int32)), (.int (0 : Int32))] (.int (0 : Int32)) := by
          have q := Arv.set Ar135 qa135 Sa135 Na135 Ha135 Ga135 (fits_nar_char _) W135 3 rfl (Nat.le_of_ble_eq_true rfl)
          exact q
        have K135 : Keep h0 h135 [] := K130.wr W135 (Or.inr sz_b114)
        have Z135 : n0 ≤ h135.size := Nat.le_trans Z130 (Keep.of_wr W135).1
        have N135 := Fr.snoc X135 N130 g_b114
        refine own_by st135 ?_
        have sg140 : ∀ t, own_S p e below T135 (mkF m 140 #[.val (.int p0), .val (.int p1)] [(.int (116 : Int32)), (.int (4 : Int32)), (.ref b114), (.ref b114)]) t → own_S p e below T135 (mkF m 136 #[.val (.int p0), .val (.int p1)] [(.ref b114)]) t := by
          intro t k
          show own_S p e below T135 (mkF m 136 #[.val (.int p0), .val (.int p1)] [(.ref b114)]) _
          refine XS.dup X135.here hx rfl (hb hby d14_136) rfl rfl ?_
          show own_S p e below T135 (mkF m 137 #[.val (.int p0), .val (.int p1)] [(.ref b114), (.ref b114)]) _
          refine XS.iconst X135.here hx rfl (hb hby d14_137) ?_
          show own_S p e below T135 (mkF m 138 #[.val (.int p0), .val (.int p1)] [(.int (4 : Int32)), (.ref b114), (.ref b114)]) _
          refine XS.bipush X135.here hx rfl (hb hby d14_138) ?_
          exact k
        refine own_by sg140 ?_
        obtain ⟨cl140, Ar140, qa140, Sa140, Na140, Ha140, Ga140⟩ := id V135
        obtain ⟨T140, h140, X140, e140, W140, st140⟩ := stC X135 hx hZ e135 Ar140 (j := (4 : Int32)) (inb_of Sa140 ⟨by decide, by decide⟩) (g := (mkF m 140 #[.val (.int p0), .val (.int p1)] [(.int (116 : Int32)), (.int (4 : Int32)), (.ref b114), (.ref b114)])) rfl rfl (hb hby d14_140)
        have V140 : Arv Z h140 b114 kc114 .char (12 : Int32) [(.int (99 : Int32)), (.int (111 : Int32)), (.int (110 : Int32)), (.int (115 : Int32)), (.int (116 : Int32)), (.int (0 : Int32)), (.int (0 : Int32)), (.int (0 : Int32)), (.int (0 : Int32)), (.int (0 : Int32)), (.int (0 : Int32)), (.int (0 : Int32))] (.int (0 : Int32)) := by
          have q := Arv.set Ar140 qa140 Sa140 Na140 Ha140 Ga140 (fits_nar_char _) W140 4 rfl (Nat.le_of_ble_eq_true rfl)
          exact q
        have K140 : Keep h0 h140 [] := K135.wr W140 (Or.inr sz_b114)
        have Z140 : n0 ≤ h140.size := Nat.le_trans Z135 (Keep.of_wr W140).1
        have N140 := Fr.snoc X140 N135 g_b114
        refine own_by st140 ?_
        have sg145 : ∀ t, own_S p e below T140 (mkF m 145 #[.val (.int p0), .val (.int p1)] [(.int (114 : Int32)), (.int (5 : Int32)), (.ref b114), (.ref b114)]) t → own_S p e below T140 (mkF m 141 #[.val (.int p0), .val (.int p1)] [(.ref b114)]) t := by
          intro t k
          show own_S p e below T140 (mkF m 141 #[.val (.int p0), .val (.int p1)] [(.ref b114)]) _
          refine XS.dup X140.here hx rfl (hb hby d14_141) rfl rfl ?_
          show own_S p e below T140 (mkF m 142 #[.val (.int p0), .val (.int p1)] [(.ref b114), (.ref b114)]) _
          refine XS.iconst X140.here hx rfl (hb hby d14_142) ?_
          show own_S p e below T140 (mkF m 143 #[.val (.int p0), .val (.int p1)] [(.int (5 : Int32)), (.ref b114), (.ref b114)]) _
          refine XS.bipush X140.here hx rfl (hb hby d14_143) ?_
          exact k
        refine own_by sg145 ?_
        obtain ⟨cl145, Ar145, qa145, Sa145, Na145, Ha145, Ga145⟩ := id V140
        obtain ⟨T145, h145, X145, e145, W145, st145⟩ := stC X140 hx hZ e140 Ar145 (j := (5 : Int32)) (inb_of Sa145 ⟨by decide, by decide⟩) (g := (mkF m 145 #[.val (.int p0), .val (.int p1)] [(.int (114 : Int32)), (.int (5 : Int32)), (.ref b114), (.ref b114)])) rfl rfl (hb hby d14_145)
        have V145 : Arv Z h145 b114 kc114 .char (12 : Int32) [(.int (99 : Int32)), (.int (111 : Int32)), (.int (110 : Int32)), (.int (115 : Int32)), (.int (116 : Int32)), (.int (114 : Int32)), (.int (0 : Int32)), (.int (0 : Int32)), (.int (0 : Int32)), (.int (0 : Int32)), (.int (0 : Int32)), (.int (0 : Int32))] (.int (0 : Int32)) := by
          have q := Arv.set Ar145 qa145 Sa145 Na145 Ha145 Ga145 (fits_nar_char _) W145 5 rfl (Nat.le_of_ble_eq_true rfl)
          exact q
        have K145 : Keep h0 h145 [] := K140.wr W145 (Or.inr sz_b114)
        have Z145 : n0 ≤ h145.size := Nat.le_trans Z140 (Keep.of_wr W145).1
        have N145 := Fr.snoc X145 N140 g_b114
        refine own_by st145 ?_
        have sg151 : ∀ t, own_S p e below T145 (mkF m 151 #[.val (.int p0), .val (.int p1)] [(.int (117 : Int32)), (.int (6 : Int32)), (.ref b114), (.ref b114)]) t → own_S p e below T145 (mkF m 146 #[.val (.int p0), .val (.int p1)] [(.ref b114)]) t := by
          intro t k
          show own_S p e below T145 (mkF m 146 #[.val (.int p0), .val (.int p1)] [(.ref b114)]) _
          refine XS.dup X145.here hx rfl (hb hby d14_146) rfl rfl ?_
          show own_S p e below T145 (mkF m 147 #[.val (.int p0), .val (.int p1)] [(.ref b114), (.ref b114)]) _
          refine XS.bipush X145.here hx rfl (hb hby d14_147) ?_
          show own_S p e below T145 (mkF m 149 #[.val (.int p0), .val (.int p1)] [(.int (6 : Int32)), (.ref b114), (.ref b114)]) _
          refine XS.bipush X145.here hx rfl (hb hby d14_149) ?_
          exact k
        refine own_by sg151 ?_
        obtain ⟨cl151, Ar151, qa151, Sa151, Na151, Ha151, Ga151⟩ := id V145
        obtain ⟨T151, h151, X151, e151, W151, st151⟩ := stC X145 hx hZ e145 Ar151 (j := (6 : Int32)) (inb_of Sa151 ⟨by decide, by decide⟩) (g := (mkF m 151 #[.val (.int p0), .val (.int p1)] [(.int (117 : Int32)), (.int (6 : Int32)), (.ref b114), (.ref b114)])) rfl rfl (hb hby d14_151)
        have V151 : Arv Z h151 b114 kc114 .char (12 : Int32) [(.int (99 : Int32)), (.int (111 : Int32)), (.int (110 : Int32)), (.int (115 : Int32)), (.int (116 : Int32)), (.int (114 : Int32)), (.int (117 : Int32)), (.int (0 : Int32)), (.int (0 : Int32)), (.int (0 : Int32)), (.int (0 : Int32)), (.int (0 : Int32))] (.int (0 : Int32)) := by
          have q := Arv.set Ar151 qa151 Sa151 Na151 Ha151 Ga151 (fits_nar_char _) W151 6 rfl (Nat.le_of_ble_eq_true rfl)
          exact q
        have K151 : Keep h0 h151 [] := K145.wr W151 (Or.inr sz_b114)
        have Z151 : n0 ≤ h151.size := Nat.le_trans Z145 (Keep.of_wr W151).1
        have N151 := Fr.snoc X151 N145 g_b114
        refine own_by st151 ?_
        have sg157 : ∀ t, own_S p e below T151 (mkF m 157 #[.val (.int p0), .val (.int p1)] [(.int (99 : Int32)), (.int (7 : Int32)), (.ref b114), (.ref b114)]) t → own_S p e below T151 (mkF m 152 #[.val (.int p0), .val (.int p1)] [(.ref b114)]) t := by
          intro t k
          show own_S p e below T151 (mkF m 152 #[.val (.int p0), .val (.int p1)] [(.ref b114)]) _
          refine XS.dup X151.here hx rfl (hb hby d14_152) rfl rfl ?_
          show own_S p e below T151 (mkF m 153 #[.val (.int p0), .val (.int p1)] [(.ref b114), (.ref b114)]) _
          refine XS.bipush X151.here hx rfl (hb hby d14_153) ?_
          show own_S p e below T151 (mkF m 155 #[.val (.int p0), .val (.int p1)] [(.int (7 : Int32)), (.ref b114), (.ref b114)]) _
          refine XS.bipush X151.here hx rfl (hb hby d14_155) ?_
          exact k
        refine own_by sg157 ?_
        obtain ⟨cl157, Ar157, qa157, Sa157, Na157, Ha157, Ga157⟩ := id V151
        obtain ⟨T157, h157, X157, e157, W157, st157⟩ := stC X151 hx hZ e151 Ar157 (j := (7 : Int32)) (inb_of Sa157 ⟨by decide, by decide⟩) (g := (mkF m 157 #[.val (.int p0), .val (.int p1)] [(.int (99 : Int32)), (.int (7 : Int32)), (.ref b114), (.ref b114)])) rfl rfl (hb hby d14_157)
        have V157 : Arv Z h157 b114 kc114 .char (12 : Int32) [(.int (99 : Int32)), (.int (111 : Int32)), (.int (110 : Int32)), (.int (115 : Int32)), (.int (116 : Int32)), (.int (114 : Int32)), (.int (117 : Int32)), (.int (99 : Int32)), (.int (0 : Int32)), (.int (0 : Int32)), (.int (0 : Int32)), (.int (0 : Int32))] (.int (0 : Int32)) := by
          have q := Arv.set Ar157 qa157 Sa157 Na157 Ha157 Ga157 (fits_nar_char _) W157 7 rfl (Nat.le_of_ble_eq_true rfl)
          exact q
        have K157 : Keep h0 h157 [] := K151.wr W157 (Or.inr sz_b114)
        have Z157 : n0 ≤ h157.size := Nat.le_trans Z151 (Keep.of_wr W157).1
        have N157 := Fr.snoc X157 N151 g_b114
        refine own_by st157 ?_
        have sg163 : ∀ t, own_S p e below T157 (mkF m 163 #[.val (.int p0), .val (.int p1)] [(.int (116 : Int32)), (.int (8 : Int32)), (.ref b114), (.ref b114)]) t → own_S p e below T157 (mkF m 158 #[.val (.int p0), .val (.int p1)] [(.ref b114)]) t := by
          intro t k
          show own_S p e below T157 (mkF m 158 #[.val (.int p0), .val (.int p1)] [(.ref b114)]) _
          refine XS.dup X157.here hx rfl (hb hby d14_158) rfl rfl ?_
          show own_S p e below T157 (mkF m 159 #[.val (.int p0), .val (.int p1)] [(.ref b114), (.ref b114)]) _
          refine XS.bipush X157.here hx rfl (hb hby d14_159) ?_
          show own_S p e below T157 (mkF m 161 #[.val (.int p0), .val (.int p1)] [(.int (8 : Int32)), (.ref b114), (.ref b114)]) _
          refine XS.bipush X157.here hx rfl (hb hby d14_161) ?_
          exact k
        refine own_by sg163 ?_
        obtain ⟨cl163, Ar163, qa163, Sa163, Na163, Ha163, Ga163⟩ := id V157
        obtain ⟨T163, h163, X163, e163, W163, st163⟩ := stC X157 hx hZ e157 Ar163 (j := (8 : Int32)) (inb_of Sa163 ⟨by decide, by decide⟩) (g := (mkF m 163 #[.val (.int p0), .val (.int p1)] [(.int (116 : Int32)), (.int (8 : Int32)), (.ref b114), (.ref b114)])) rfl rfl (hb hby d14_163)
        have V163 : Arv Z h163 b114 kc114 .char (12 : Int32) [(.int (99 : Int32)), (.int (111 : Int32)), (.int (110 : Int32)), (.int (115 : Int32)), (.int (116 : Int32)), (.int (114 : Int32)), (.int (117 : Int32)), (.int (99 : Int32)), (.int (116 : Int32)), (.int (0 : Int32)), (.int (0 : Int32)), (.int (0 : Int32))] (.int (0 : Int32)) := by
          have q := Arv.set Ar163 qa163 Sa163 Na163 Ha163 Ga163 (fits_nar_char _) W163 8 rfl (Nat.le_of_ble_eq_true rfl)
          exact q
        have K163 : Keep h0 h163 [] := K157.wr W163 (Or.inr sz_b114)
        have Z163 : n0 ≤ h163.size := Nat.le_trans Z157 (Keep.of_wr W163).1
        have N163 := Fr.snoc X163 N157 g_b114
        refine own_by st163 ?_
        have sg169 : ∀ t, own_S p e below T163 (mkF m 169 #[.val (.int p0), .val (.int p1)] [(.int (111 : Int32)), (.int (9 : Int32)), (.ref b114), (.ref b114)]) t → own_S p e below T163 (mkF m 164 #[.val (.int p0), .val (.int p1)] [(.ref b114)]) t := by
          intro t k
          show own_S p e below T163 (mkF m 164 #[.val (.int p0), .val (.int p1)] [(.ref b114)]) _
          refine XS.dup X163.here hx rfl (hb hby d14_164) rfl rfl ?_
          show own_S p e below T163 (mkF m 165 #[.val (.int p0), .val (.int p1)] [(.ref b114), (.ref b114)]) _
          refine XS.bipush X163.here hx rfl (hb hby d14_165) ?_
          show own_S p e below T163 (mkF m 167 #[.val (.int p0), .val (.int p1)] [(.int (9 : Int32)), (.ref b114), (.ref b114)]) _
          refine XS.bipush X163.here hx rfl (hb hby d14_167) ?_
          exact k
        refine own_by sg169 ?_
        obtain ⟨cl169, Ar169, qa169, Sa169, Na169, Ha169, Ga169⟩ := id V163
        obtain ⟨T169, h169, X169, e169, W169, st169⟩ := stC X163 hx hZ e163 Ar169 (j := (9 : Int32)) (inb_of Sa169 ⟨by decide, by decide⟩) (g := (mkF m 169 #[.val (.int p0), .val (.int p1)] [(.int (111 : Int32)), (.int (9 : Int32)), (.ref b114), (.ref b114)])) rfl rfl (hb hby d14_169)
        have V169 : Arv Z h169 b114 kc114 .char (12 : Int32) [(.int (99 : Int32)), (.int (111 : Int32)), (.int (110 : Int32)), (.int (115 : Int32)), (.int (116 : Int32)), (.int (114 : Int32)), (.int (117 : Int32)), (.int (99 : Int32)), (.int (116 : Int32)), (.int (111 : Int32)), (.int (0 : Int32)), (.int (0 : Int32))] (.int (0 : Int32)) := by
          have q := Arv.set Ar169 qa169 Sa169 Na169 Ha169 Ga169 (fits_nar_char _) W169 9 rfl (Nat.le_of_ble_eq_true rfl)
          exact q
        have K169 : Keep h0 h169 [] := K163.wr W169 (Or.inr sz_b114)
        have Z169 : n0 ≤ h169.size := Nat.le_trans Z163 (Keep.of_wr W169).1
        have N169 := Fr.snoc X169 N163 g_b114
        refine own_by st169 ?_
        have sg175 : ∀ t, own_S p e below T169 (mkF m 175 #[.val (.int p0), .val (.int p1)] [(.int (114 : Int32)), (.int (10 : Int32)), (.ref b114), (.ref b114)]) t → own_S p e below T169 (mkF m 170 #[.val (.int p0), .val (.int p1)] [(.ref b114)]) t := by
          intro t k
          show own_S p e below T169 (mkF m 170 #[.val (.int p0), .val (.int p1)] [(.ref b114)]) _
          refine XS.dup X169.here hx rfl (hb hby d14_170) rfl rfl ?_
          show own_S p e below T169 (mkF m 171 #[.val (.int p0), .val (.int p1)] [(.ref b114), (.ref b114)]) _
          refine XS.bipush X169.here hx rfl (hb hby d14_171) ?_
          show own_S p e below T169 (mkF m 173 #[.val (.int p0), .val (.int p1)] [(.int (10 : Int32)), (.ref b114), (.ref b114)]) _
          refine XS.bipush X169.here hx rfl (hb hby d14_173) ?_
          exact k
        refine own_by sg175 ?_
        obtain ⟨cl175, Ar175, qa175, Sa175, Na175, Ha175, Ga175⟩ := id V169
        obtain ⟨T175, h175, X175, e175, W175, st175⟩ := stC X169 hx hZ e169 Ar175 (j := (10 : Int32)) (inb_of Sa175 ⟨by decide, by decide⟩) (g := (mkF m 175 #[.val (.int p0), .val (.int p1)] [(.int (114 : Int32)), (.int (10 : Int32)), (.ref b114), (.ref b114)])) rfl rfl (hb hby d14_175)
        have V175 : Arv Z h175 b114 kc114 .char (12 : Int32) [(.int (99 : Int32)), (.int (111 : Int32)), (.int (110 : Int32)), (.int (115 : Int32)), (.int (116 : Int32)), (.int (114 : Int32)), (.int (117 : Int32)), (.int (99 : Int32)), (.int (116 : Int32)), (.int (111 : Int32)), (.int (114 : Int32)), (.int (0 : Int32))] (.int (0 : Int32)) := by
          have q := Arv.set Ar175 qa175 Sa175 Na175 Ha175 Ga175 (fits_nar_char _) W175 10 rfl (Nat.le_of_ble_eq_true rfl)
          exact q
        have K175 : Keep h0 h175 [] := K169.wr W175 (Or.inr sz_b114)
        have Z175 : n0 ≤ h175.size := Nat.le_trans Z169 (Keep.of_wr W175).1
        have N175 := Fr.snoc X175 N169 g_b114
        refine own_by st175 ?_
        have sg180 : ∀ t, own_S p e below T175 (mkF m 180 #[.val (.int p0), .val (.int p1)] [(.int p1), (.int (11 : Int32)), (.ref b114), (.ref b114)]) t → own_S p e below T175 (mkF m 176 #[.val (.int p0), .val (.int p1)] [(.ref b114)]) t := by
          intro t k
          show own_S p e below T175 (mkF m 176 #[.val (.int p0), .val (.int p1)] [(.ref b114)]) _
          refine XS.dup X175.here hx rfl (hb hby d14_176) rfl rfl ?_
          show own_S p e below T175 (mkF m 177 #[.val (.int p0), .val (.int p1)] [(.ref b114), (.ref b114)]) _
          refine XS.bipush X175.here hx rfl (hb hby d14_177) ?_
          show own_S p e below T175 (mkF m 179 #[.val (.int p0), .val (.int p1)] [(.int (11 : Int32)), (.ref b114), (.ref b114)]) _
          refine XS.iloadN X175.here hx rfl (hb hby d14_179) rfl ?_
          exact k
        refine own_by sg180 ?_
        obtain ⟨cl180, Ar180, qa180, Sa180, Na180, Ha180, Ga180⟩ := id V175
        obtain ⟨T180, h180, X180, e180, W180, st180⟩ := stC X175 hx hZ e175 Ar180 (j := (11 : Int32)) (inb_of Sa180 ⟨by decide, by decide⟩) (g := (mkF m 180 #[.val (.int p0), .val (.int p1)] [(.int p1), (.int (11 : Int32)), (.ref b114), (.ref b114)])) rfl rfl (hb hby d14_180)
        have V180 : Arv Z h180 b114 kc114 .char (12 : Int32) [(.int (99 : Int32)), (.int (111 : Int32)), (.int (110 : Int32)), (.int (115 : Int32)), (.int (116 : Int32)), (.int (114 : Int32)), (.int (117 : Int32)), (.int (99 : Int32)), (.int (116 : Int32)), (.int (111 : Int32)), (.int (114 : Int32)), (.int p1)] (.int (0 : Int32)) := by
          have q := Arv.set Ar180 qa180 Sa180 Na180 Ha180 Ga180 (fits_nar_char _) W180 11 rfl (Nat.le_of_ble_eq_true rfl)
          rw [own_narc hk] at q
          exact q
        have K180 : Keep h0 h180 [] := K175.wr W180 (Or.inr sz_b114)
        have Z180 : n0 ≤ h180.size := Nat.le_trans Z175 (Keep.of_wr W180).1
        have N180 := Fr.snoc X180 N175 g_b114
        refine own_by st180 ?_
        obtain ⟨fs, hr, hrun, hended, hW, hsame⟩ := X180.leave (v := some (.ref b114)) (fun h => by rw [Bd.returns] at h; cases h)
        refine ⟨_, _, ?_, hrun, hended, _, _, rfl, ?_, ⟨_, rfl⟩, hW, hsame.mono (by decide) (by decide)⟩
        · show Steps p.tables e below (T180.setTop (mkF m 181 #[.val (.int p0), .val (.int p1)] [(.ref b114)])) _
          jvm_step X180.here [X180.here.top, hx, (hb hby d14_181), X180.method', Bd.returns, Value.isRef, FieldType.isReference]
          first | (intro acts; rw [hr _ acts rfl rfl rfl]) | rw [hr _ _ rfl rfl rfl]
          exact Steps.refl _
        · show Q14 Z p0 p1 h0 n0 _ T180.heap _
          rw [e180]
          exact ⟨_, _, rfl, sz_b114, N180, K180, (by unfold own_longer; rw [if_neg hc1, if_neg hc24, if_neg hc69]; exact V180)⟩
theorem d3_0 : decode jdk_42_method_149_code 0 = .ok (.aload_n 0, 1) := by decide +kernel
theorem d3_1 : decode jdk_42_method_149_code 1 = .ok (.invokespecial 1, 3) := by decide +kernel
theorem d3_4 : decode jdk_42_method_149_code 4 = .ok (.iload_n 3, 1) := by decide +kernel
theorem d3_5 : decode jdk_42_method_149_code 5 = .ok (.ifCond .ne 22, 3) := by decide +kernel
theorem d3_8 : decode jdk_42_method_149_code 8 = .ok (.aload_n 0, 1) := by decide +kernel
theorem d3_9 : decode jdk_42_method_149_code 9 = .ok (.ldc 7, 2) := by decide +kernel
theorem d3_11 : decode jdk_42_method_149_code 11 = .ok (.getfield 9, 3) := by decide +kernel
theorem d3_14 : decode jdk_42_method_149_code 14 = .ok (.putfield 9, 3) := by decide +kernel
theorem d3_17 : decode jdk_42_method_149_code 17 = .ok (.aload_n 0, 1) := by decide +kernel
theorem d3_18 : decode jdk_42_method_149_code 18 = .ok (.ldc 7, 2) := by decide +kernel
theorem d3_20 : decode jdk_42_method_149_code 20 = .ok (.getfield 15, 3) := by decide +kernel
theorem d3_23 : decode jdk_42_method_149_code 23 = .ok (.putfield 15, 3) := by decide +kernel
theorem d3_26 : decode jdk_42_method_149_code 26 = .ok (.return_, 1) := by decide +kernel
theorem pn_3e : plainFor (⟨"java/lang/String", "<init>", "([CIILjava/lang/Void;)V"⟩ : MethodName) = true := by first | exact plainFor_of_name (by first | (simp [plainName, overriddenIn]; done) | decide +kernel) | decide +kernel | exact Jvm.Free.JP.mathPlain rfl (by decide +kernel)
theorem ef_3e (m : MethodId) (a1 : Addr) (a2 : Addr) : entryFrame m #[(.ref a1), (.ref a2), (.int (0 : Int32)), (.int (0 : Int32)), .null] 6 = mkF m 0 #[.val (.ref a1), .val (.ref a2), .val (.int (0 : Int32)), .val (.int (0 : Int32)), .val .null, .unset] [] := by first | (simp [entryFrame, mkF, argsToLocals, Value.category]; done) | rfl
def Q3e (Z : State) (a1 : Addr) (a2 : Addr) (h0 : Heap) (n0 : Nat) (v : Option Value) (h : Heap) (L : List Loc) : Prop := v = none ∧ Fr n0 L ∧ Keep h0 h [a1] ∧ own_Str Z h a1 []
set_option maxRecDepth 65536 in
set_option maxHeartbeats 40000000 in
theorem rm3e (l : Launch) (Z : State) (a0 : Array Value) (hw : ∀ d ∈ tables_1, d.before a0 Z = true) (ws : List Jvm.Cond) (a1 : Addr) (a2 : Addr) (h0 : Heap) (n0 : Nat) (Z0 : n0 ≤ h0.size) (E_a1 : Exa Z h0 a1 "java/lang/String") (F_v : Fld Z h0 a1 "java/lang/String" "value" "[B" .null) (F_c : Fld Z h0 a1 "java/lang/String" "coder" "B" (.int (0 : Int32))) (g_a1 : n0 ≤ a1) :
    MetFree l (⟨"java/lang/String", "<init>", "([CIILjava/lang/Void;)V"⟩ : MethodName) (head1 (Jvm.Cond.code (⟨"java/lang/String", "<init>", "([CIILjava/lang/Void;)V"⟩ : MethodName) jdk_42_method_149_code 6 none :: ws) ({ frames := 1, cells := 4, slots := 8, locals := 12 } : Room)) (fun a U => a = #[(.ref a1), (.ref a2), (.int (0 : Int32)), (.int (0 : Int32)), .null] ∧ Z.Warmed39 U.vm ∧ U.heap = h0 ∧ CHv Z consts_1 U.vm h0) (fun _ _ _ _ _ => True) (fun _ U o U' => ∃ v L, o = .returned v ∧ Q3e Z a1 a2 h0 n0 v U'.heap L ∧ CHr Z consts_1 U.vm U.heap U'.vm U'.heap ∧ ReturnedEndW U o U' L ({ frames := 1, cells := 4, slots := 8, locals := 12 } : Room).cells ({ frames := 1, cells := 4, slots := 8, locals := 12 } : Room).slots) := by
  refine MetFree.of_bodySF pn_3e hisR ?_
  intro p e s m args below meth c s₁ Bd hml0 hP hK
  obtain ⟨rfl, hZ, hh, hH0⟩ := hP
  have hx := Bd.exec
  have hby := Bd.bytes
  have hml : c.maxLocals = 6 := hml0
  have hown : s.vm.findClass "java/lang/String" = some m.cls := findClass_of_methodNamed Bd.named
  have hnm := (name_of_methodNamed Bd.named Bd.method).1
  have X0 : Stand p l e ({ frames := 1, cells := 4, slots := 8, locals := 12 } : Room) (s.setVm s.vm) m #[(.ref a1), (.ref a2), (.int (0 : Int32)), (.int (0 : Int32)), .null] below meth c s₁ [] 0 0 := Stand.of_body Bd
  have e0 : s₁.heap = h0 := by rw [← hh, Bd.state]; rfl
  have N0 := Fr.nil n0
  have hS0 : s.Since s.vm 0 := (State.WarmedH.refl s).since 0
  refine own_at (castTop (ef_3e m a1 a2)) ?_
  have K0 := Keep.refl h0 [a1]
  have wS : ∀ a ∈ Bundle.stringAtoms, a.before a0 Z = true := fun d hd => hw d ((by decide +kernel : ∀ d ∈ Bundle.stringAtoms, d ∈ tables_1) d hd)
  have hEL : EW _ _ consts_1 := (EW.cons (hw _ (List.mem_of_getElem? (i := 72) rfl)) (by decide) (EW.cons (hw _ (List.mem_of_getElem? (i := 78) rfl)) (by decide) (EW.cons (hw _ (List.mem_of_getElem? (i := 79) rfl)) (by decide) (EW.cons (hw _ (List.mem_of_getElem? (i := 80) rfl)) (by decide) (EW.cons (hw _ (List.mem_of_getElem? (i := 77) rfl)) (by decide) EW.nil)))))
  have hZ0 : Z.Warmed39 s.vm := hZ
  have sg1 : ∀ t, own_S p e below s₁ (mkF m 1 (own_ARRIINU a1 a2 (0 : Int32) (0 : Int32)) [(.ref a1)]) t → own_S p e below s₁ (mkF m 0 (own_ARRIINU a1 a2 (0 : Int32) (0 : Int32)) []) t := by
    intro t k
    show own_S p e below s₁ (mkF m 0 (own_ARRIINU a1 a2 (0 : Int32) (0 : Int32)) []) _
    refine XS.aloadN X0.here hx rfl (hb hby d3_0) rfl rfl ?_
    exact k
  refine own_by sg1 ?_
  obtain ⟨T1, X1, e1, st1⟩ := initO X0 hx hZ hown (hw _ (List.mem_of_getElem? (i := 15) rfl)) (hw _ (List.mem_of_getElem? (i := 16) rfl)) (hw _ (List.mem_of_getElem? (i := 17) rfl)) e0 (g := (mkF m 1 (own_ARRIINU a1 a2 (0 : Int32) (0 : Int32)) [(.ref a1)])) rfl (by rw [hml]; rfl) rfl (hb hby d3_1) (by decide) (W := 0) (by show 2 * 0 + _ ≤ _; exact Nat.le_of_eq rfl) (by decide)
  refine own_by st1 ?_
  have sg9 : ∀ t, own_S p e below T1 (mkF m 9 (own_ARRIINU a1 a2 (0 : Int32) (0 : Int32)) [(.ref a1)]) t → own_S p e below T1 (mkF m 4 (own_ARRIINU a1 a2 (0 : Int32) (0 : Int32)) []) t := by
    intro t k
    show own_S p e below T1 (mkF m 4 (own_ARRIINU a1 a2 (0 : Int32) (0 : Int32)) []) _
    refine XS.iloadN X1.here hx rfl (hb hby d3_4) rfl ?_
    show own_S p e below T1 (mkF m 5 (own_ARRIINU a1 a2 (0 : Int32) (0 : Int32)) [(.int (0 : Int32))]) _
    refine XS.ifNo X1.here hx rfl (hb hby d3_5) rfl ((if0 _ _).trans (teq (by decide : (0 : Int32) = (0 : Int32))).2) ?_
    show own_S p e below T1 (mkF m 8 (own_ARRIINU a1 a2 (0 : Int32) (0 : Int32)) []) _
    refine XS.aloadN X1.here hx rfl (hb hby d3_8) rfl rfl ?_
    exact k
  refine own_by sg9 ?_
  obtain ⟨l9a, T9, h9, ks9, lb9, lk9, X9, e9, E9, hS9, hk9, hZ9, hown9, lE9, lC9, lV9, lA9, la19, la29, hC9, -, hsf9, st9⟩ := ldcCH X1 hx hZ hown (hw _ (List.mem_of_getElem? (i := 77) rfl)) wS e1 hS0 (Nat.zero_le _) hEL (by decide) hH0 (vs := []) (z := (0 : Int32)) ⟨by decide, by decide⟩ (by decide) (by decide) (g := (mkF m 9 (own_ARRIINU a1 a2 (0 : Int32) (0 : Int32)) [(.ref a1)])) rfl (hb hby d3_9) (n := 0) (by decide) (by decide) (by decide) (by decide)
  have K9 := K0.ext E9
  have Z9 : n0 ≤ h9.size := Nat.le_trans Z0 E9.1
  have CR9 := (CHr.refl hH0).trans hC9
  have sf9 := hC9.safe E_a1.lt (own_safe0 (vm := s.vm) hZ0.alike E_a1 F_v (hw _ (List.mem_of_getElem? (i := 1) rfl)))
  obtain ⟨ne_a1_l9a, ne_a1_lb9⟩ := hsf9 _ sf9
  refine own_by st9 ?_
  obtain ⟨T11, X11, e11, st11⟩ := getF X9 hx hZ9 hown9 (host := "") (Or.inl (hw _ (List.mem_of_getElem? (i := 32) rfl))) Via.refl e9 lV9 (g := (mkF m 11 (own_ARRIINU a1 a2 (0 : Int32) (0 : Int32)) [(.ref l9a), (.ref a1)])) rfl rfl (hb hby d3_11)
  refine own_by st11 ?_
  obtain ⟨T14, h14, X14, e14, W14, st14⟩ := putF X11 hx hZ9 hown9 (host := "") (Or.inl (hw _ (List.mem_of_getElem? (i := 32) rfl))) Via.refl e11 (F_v.ext E9) (E_a1.ext E9) (Or.inr ⟨(hw _ (List.mem_of_getElem? (i := 33) rfl)), rfl, hnm⟩) (hw _ (List.mem_of_getElem? (i := 1) rfl)) (ty := (.array .byte)) (by decide) rfl rfl (g := (mkF m 14 (own_ARRIINU a1 a2 (0 : Int32) (0 : Int32)) [(.ref lb9), (.ref a1)])) rfl rfl (hb hby d3_14)
  have Fw14 := (F_v.ext E9).same W14
  have fc := ((F_c.ext E9).other W14 (Or.inr (slot_ne (Or.inr (hw _ (List.mem_of_getElem? (i := 31) rfl))) (Or.inr (hw _ (List.mem_of_getElem? (i := 33) rfl))) (by decide) (t := .byte) (t' := (.array .byte)) (by decide) (by decide))))
  have K14 : Keep h0 h14 [a1] := K9.wr W14 (Or.inl (List.mem_of_getElem? (i := 0) rfl))
  have Z14 : n0 ≤ h14.size := Nat.le_trans Z9 (Keep.of_wr W14).1
  have CC14 := CHr.wr W14 sf9 hC9.1
  have CR14 := CR9.trans CC14
  have N14 := Fr.snoc X14 N0 g_a1
  refine own_by st14 ?_
  have sf14 := Safe.wr W14 sf9 hC9.1 sf9
  have lt14 := ((E_a1.ext E9).wr W14).lt
  have sg18 : ∀ t, own_S p e below T14 (mkF m 18 (own_ARRIINU a1 a2 (0 : Int32) (0 : Int32)) [(.ref a1)]) t → own_S p e below T14 (mkF m 17 (own_ARRIINU a1 a2 (0 : Int32) (0 : Int32)) []) t := by
    intro t k
    show own_S p e below T14 (mkF m 17 (own_ARRIINU a1 a2 (0 : Int32) (0 : Int32)) []) _
    refine XS.aloadN X14.here hx rfl (hb hby d3_17) rfl rfl ?_
    exact k
  refine own_by sg18 ?_
  obtain ⟨l18a, T18, h18, ks18, lb18, lk18, X18, e18, E18, hS18, hk18, hZ18, hown18, lE18, lC18, lV18, lA18, la118, la218, hC18, -, hsf18, st18⟩ := ldcCH X14 hx hZ9 hown9 (hw _ (List.mem_of_getElem? (i := 77) rfl)) wS e14 hS9 (Nat.le_trans hk9 (Keep.of_wr W14).1) hEL (by decide) CC14.1 (vs := []) (z := (0 : Int32)) ⟨by decide, by decide⟩ (by decide) (by decide) (g := (mkF m 18 (own_ARRIINU a1 a2 (0 : Int32) (0 : Int32)) [(.ref a1)])) rfl (hb hby d3_18) (n := 0) (by decide) (by decide) (by decide) (by decide)
  have K18 := K14.ext E18
  have Z18 : n0 ≤ h18.size := Nat.le_trans Z14 E18.1
  have CR18 := CR14.trans hC18
  have sf18 := hC18.safe lt14 sf14
  obtain ⟨ne_a1_l18a, ne_a1_lb18⟩ := hsf18 _ sf18
  refine own_by st18 ?_
  obtain ⟨T20, X20, e20, st20⟩ := getF X18 hx hZ18 hown18 (host := "") (Or.inl (hw _ (List.mem_of_getElem? (i := 30) rfl))) Via.refl e18 lC18 (g := (mkF m 20 (own_ARRIINU a1 a2 (0 : Int32) (0 : Int32)) [(.ref l18a), (.ref a1)])) rfl rfl (hb hby d3_20)
  refine own_by st20 ?_
  obtain ⟨T23, h23, X23, e23, W23, st23⟩ := putF X20 hx hZ18 hown18 (host := "") (Or.inl (hw _ (List.mem_of_getElem? (i := 30) rfl))) Via.refl e20 (fc.ext E18) (((E_a1.ext E9).wr W14).ext E18) (Or.inr ⟨(hw _ (List.mem_of_getElem? (i := 31) rfl)), rfl, hnm⟩) (hw _ (List.mem_of_getElem? (i := 1) rfl)) (ty := .byte) (by decide) rfl rfl (g := (mkF m 23 (own_ARRIINU a1 a2 (0 : Int32) (0 : Int32)) [(.int (0 : Int32)), (.ref a1)])) rfl rfl (hb hby d3_23)
  have Fw23 := (fc.ext E18).same W23
  have fc_2 := ((Fw14.ext E18).other W23 (Or.inr (slot_ne (Or.inr (hw _ (List.mem_of_getElem? (i := 33) rfl))) (Or.inr (hw _ (List.mem_of_getElem? (i := 31) rfl))) (by decide) (t := (.array .byte)) (t' := .byte) (by decide) (by decide))))
  have fc_3 := (((lC9.other W14 (Or.inl (Ne.symm ne_a1_l9a))).ext E18).other W23 (Or.inl (Ne.symm ne_a1_l9a)))
  have fc_4 := (((lV9.other W14 (Or.inl (Ne.symm ne_a1_l9a))).ext E18).other W23 (Or.inl (Ne.symm ne_a1_l9a)))
  have fc_5 := (((lA9.other W14 (Ne.symm ne_a1_lb9)).ext E18).other W23 (Ne.symm ne_a1_lb9))
  have K23 : Keep h0 h23 [a1] := K18.wr W23 (Or.inl (List.mem_of_getElem? (i := 0) rfl))
  have Z23 : n0 ≤ h23.size := Nat.le_trans Z18 (Keep.of_wr W23).1
  have CC23 := CHr.wr W23 sf18 hC18.1
  have CR23 := CR18.trans CC23
  have N23 := Fr.snoc X23 N14 g_a1
  refine own_by st23 ?_
  obtain ⟨fs, hr, hrun, hended, hW⟩ := X23.leaveW hS18 (by rw [e23]; exact (Nat.le_trans hk18 (Keep.of_wr W23).1)) (v := none) (fun _ => rfl)
  refine ⟨_, _, ?_, hrun, hended, _, _, rfl, ?_, (by rw [hh]; show CHr Z consts_1 s.vm h0 T23.vm T23.heap; rw [e23]; exact CR23.trans (CHv.at X23 hZ18 hEL CC23.1)), hW.1, hW.2.1, hW.2.2.1, hW.2.2.2.mono (by decide) (by decide)⟩
  · exact X23.returnOut hx Bd.returns (hb hby d3_26) hr
  · show Q3e Z a1 a2 h0 n0 _ T23.heap _
    rw [e23]
    exact ⟨rfl, N23, K23, ⟨lb9, _, _, _, _, ((((E_a1.ext E9).wr W14).ext E18).wr W23), fc_2, Fw23, fc_5, Or.inl ⟨rfl, rfl, rfl, by decide⟩, by decide, by decide⟩⟩
theorem d2_0 : decode jdk_42_method_3_code 0 = .ok (.aload_n 0, 1) := by decide +kernel
theorem d2_1 : decode jdk_42_method_3_code 1 = .ok (.aload_n 1, 1) := by decide +kernel
theorem d2_2 : decode jdk_42_method_3_code 2 = .ok (.iconst 0, 1) := by decide +kernel
theorem d2_3 : decode jdk_42_method_3_code 3 = .ok (.aload_n 1, 1) := by decide +kernel
theorem d2_4 : decode jdk_42_method_3_code 4 = .ok (.arraylength, 1) := by decide +kernel
theorem d2_5 : decode jdk_42_method_3_code 5 = .ok (.aconst_null, 1) := by decide +kernel
theorem d2_6 : decode jdk_42_method_3_code 6 = .ok (.invokespecial 27, 3) := by decide +kernel
theorem d2_9 : decode jdk_42_method_3_code 9 = .ok (.return_, 1) := by decide +kernel
theorem pn_2e : plainFor (⟨"java/lang/String", "<init>", "([C)V"⟩ : MethodName) = true := by first | exact plainFor_of_name (by first | (simp [plainName, overriddenIn]; done) | decide +kernel) | decide +kernel | exact Jvm.Free.JP.mathPlain rfl (by decide +kernel)
theorem pd_2_0e : parseMethodDescriptor "([CIILjava/lang/Void;)V" = some ⟨[(.array .char), .int, .int, (.object "java/lang/Void")], none⟩ := by decide +kernel
theorem ef_2e (m : MethodId) (a1 : Addr) (a2 : Addr) : entryFrame m #[(.ref a1), (.ref a2)] 2 = mkF m 0 #[.val (.ref a1), .val (.ref a2)] [] := by first | (simp [entryFrame, mkF, argsToLocals, Value.category]; done) | rfl
def Q2e (Z : State) (a1 : Addr) (a2 : Addr) (cl : Cell) (h0 : Heap) (n0 : Nat) (v : Option Value) (h : Heap) (L : List Loc) : Prop := v = none ∧ Fr n0 L ∧ Keep h0 h [a1] ∧ own_Str Z h a1 []
set_option maxRecDepth 65536 in
set_option maxHeartbeats 40000000 in
theorem rm2e (l : Launch) (Z : State) (a0 : Array Value) (hw : ∀ d ∈ tables_1, d.before a0 Z = true) (ws : List Jvm.Cond) (a1 : Addr) (a2 : Addr) (cl : Cell) (h0 : Heap) (n0 : Nat) (Z0 : n0 ≤ h0.size) (E_a1 : Exa Z h0 a1 "java/lang/String") (F_v : Fld Z h0 a1 "java/lang/String" "value" "[B" .null) (F_c : Fld Z h0 a1 "java/lang/String" "coder" "B" (.int (0 : Int32))) (g_a1 : n0 ≤ a1) (Ar : Arr Z h0 a2 cl .char) (hsz : cl.slots.size = 0) :
    MetFree l (⟨"java/lang/String", "<init>", "([C)V"⟩ : MethodName) (head1 (Jvm.Cond.code (⟨"java/lang/String", "<init>", "([C)V"⟩ : MethodName) jdk_42_method_3_code 2 none :: ws) ({ frames := 2, cells := 4, slots := 8, locals := 29 } : Room)) (fun a U => a = #[(.ref a1), (.ref a2)] ∧ Z.Warmed39 U.vm ∧ U.heap = h0 ∧ CHv Z consts_1 U.vm h0) (fun _ _ _ _ _ => True) (fun _ U o U' => ∃ v L, o = .returned v ∧ Q2e Z a1 a2 cl h0 n0 v U'.heap L ∧ CHr Z consts_1 U.vm U.heap U'.vm U'.heap ∧ ReturnedEndW U o U' L ({ frames := 2, cells := 4, slots := 8, locals := 29 } : Room).cells ({ frames := 2, cells := 4, slots := 8, locals := 29 } : Room).slots) := by
  refine MetFree.of_bodySF pn_2e hisR ?_
  intro p e s m args below meth c s₁ Bd hml0 hP hK
  obtain ⟨rfl, hZ, hh, hH0⟩ := hP
  have hx := Bd.exec
  have hby := Bd.bytes
  have hml : c.maxLocals = 2 := hml0
  have hown : s.vm.findClass "java/lang/String" = some m.cls := findClass_of_methodNamed Bd.named
  have hnm := (name_of_methodNamed Bd.named Bd.method).1
  have X0 : Stand p l e ({ frames := 2, cells := 4, slots := 8, locals := 29 } : Room) (s.setVm s.vm) m #[(.ref a1), (.ref a2)] below meth c s₁ [] 0 0 := Stand.of_body Bd
  have e0 : s₁.heap = h0 := by rw [← hh, Bd.state]; rfl
  have N0 := Fr.nil n0
  have hS0 : s.Since s.vm 0 := (State.WarmedH.refl s).since 0
  refine own_at (castTop (ef_2e m a1 a2)) ?_
  have K0 := Keep.refl h0 [a1]
  have wS : ∀ a ∈ Bundle.stringAtoms, a.before a0 Z = true := fun d hd => hw d ((by decide +kernel : ∀ d ∈ Bundle.stringAtoms, d ∈ tables_1) d hd)
  have hEL : EW _ _ consts_1 := (EW.cons (hw _ (List.mem_of_getElem? (i := 72) rfl)) (by decide) (EW.cons (hw _ (List.mem_of_getElem? (i := 78) rfl)) (by decide) (EW.cons (hw _ (List.mem_of_getElem? (i := 79) rfl)) (by decide) (EW.cons (hw _ (List.mem_of_getElem? (i := 80) rfl)) (by decide) (EW.cons (hw _ (List.mem_of_getElem? (i := 77) rfl)) (by decide) EW.nil)))))
  have sg6 : ∀ t, own_S p e below s₁ (mkF m 6 #[.val (.ref a1), .val (.ref a2)] [.null, (.int (0 : Int32)), (.int (0 : Int32)), (.ref a2), (.ref a1)]) t → own_S p e below s₁ (mkF m 0 #[.val (.ref a1), .val (.ref a2)] []) t := by
    intro t k
    show own_S p e below s₁ (mkF m 0 #[.val (.ref a1), .val (.ref a2)] []) _
    refine XS.aloadN X0.here hx rfl (hb hby d2_0) rfl rfl ?_
    show own_S p e below s₁ (mkF m 1 #[.val (.ref a1), .val (.ref a2)] [(.ref a1)]) _
    refine XS.aloadN X0.here hx rfl (hb hby d2_1) rfl rfl ?_
    show own_S p e below s₁ (mkF m 2 #[.val (.ref a1), .val (.ref a2)] [(.ref a2), (.ref a1)]) _
    refine XS.iconst X0.here hx rfl (hb hby d2_2) ?_
    show own_S p e below s₁ (mkF m 3 #[.val (.ref a1), .val (.ref a2)] [(.int (0 : Int32)), (.ref a2), (.ref a1)]) _
    refine XS.aloadN X0.here hx rfl (hb hby d2_3) rfl rfl ?_
    show own_S p e below s₁ (mkF m 4 #[.val (.ref a1), .val (.ref a2)] [(.ref a2), (.int (0 : Int32)), (.ref a2), (.ref a1)]) _
    refine X0.arraylength hx (by rw [e0]; exact Ar.1) (State.isArrayOf_alike hZ.alike Ar.2.1) (g := (mkF m 4 #[.val (.ref a1), .val (.ref a2)] [(.ref a2), (.int (0 : Int32)), (.ref a2), (.ref a1)])) rfl rfl (hb hby d2_4) _ ?_
    rw [hsz]
    show own_S p e below s₁ (mkF m 5 #[.val (.ref a1), .val (.ref a2)] [(.int (0 : Int32)), (.int (0 : Int32)), (.ref a2), (.ref a1)]) _
    refine XS.aconstNull X0.here hx rfl (hb hby d2_5) ?_
    exact k
  refine own_by sg6 ?_
  obtain ⟨_, _, ⟨T6, L6, k6, n6⟩, -, Xc6, hSc6, hgc6, ⟨Lc6, hQ6, l6, y6, z6, hC6⟩, st6⟩ := X0.specialBackS hx (y := (⟨"java/lang/String", "<init>", "([CIILjava/lang/Void;)V"⟩ : MethodName)) rfl hown (mvT hZ (hw _ (List.mem_of_getElem? (i := 11) rfl))) (mvT hZ (hw _ (List.mem_of_getElem? (i := 12) rfl))) (mvT hZ (hw _ (List.mem_of_getElem? (i := 14) rfl))) (by decide) (backOfSH (W := 0) (rm3e l Z a0 hw [] a1 a2 h0 n0 Z0 E_a1 F_v F_c g_a1) hZ (hw _ (List.mem_of_getElem? (i := 14) rfl)) (hw _ (List.mem_of_getElem? (i := 2) rfl)) (by decide) (by decide) hEL hH0) (g := (mkF m 6 #[.val (.ref a1), .val (.ref a2)] [.null, (.int (0 : Int32)), (.int (0 : Int32)), (.ref a2), (.ref a1)])) rfl (by rw [hml]; rfl) (Steps.refl _) (a := a1) (argsL := [(.ref a2), (.int (0 : Int32)), (.int (0 : Int32)), .null]) (rest := []) (lenOf pd_2_0e rfl) rfl (by show 2 * 0 + _ ≤ _; exact Nat.le_of_eq rfl) (hb hby d2_6) (fun _ _ => ⟨rfl, e0, (by decide : 0 + 4 ≤ _), (by decide : 0 + 8 ≤ _)⟩)
  dsimp only [Pt.U, Pt.locs, Pt.cells, Pt.slots] at Xc6 hSc6 hgc6
  obtain ⟨X6, hS6, hZ6, hown6⟩ := rebS hS0 (by rw [e0]; exact (Nat.zero_le _)) Xc6 hSc6 hgc6 hZ hown
  dsimp only [Pt.U, Pt.locs, Pt.cells, Pt.slots] at X6 l6 y6 z6 st6 hQ6
  subst l6 y6 z6
  obtain ⟨rfl, N6q, Kq6, Sq6⟩ := hQ6
  have N6 := Fr.app N0 N6q
  have K6 : Keep h0 T6.heap [a1] := K0.trans Kq6 (fun x hx => by cases List.mem_singleton.mp hx; exact Or.inl (List.mem_of_getElem? (i := 0) rfl))
  have Z6 : n0 ≤ T6.heap.size := Nat.le_trans Z0 Kq6.1
  have CR6 := (CHr.refl hH0).trans hC6
  refine own_by (fun t k => st6.trans k) ?_
  obtain ⟨fs, hr, hrun, hended, hW⟩ := X6.leaveW hS6 (Nat.le_refl _) (v := none) (fun _ => rfl)
  refine ⟨_, _, ?_, hrun, hended, _, _, rfl, ?_, (by rw [hh]; show CHr Z consts_1 s.vm h0 T6.vm T6.heap; exact CR6.trans (CHv.at X6 hZ6 hEL hC6.1)), hW.1, hW.2.1, hW.2.2.1, hW.2.2.2.mono (by decide) (by decide)⟩
  · exact X6.returnOut hx Bd.returns (hb hby d2_9) hr
  · show Q2e Z a1 a2 cl h0 n0 _ T6.heap _
    exact ⟨rfl, N6, K6, Sq6⟩
theorem d12_0 : decode method_3_code 0 = .ok (.aload_n 0, 1) := by decide +kernel
theorem d12_1 : decode method_3_code 1 = .ok (.ifnonnull 5, 3) := by decide +kernel
theorem d12_6 : decode method_3_code 6 = .ok (.aload_n 0, 1) := by decide +kernel
theorem d12_7 : decode method_3_code 7 = .ok (.ldc 39, 2) := by decide +kernel
theorem d12_9 : decode method_3_code 9 = .ok (.invokevirtual 41, 3) := by decide +kernel
theorem d12_12 : decode method_3_code 12 = .ok (.ifCond .eq 7, 3) := by decide +kernel
theorem d12_15 : decode method_3_code 15 = .ok (.getstatic 45, 3) := by decide +kernel
theorem d12_18 : decode method_3_code 18 = .ok (.areturn, 1) := by decide +kernel
theorem d12_19 : decode method_3_code 19 = .ok (.aload_n 0, 1) := by decide +kernel
theorem d12_20 : decode method_3_code 20 = .ok (.ldc 49, 2) := by decide +kernel
theorem d12_22 : decode method_3_code 22 = .ok (.invokevirtual 41, 3) := by decide +kernel
theorem d12_25 : decode method_3_code 25 = .ok (.ifCond .eq 7, 3) := by decide +kernel
theorem d12_28 : decode method_3_code 28 = .ok (.getstatic 51, 3) := by decide +kernel
theorem d12_31 : decode method_3_code 31 = .ok (.areturn, 1) := by decide +kernel
theorem d12_32 : decode method_3_code 32 = .ok (.aload_n 0, 1) := by decide +kernel
theorem d12_33 : decode method_3_code 33 = .ok (.ldc 54, 2) := by decide +kernel
theorem d12_35 : decode method_3_code 35 = .ok (.invokevirtual 41, 3) := by decide +kernel
theorem d12_38 : decode method_3_code 38 = .ok (.ifCond .eq 7, 3) := by decide +kernel
theorem d12_41 : decode method_3_code 41 = .ok (.getstatic 56, 3) := by decide +kernel
theorem d12_44 : decode method_3_code 44 = .ok (.areturn, 1) := by decide +kernel
theorem d12_45 : decode method_3_code 45 = .ok (.aload_n 0, 1) := by decide +kernel
theorem d12_46 : decode method_3_code 46 = .ok (.ldc 59, 2) := by decide +kernel
theorem d12_48 : decode method_3_code 48 = .ok (.invokevirtual 41, 3) := by decide +kernel
theorem d12_51 : decode method_3_code 51 = .ok (.ifCond .eq 7, 3) := by decide +kernel
theorem d12_54 : decode method_3_code 54 = .ok (.getstatic 61, 3) := by decide +kernel
theorem d12_57 : decode method_3_code 57 = .ok (.areturn, 1) := by decide +kernel
theorem d12_58 : decode method_3_code 58 = .ok (.aconst_null, 1) := by decide +kernel
theorem d12_59 : decode method_3_code 59 = .ok (.areturn, 1) := by decide +kernel
theorem pn_12 : plainFor (⟨"com/example/spojka/spojka/AutowireModeNamedPinLaw", "expected", "(Ljava/lang/String;)Lcom/example/spojka/spojka/AutowireMode;"⟩ : MethodName) = true := by first | exact plainFor_of_name (by first | (simp [plainName, overriddenIn]; done) | decide +kernel) | decide +kernel | exact Jvm.Free.JP.mathPlain rfl (by decide +kernel)
theorem pd_12_0 : parseMethodDescriptor "(Ljava/lang/Object;)Z" = some ⟨[(.object "java/lang/Object")], some .boolean⟩ := by decide +kernel
theorem ef_12 (m : MethodId) (a1 : Addr) : entryFrame m #[(.ref a1)] 1 = mkF m 0 #[.val (.ref a1)] [] := by first | (simp [entryFrame, mkF, argsToLocals, Value.category]; done) | rfl
def Q12 (Z : State) (a1 : Addr) (cs : List Int32) (wNO : Addr) (wBY_NAME : Addr) (wBY_TYPE : Addr) (wCONSTRUCTOR : Addr) (gz : Int32) (h0 : Heap) (n0 : Nat) (v : Option Value) (h : Heap) (L : List Loc) : Prop := v = some (if ([(110 : Int32), (111 : Int32)] : List Int32) = cs then Value.ref wNO else (if ([(98 : Int32), (121 : Int32), (78 : Int32), (97 : Int32), (109 : Int32), (101 : Int32)] : List Int32) = cs then Value.ref wBY_NAME else (if ([(98 : Int32), (121 : Int32), (84 : Int32), (121 : Int32), (112 : Int32), (101 : Int32)] : List Int32) = cs then Value.ref wBY_TYPE else (if ([(99 : Int32), (111 : Int32), (110 : Int32), (115 : Int32), (116 : Int32), (114 : Int32), (117 : Int32), (99 : Int32), (116 : Int32), (111 : Int32), (114 : Int32)] : List Int32) = cs then Value.ref wCONSTRUCTOR else Value.null)))) ∧ Fr n0 L ∧ Keep h0 h []
set_option maxRecDepth 65536 in
set_option maxHeartbeats 40000000 in
theorem rm12 (l : Launch) (Z : State) (a0 : Array Value) (hw : ∀ d ∈ tables_1, d.before a0 Z = true) (ws : List Jvm.Cond) (a1 : Addr) (cs : List Int32) (wNO : Addr) (wBY_NAME : Addr) (wBY_TYPE : Addr) (wCONSTRUCTOR : Addr) (gz : Int32) (h0 : Heap) (n0 : Nat) (Z0 : n0 ≤ h0.size) (O : Old Z n0 h0) (O2 : Sta Z Z.heap "java/lang/String" "COMPACT_STRINGS" "Z" (.int gz)) (P5 : ¬ (gz = (0 : Int32))) (S1 : own_Str Z h0 a1 cs) (S_NO : Sta Z Z.heap "com/example/spojka/spojka/AutowireMode" "NO" "Lcom/example/spojka/spojka/AutowireMode;" (.ref wNO)) (S_BY_NAME : Sta Z Z.heap "com/example/spojka/spojka/AutowireMode" "BY_NAME" "Lcom/example/spojka/spojka/AutowireMode;" (.ref wBY_NAME)) (S_BY_TYPE : Sta Z Z.heap "com/example/spojka/spojka/AutowireMode" "BY_TYPE" "Lcom/example/spojka/spojka/AutowireMode;" (.ref wBY_TYPE)) (S_CONSTRUCTOR : Sta Z Z.heap "com/example/spojka/spojka/AutowireMode" "CONSTRUCTOR" "Lcom/example/spojka/spojka/AutowireMode;" (.ref wCONSTRUCTOR)) :
    MetFree l (⟨"com/example/spojka/spojka/AutowireModeNamedPinLaw", "expected", "(Ljava/lang/String;)Lcom/example/spojka/spojka/AutowireMode;"⟩ : MethodName) (head1 (Jvm.Cond.code (⟨"com/example/spojka/spojka/AutowireModeNamedPinLaw", "expected", "(Ljava/lang/String;)Lcom/example/spojka/spojka/AutowireMode;"⟩ : MethodName) method_3_code 1 (some (.object "com/example/spojka/spojka/AutowireMode")) :: ws) ({ frames := 2, cells := 8, slots := 116, locals := 28 } : Room)) (fun a U => a = #[(.ref a1)] ∧ Z.Warmed39 U.vm ∧ U.heap = h0 ∧ CHv Z consts_1 U.vm h0) (fun _ _ _ _ _ => True) (fun _ U o U' => ∃ v L, o = .returned v ∧ Q12 Z a1 cs wNO wBY_NAME wBY_TYPE wCONSTRUCTOR gz h0 n0 v U'.heap L ∧ CHr Z consts_1 U.vm U.heap U'.vm U'.heap ∧ ReturnedEndW U o U' L ({ frames := 2, cells := 8, slots := 116, locals := 28 } : Room).cells ({ frames := 2, cells := 8, slots := 116, locals := 28 } : Room).slots) := by
  refine MetFree.of_bodySF pn_12 hisR ?_
  intro p e s m args below meth c s₁ Bd hml0 hP hK
  obtain ⟨rfl, hZ, hh, hH0⟩ := hP
  have hx := Bd.exec
  have hby := Bd.bytes
  have hml : c.maxLocals = 1 := hml0
  have hown : s.vm.findClass "com/example/spojka/spojka/AutowireModeNamedPinLaw" = some m.cls := findClass_of_methodNamed Bd.named
  have hnm := (name_of_methodNamed Bd.named Bd.method).1
  have X0 : Stand p l e ({ frames := 2, cells := 8, slots := 116, locals := 28 } : Room) (s.setVm s.vm) m #[(.ref a1)] below meth c s₁ [] 0 0 := Stand.of_body Bd
  have e0 : s₁.heap = h0 := by rw [← hh, Bd.state]; rfl
  have N0 := Fr.nil n0
  have hS0 : s.Since s.vm 0 := (State.WarmedH.refl s).since 0
  refine own_at (castTop (ef_12 m a1)) ?_
  have K0 := Keep.refl h0 []
  have heq : ∀ d ∈ StrChars.Road.wordsEq, d.before a0 Z = true := fun d hd => hw d ((by decide +kernel : ∀ d ∈ StrChars.Road.wordsEq, d ∈ tables_1) d hd)
  have wS : ∀ a ∈ Bundle.stringAtoms, a.before a0 Z = true := fun d hd => hw d ((by decide +kernel : ∀ d ∈ Bundle.stringAtoms, d ∈ tables_1) d hd)
  have hEL : EW _ _ consts_1 := (EW.cons (hw _ (List.mem_of_getElem? (i := 72) rfl)) (by decide) (EW.cons (hw _ (List.mem_of_getElem? (i := 78) rfl)) (by decide) (EW.cons (hw _ (List.mem_of_getElem? (i := 79) rfl)) (by decide) (EW.cons (hw _ (List.mem_of_getElem? (i := 80) rfl)) (by decide) (EW.cons (hw _ (List.mem_of_getElem? (i := 77) rfl)) (by decide) EW.nil)))))
  have sg7 : ∀ t, own_S p e below s₁ (mkF m 7 #[.val (.ref a1)] [(.ref a1)]) t → own_S p e below s₁ (mkF m 0 #[.val (.ref a1)] []) t := by
    intro t k
    show own_S p e below s₁ (mkF m 0 #[.val (.ref a1)] []) _
    refine XS.aloadN X0.here hx rfl (hb hby d12_0) rfl rfl ?_
    show own_S p e below s₁ (mkF m 1 #[.val (.ref a1)] [(.ref a1)]) _
    refine XS.ifnonnullYes X0.here hx rfl (pc0 := 1) (pc' := 6) rfl (hb hby d12_1) rfl (by decide) (by decide) ?_
    show own_S p e below s₁ (mkF m 6 #[.val (.ref a1)] []) _
    refine XS.aloadN X0.here hx rfl (hb hby d12_6) rfl rfl ?_
    exact k
  refine own_by sg7 ?_
  obtain ⟨l7a, T7, h7, ks7, lb7, lk7, X7, e7, E7, hS7, hk7, hZ7, hown7, lE7, lC7, lV7, lA7, la17, la27, hC7, -, hsf7, st7⟩ := ldcCH X0 hx hZ hown (hw _ (List.mem_of_getElem? (i := 72) rfl)) wS e0 hS0 (Nat.zero_le _) hEL (by decide) hH0 (vs := [(.int (110 : Int32)), (.int (111 : Int32))]) (z := (2 : Int32)) ⟨by decide, by decide⟩ (by decide) (by decide) (g := (mkF m 7 #[.val (.ref a1)] [(.ref a1)])) rfl (hb hby d12_7) (n := 8) (by decide) (by decide) (by decide) (by decide)
  have K7 := K0.ext E7
  have Z7 : n0 ≤ h7.size := Nat.le_trans Z0 E7.1
  have CR7 := (CHr.refl hH0).trans hC7
  refine own_by st7 ?_
  obtain ⟨tx9, kx9, dx9, nx9, vx9, xe9, xv9, xc9, xk9, xh9, xb9, xl9⟩ := id (S1.ext E7)
  obtain ⟨ty9, ky9, dy9, ny9, vy9, ye9, yv9, yc9, yk9, yh9, yb9, yl9⟩ := id (⟨lb7, lk7, 0, (2 : Int32), _, lE7, lV7, lC7, lA7, Or.inl ⟨rfl, rfl, rfl, by decide⟩, by decide, by decide⟩ : own_Str Z h7 l7a ([(110 : Int32), (111 : Int32)] : List Int32))
  obtain ⟨cq9, kq9, q9a, q9b, q9c⟩ := isOf hZ7 e7 (S1.exa.ext E7)
  obtain ⟨_, _, ⟨T9, L9, k9, n9⟩, -, X9, ⟨Lc9, hQ9, l9, y9, z9⟩, st9⟩ := X7.virtualBack hx (y := (⟨"java/lang/String", "equals", "(Ljava/lang/Object;)Z"⟩ : MethodName)) (z := (⟨"java/lang/String", "equals", "(Ljava/lang/Object;)Z"⟩ : MethodName)) hown7 (mvT hZ7 (hw _ (List.mem_of_getElem? (i := 75) rfl))) (mvT hZ7 (hw _ (List.mem_of_getElem? (i := 60) rfl))) (notFace_of_selects (args := #[]) (mvT hZ7 (hw _ (List.mem_of_getElem? (i := 62) rfl)))) (mvT hZ7 (hw _ (List.mem_of_getElem? (i := 62) rfl))) (mvT hZ7 (hw _ (List.mem_of_getElem? (i := 61) rfl))) (by decide) (StrChars.Road.eqW (W := 0) hZ7 heq (kI := 4) (hw _ (List.mem_of_getElem? (i := 1) rfl)) xe9 xv9 xc9 xk9 xh9 xb9 xl9 ye9 yv9 yc9 yk9 yh9 yb9 yl9 (O2.ext (O.ext E7).2) P5 (by decide) (by decide)) q9a q9c (g := (mkF m 9 #[.val (.ref a1)] [(.ref l7a), (.ref a1)])) rfl (by rw [hml]; rfl) (Steps.refl _) (argsL := [(.ref l7a)]) (rest := []) (lenOf pd_12_0 rfl) rfl (by show 2 * 0 + _ ≤ _; exact Nat.le_of_eq rfl) (hb hby d12_9) (fun _ _ => ⟨rfl, e7, (by decide : 2 + 0 ≤ _), (by decide : 12 + 0 ≤ _)⟩)
  dsimp only [Pt.U, Pt.locs, Pt.cells, Pt.slots] at X9 l9 y9 z9 st9 hQ9
  subst l9 y9 z9
  obtain ⟨hv9, rfl, hq9⟩ := hQ9
  obtain rfl := own_eqv hv9
  have N9 := Fr.app N0 (Fr.nil n0)
  obtain ⟨c9, hc9⟩ : ∃ z : Int32, z = (if cs = ([(110 : Int32), (111 : Int32)] : List Int32) then (1 : Int32) else (0 : Int32)) := ⟨_, rfl⟩
  rw [← hc9] at st9
  refine own_by (fun t k => st9.trans k) ?_
  by_cases hc12 : c9 = (0 : Int32)
  · have sg20 : ∀ t, own_S p e below T9 (mkF m 20 #[.val (.ref a1)] [(.ref a1)]) t → own_S p e below T9 (mkF m 12 #[.val (.ref a1)] [(.int c9)]) t := by
      intro t k
      show own_S p e below T9 (mkF m 12 #[.val (.ref a1)] [(.int c9)]) _
      refine XS.ifYes X9.here hx rfl (pc0 := 12) (pc' := 19) rfl (hb hby d12_12) rfl ((if0 _ _).trans (teq hc12).1) (by decide) (by decide) ?_
      show own_S p e below T9 (mkF m 19 #[.val (.ref a1)] []) _
      refine XS.aloadN X9.here hx rfl (hb hby d12_19) rfl rfl ?_
      exact k
    refine own_by sg20 ?_
    obtain ⟨l20a, T20, h20, ks20, lb20, lk20, X20, e20, E20, hS20, hk20, hZ20, hown20, lE20, lC20, lV20, lA20, la120, la220, hC20, -, hsf20, st20⟩ := ldcCH X9 hx hZ7 hown7 (hw _ (List.mem_of_getElem? (i := 78) rfl)) wS hq9 hS7 hk7 hEL (by decide) hC7.1 (vs := [(.int (98 : Int32)), (.int (121 : Int32)), (.int (78 : Int32)), (.int (97 : Int32)), (.int (109 : Int32)), (.int (101 : Int32))]) (z := (6 : Int32)) ⟨by decide, by decide⟩ (by decide) (by decide) (g := (mkF m 20 #[.val (.ref a1)] [(.ref a1)])) rfl (hb hby d12_20) (n := 24) (by decide) (by decide) (by decide) (by decide)
    have K20 := K7.ext E20
    have Z20 : n0 ≤ h20.size := Nat.le_trans Z7 E20.1
    have CR20 := CR7.trans hC20
    refine own_by st20 ?_
    obtain ⟨tx22, kx22, dx22, nx22, vx22, xe22, xv22, xc22, xk22, xh22, xb22, xl22⟩ := id ((S1.ext E7).ext E20)
    obtain ⟨ty22, ky22, dy22, ny22, vy22, ye22, yv22, yc22, yk22, yh22, yb22, yl22⟩ := id (⟨lb20, lk20, 0, (6 : Int32), _, lE20, lV20, lC20, lA20, Or.inl ⟨rfl, rfl, rfl, by decide⟩, by decide, by decide⟩ : own_Str Z h20 l20a ([(98 : Int32), (121 : Int32), (78 : Int32), (97 : Int32), (109 : Int32), (101 : Int32)] : List Int32))
    obtain ⟨cq22, kq22, q22a, q22b, q22c⟩ := isOf hZ20 e20 ((S1.exa.ext E7).ext E20)
    obtain ⟨_, _, ⟨T22, L22, k22, n22⟩, -, X22, ⟨Lc22, hQ22, l22, y22, z22⟩, st22⟩ := X20.virtualBack hx (y := (⟨"java/lang/String", "equals", "(Ljava/lang/Object;)Z"⟩ : MethodName)) (z := (⟨"java/lang/String", "equals", "(Ljava/lang/Object;)Z"⟩ : MethodName)) hown20 (mvT hZ20 (hw _ (List.mem_of_getElem? (i := 75) rfl))) (mvT hZ20 (hw _ (List.mem_of_getElem? (i := 60) rfl))) (notFace_of_selects (args := #[]) (mvT hZ20 (hw _ (List.mem_of_getElem? (i := 62) rfl)))) (mvT hZ20 (hw _ (List.mem_of_getElem? (i := 62) rfl))) (mvT hZ20 (hw _ (List.mem_of_getElem? (i := 61) rfl))) (by decide) (StrChars.Road.eqW (W := 0) hZ20 heq (kI := 4) (hw _ (List.mem_of_getElem? (i := 1) rfl)) xe22 xv22 xc22 xk22 xh22 xb22 xl22 ye22 yv22 yc22 yk22 yh22 yb22 yl22 (O2.ext ((O.ext E7).ext E20).2) P5 (by decide) (by decide)) q22a q22c (g := (mkF m 22 #[.val (.ref a1)] [(.ref l20a), (.ref a1)])) rfl (by rw [hml]; rfl) (Steps.refl _) (argsL := [(.ref l20a)]) (rest := []) (lenOf pd_12_0 rfl) rfl (by show 2 * 0 + _ ≤ _; exact Nat.le_of_eq rfl) (hb hby d12_22) (fun _ _ => ⟨rfl, e20, (by decide : 4 + 0 ≤ _), (by decide : 40 + 0 ≤ _)⟩)
    dsimp only [Pt.U, Pt.locs, Pt.cells, Pt.slots] at X22 l22 y22 z22 st22 hQ22
    subst l22 y22 z22
    obtain ⟨hv22, rfl, hq22⟩ := hQ22
    obtain rfl := own_eqv hv22
    have N22 := Fr.app N9 (Fr.nil n0)
    obtain ⟨c22, hc22⟩ : ∃ z : Int32, z = (if cs = ([(98 : Int32), (121 : Int32), (78 : Int32), (97 : Int32), (109 : Int32), (101 : Int32)] : List Int32) then (1 : Int32) else (0 : Int32)) := ⟨_, rfl⟩
    rw [← hc22] at st22
    refine own_by (fun t k => st22.trans k) ?_
    by_cases hc25 : c22 = (0 : Int32)
    · have sg33 : ∀ t, own_S p e below T22 (mkF m 33 #[.val (.ref a1)] [(.ref a1)]) t → own_S p e below T22 (mkF m 25 #[.val (.ref a1)] [(.int c22)]) t := by
        intro t k
        show own_S p e below T22 (mkF m 25 #[.val (.ref a1)] [(.int c22)]) _
        refine XS.ifYes X22.here hx rfl (pc0 := 25) (pc' := 32) rfl (hb hby d12_25) rfl ((if0 _ _).trans (teq hc25).1) (by decide) (by decide) ?_
        show own_S p e below T22 (mkF m 32 #[.val (.ref a1)] []) _
        refine XS.aloadN X22.here hx rfl (hb hby d12_32) rfl rfl ?_
        exact k
      refine own_by sg33 ?_
      obtain ⟨l33a, T33, h33, ks33, lb33, lk33, X33, e33, E33, hS33, hk33, hZ33, hown33, lE33, lC33, lV33, lA33, la133, la233, hC33, -, hsf33, st33⟩ := ldcCH X22 hx hZ20 hown20 (hw _ (List.mem_of_getElem? (i := 79) rfl)) wS hq22 hS20 hk20 hEL (by decide) hC20.1 (vs := [(.int (98 : Int32)), (.int (121 : Int32)), (.int (84 : Int32)), (.int (121 : Int32)), (.int (112 : Int32)), (.int (101 : Int32))]) (z := (6 : Int32)) ⟨by decide, by decide⟩ (by decide) (by decide) (g := (mkF m 33 #[.val (.ref a1)] [(.ref a1)])) rfl (hb hby d12_33) (n := 24) (by decide) (by decide) (by decide) (by decide)
      have K33 := K20.ext E33
      have Z33 : n0 ≤ h33.size := Nat.le_trans Z20 E33.1
      have CR33 := CR20.trans hC33
      refine own_by st33 ?_
      obtain ⟨tx35, kx35, dx35, nx35, vx35, xe35, xv35, xc35, xk35, xh35, xb35, xl35⟩ := id (((S1.ext E7).ext E20).ext E33)
      obtain ⟨ty35, ky35, dy35, ny35, vy35, ye35, yv35, yc35, yk35, yh35, yb35, yl35⟩ := id (⟨lb33, lk33, 0, (6 : Int32), _, lE33, lV33, lC33, lA33, Or.inl ⟨rfl, rfl, rfl, by decide⟩, by decide, by decide⟩ : own_Str Z h33 l33a ([(98 : Int32), (121 : Int32), (84 : Int32), (121 : Int32), (112 : Int32), (101 : Int32)] : List Int32))
      obtain ⟨cq35, kq35, q35a, q35b, q35c⟩ := isOf hZ33 e33 (((S1.exa.ext E7).ext E20).ext E33)
      obtain ⟨_, _, ⟨T35, L35, k35, n35⟩, -, X35, ⟨Lc35, hQ35, l35, y35, z35⟩, st35⟩ := X33.virtualBack hx (y := (⟨"java/lang/String", "equals", "(Ljava/lang/Object;)Z"⟩ : MethodName)) (z := (⟨"java/lang/String", "equals", "(Ljava/lang/Object;)Z"⟩ : MethodName)) hown33 (mvT hZ33 (hw _ (List.mem_of_getElem? (i := 75) rfl))) (mvT hZ33 (hw _ (List.mem_of_getElem? (i := 60) rfl))) (notFace_of_selects (args := #[]) (mvT hZ33 (hw _ (List.mem_of_getElem? (i := 62) rfl)))) (mvT hZ33 (hw _ (List.mem_of_getElem? (i := 62) rfl))) (mvT hZ33 (hw _ (List.mem_of_getElem? (i := 61) rfl))) (by decide) (StrChars.Road.eqW (W := 0) hZ33 heq (kI := 4) (hw _ (List.mem_of_getElem? (i := 1) rfl)) xe35 xv35 xc35 xk35 xh35 xb35 xl35 ye35 yv35 yc35 yk35 yh35 yb35 yl35 (O2.ext (((O.ext E7).ext E20).ext E33).2) P5 (by decide) (by decide)) q35a q35c (g := (mkF m 35 #[.val (.ref a1)] [(.ref l33a), (.ref a1)])) rfl (by rw [hml]; rfl) (Steps.refl _) (argsL := [(.ref l33a)]) (rest := []) (lenOf pd_12_0 rfl) rfl (by show 2 * 0 + _ ≤ _; exact Nat.le_of_eq rfl) (hb hby d12_35) (fun _ _ => ⟨rfl, e33, (by decide : 6 + 0 ≤ _), (by decide : 68 + 0 ≤ _)⟩)
      dsimp only [Pt.U, Pt.locs, Pt.cells, Pt.slots] at X35 l35 y35 z35 st35 hQ35
      subst l35 y35 z35
      obtain ⟨hv35, rfl, hq35⟩ := hQ35
      obtain rfl := own_eqv hv35
      have N35 := Fr.app N22 (Fr.nil n0)
      obtain ⟨c35, hc35⟩ : ∃ z : Int32, z = (if cs = ([(98 : Int32), (121 : Int32), (84 : Int32), (121 : Int32), (112 : Int32), (101 : Int32)] : List Int32) then (1 : Int32) else (0 : Int32)) := ⟨_, rfl⟩
      rw [← hc35] at st35
      refine own_by (fun t k => st35.trans k) ?_
      by_cases hc38 : c35 = (0 : Int32)
      · have sg46 : ∀ t, own_S p e below T35 (mkF m 46 #[.val (.ref a1)] [(.ref a1)]) t → own_S p e below T35 (mkF m 38 #[.val (.ref a1)] [(.int c35)]) t := by
          intro t k
          show own_S p e below T35 (mkF m 38 #[.val (.ref a1)] [(.int c35)]) _
          refine XS.ifYes X35.here hx rfl (pc0 := 38) (pc' := 45) rfl (hb hby d12_38) rfl ((if0 _ _).trans (teq hc38).1) (by decide) (by decide) ?_
          show own_S p e below T35 (mkF m 45 #[.val (.ref a1)] []) _
          refine XS.aloadN X35.here hx rfl (hb hby d12_45) rfl rfl ?_
          exact k
        refine own_by sg46 ?_
        obtain ⟨l46a, T46, h46, ks46, lb46, lk46, X46, e46, E46, hS46, hk46, hZ46, hown46, lE46, lC46, lV46, lA46, la146, la246, hC46, -, hsf46, st46⟩ := ldcCH X35 hx hZ33 hown33 (hw _ (List.mem_of_getElem? (i := 80) rfl)) wS hq35 hS33 hk33 hEL (by decide) hC33.1 (vs := [(.int (99 : Int32)), (.int (111 : Int32)), (.int (110 : Int32)), (.int (115 : Int32)), (.int (116 : Int32)), (.int (114 : Int32)), (.int (117 : Int32)), (.int (99 : Int32)), (.int (116 : Int32)), (.int (111 : Int32)), (.int (114 : Int32))]) (z := (11 : Int32)) ⟨by decide, by decide⟩ (by decide) (by decide) (g := (mkF m 46 #[.val (.ref a1)] [(.ref a1)])) rfl (hb hby d12_46) (n := 44) (by decide) (by decide) (by decide) (by decide)
        have K46 := K33.ext E46
        have Z46 : n0 ≤ h46.size := Nat.le_trans Z33 E46.1
        have CR46 := CR33.trans hC46
        refine own_by st46 ?_
        obtain ⟨tx48, kx48, dx48, nx48, vx48, xe48, xv48, xc48, xk48, xh48, xb48, xl48⟩ := id ((((S1.ext E7).ext E20).ext E33).ext E46)
        obtain ⟨ty48, ky48, dy48, ny48, vy48, ye48, yv48, yc48, yk48, yh48, yb48, yl48⟩ := id (⟨lb46, lk46, 0, (11 : Int32), _, lE46, lV46, lC46, lA46, Or.inl ⟨rfl, rfl, rfl, by decide⟩, by decide, by decide⟩ : own_Str Z h46 l46a ([(99 : Int32), (111 : Int32), (110 : Int32), (115 : Int32), (116 : Int32), (114 : Int32), (117 : Int32), (99 : Int32), (116 : Int32), (111 : Int32), (114 : Int32)] : List Int32))
        obtain ⟨cq48, kq48, q48a, q48b, q48c⟩ := isOf hZ46 e46 ((((S1.exa.ext E7).ext E20).ext E33).ext E46)
        obtain ⟨_, _, ⟨T48, L48, k48, n48⟩, -, X48, ⟨Lc48, hQ48, l48, y48, z48⟩, st48⟩ := X46.virtualBack hx (y := (⟨"java/lang/String", "equals", "(Ljava/lang/Object;)Z"⟩ : MethodName)) (z := (⟨"java/lang/String", "equals", "(Ljava/lang/Object;)Z"⟩ : MethodName)) hown46 (mvT hZ46 (hw _ (List.mem_of_getElem? (i := 75) rfl))) (mvT hZ46 (hw _ (List.mem_of_getElem? (i := 60) rfl))) (notFace_of_selects (args := #[]) (mvT hZ46 (hw _ (List.mem_of_getElem? (i := 62) rfl)))) (mvT hZ46 (hw _ (List.mem_of_getElem? (i := 62) rfl))) (mvT hZ46 (hw _ (List.mem_of_getElem? (i := 61) rfl))) (by decide) (StrChars.Road.eqW (W := 0) hZ46 heq (kI := 4) (hw _ (List.mem_of_getElem? (i := 1) rfl)) xe48 xv48 xc48 xk48 xh48 xb48 xl48 ye48 yv48 yc48 yk48 yh48 yb48 yl48 (O2.ext ((((O.ext E7).ext E20).ext E33).ext E46).2) P5 (by decide) (by decide)) q48a q48c (g := (mkF m 48 #[.val (.ref a1)] [(.ref l46a), (.ref a1)])) rfl (by rw [hml]; rfl) (Steps.refl _) (argsL := [(.ref l46a)]) (rest := []) (lenOf pd_12_0 rfl) rfl (by show 2 * 0 + _ ≤ _; exact Nat.le_of_eq rfl) (hb hby d12_48) (fun _ _ => ⟨rfl, e46, (by decide : 8 + 0 ≤ _), (by decide : 116 + 0 ≤ _)⟩)
        dsimp only [Pt.U, Pt.locs, Pt.cells, Pt.slots] at X48 l48 y48 z48 st48 hQ48
        subst l48 y48 z48
        obtain ⟨hv48, rfl, hq48⟩ := hQ48
        obtain rfl := own_eqv hv48
        have N48 := Fr.app N35 (Fr.nil n0)
        obtain ⟨c48, hc48⟩ : ∃ z : Int32, z = (if cs = ([(99 : Int32), (111 : Int32), (110 : Int32), (115 : Int32), (116 : Int32), (114 : Int32), (117 : Int32), (99 : Int32), (116 : Int32), (111 : Int32), (114 : Int32)] : List Int32) then (1 : Int32) else (0 : Int32)) := ⟨_, rfl⟩
        rw [← hc48] at st48
        refine own_by (fun t k => st48.trans k) ?_
        by_cases hc51 : c48 = (0 : Int32)
        · have sg59 : ∀ t, own_S p e below T48 (mkF m 59 #[.val (.ref a1)] [.null]) t → own_S p e below T48 (mkF m 51 #[.val (.ref a1)] [(.int c48)]) t := by
            intro t k
            show own_S p e below T48 (mkF m 51 #[.val (.ref a1)] [(.int c48)]) _
            refine XS.ifYes X48.here hx rfl (pc0 := 51) (pc' := 58) rfl (hb hby d12_51) rfl ((if0 _ _).trans (teq hc51).1) (by decide) (by decide) ?_
            show own_S p e below T48 (mkF m 58 #[.val (.ref a1)] []) _
            refine XS.aconstNull X48.here hx rfl (hb hby d12_58) ?_
            exact k
          refine own_by sg59 ?_
          obtain ⟨fs, hr, hrun, hended, hW⟩ := X48.leaveW hS46 (by rw [hq48]; exact hk46) (v := some .null) (fun h => by rw [Bd.returns] at h; cases h)
          refine ⟨_, _, ?_, hrun, hended, _, _, rfl, ?_, (by rw [hh]; show CHr Z consts_1 s.vm h0 T48.vm T48.heap; rw [hq48]; exact CR46.trans (CHv.at X48 hZ46 hEL hC46.1)), hW.1, hW.2.1, hW.2.2.1, hW.2.2.2.mono (by decide) (by decide)⟩
          · show Steps p.tables e below (T48.setTop (mkF m 59 #[.val (.ref a1)] [.null])) _
            jvm_step X48.here [X48.here.top, hx, (hb hby d12_59), X48.method', Bd.returns, Value.isRef, FieldType.isReference]
            first | (intro acts; rw [hr _ acts rfl rfl rfl]) | rw [hr _ _ rfl rfl rfl]
            exact Steps.refl _
          · show Q12 Z a1 cs wNO wBY_NAME wBY_TYPE wCONSTRUCTOR gz h0 n0 _ T48.heap _
            rw [hq48]
            exact ⟨by rw [if_neg (fun q => own_if0 hc9 hc12 q.symm), if_neg (fun q => own_if0 hc22 hc25 q.symm), if_neg (fun q => own_if0 hc35 hc38 q.symm), if_neg (fun q => own_if0 hc48 hc51 q.symm)], N48, K46⟩
        · have sg54 : ∀ t, own_S p e below T48 (mkF m 54 #[.val (.ref a1)] []) t → own_S p e below T48 (mkF m 51 #[.val (.ref a1)] [(.int c48)]) t := by
            intro t k
            show own_S p e below T48 (mkF m 51 #[.val (.ref a1)] [(.int c48)]) _
            refine XS.ifNo X48.here hx rfl (hb hby d12_51) rfl ((if0 _ _).trans (feq hc51).1) ?_
            exact k
          refine own_by sg54 ?_
          obtain ⟨T54, X54, e54, st54⟩ := getS2 X48 hx hZ46 hown46 (host := "") (Or.inl (hw _ (List.mem_of_getElem? (i := 102) rfl))) Via.refl hq48 (S_CONSTRUCTOR.ext ((((O.ext E7).ext E20).ext E33).ext E46).2) (g := (mkF m 54 #[.val (.ref a1)] [])) rfl (hb hby d12_54)
          refine own_by st54 ?_
          obtain ⟨fs, hr, hrun, hended, hW⟩ := X54.leaveW hS46 (by rw [e54]; exact hk46) (v := some (.ref wCONSTRUCTOR)) (fun h => by rw [Bd.returns] at h; cases h)
          refine ⟨_, _, ?_, hrun, hended, _, _, rfl, ?_, (by rw [hh]; show CHr Z consts_1 s.vm h0 T54.vm T54.heap; rw [e54]; exact CR46.trans (CHv.at X54 hZ46 hEL hC46.1)), hW.1, hW.2.1, hW.2.2.1, hW.2.2.2.mono (by decide) (by decide)⟩
          · show Steps p.tables e below (T54.setTop (mkF m 57 #[.val (.ref a1)] [(.ref wCONSTRUCTOR)])) _
            jvm_step X54.here [X54.here.top, hx, (hb hby d12_57), X54.method', Bd.returns, Value.isRef, FieldType.isReference]
            first | (intro acts; rw [hr _ acts rfl rfl rfl]) | rw [hr _ _ rfl rfl rfl]
            exact Steps.refl _
          · show Q12 Z a1 cs wNO wBY_NAME wBY_TYPE wCONSTRUCTOR gz h0 n0 _ T54.heap _
            rw [e54]
            exact ⟨by rw [if_neg (fun q => own_if0 hc9 hc12 q.symm), if_neg (fun q => own_if0 hc22 hc25 q.symm), if_neg (fun q => own_if0 hc35 hc38 q.symm), if_pos (own_if1 hc48 hc51).symm], N48, K46⟩
      · have sg41 : ∀ t, own_S p e below T35 (mkF m 41 #[.val (.ref a1)] []) t → own_S p e below T35 (mkF m 38 #[.val (.ref a1)] [(.int c35)]) t := by
          intro t k
          show own_S p e below T35 (mkF m 38 #[.val (.ref a1)] [(.int c35)]) _
          refine XS.ifNo X35.here hx rfl (hb hby d12_38) rfl ((if0 _ _).trans (feq hc38).1) ?_
          exact k
        refine own_by sg41 ?_
        obtain ⟨T41, X41, e41, st41⟩ := getS2 X35 hx hZ33 hown33 (host := "") (Or.inl (hw _ (List.mem_of_getElem? (i := 88) rfl))) Via.refl hq35 (S_BY_TYPE.ext (((O.ext E7).ext E20).ext E33).2) (g := (mkF m 41 #[.val (.ref a1)] [])) rfl (hb hby d12_41)
        refine own_by st41 ?_
        obtain ⟨fs, hr, hrun, hended, hW⟩ := X41.leaveW hS33 (by rw [e41]; exact hk33) (v := some (.ref wBY_TYPE)) (fun h => by rw [Bd.returns] at h; cases h)
        refine ⟨_, _, ?_, hrun, hended, _, _, rfl, ?_, (by rw [hh]; show CHr Z consts_1 s.vm h0 T41.vm T41.heap; rw [e41]; exact CR33.trans (CHv.at X41 hZ33 hEL hC33.1)), hW.1, hW.2.1, hW.2.2.1, hW.2.2.2.mono (by decide) (by decide)⟩
        · show Steps p.tables e below (T41.setTop (mkF m 44 #[.val (.ref a1)] [(.ref wBY_TYPE)])) _
          jvm_step X41.here [X41.here.top, hx, (hb hby d12_44), X41.method', Bd.returns, Value.isRef, FieldType.isReference]
          first | (intro acts; rw [hr _ acts rfl rfl rfl]) | rw [hr _ _ rfl rfl rfl]
          exact Steps.refl _
        · show Q12 Z a1 cs wNO wBY_NAME wBY_TYPE wCONSTRUCTOR gz h0 n0 _ T41.heap _
          rw [e41]
          exact ⟨by rw [if_neg (fun q => own_if0 hc9 hc12 q.symm), if_neg (fun q => own_if0 hc22 hc25 q.symm), if_pos (own_if1 hc35 hc38).symm], N35, K33⟩
    · have sg28 : ∀ t, own_S p e below T22 (mkF m 28 #[.val (.ref a1)] []) t → own_S p e below T22 (mkF m 25 #[.val (.ref a1)] [(.int c22)]) t := by
        intro t k
        show own_S p e below T22 (mkF m 25 #[.val (.ref a1)] [(.int c22)]) _
        refine XS.ifNo X22.here hx rfl (hb hby d12_25) rfl ((if0 _ _).trans (feq hc25).1) ?_
        exact k
      refine own_by sg28 ?_
      obtain ⟨T28, X28, e28, st28⟩ := getS2 X22 hx hZ20 hown20 (host := "") (Or.inl (hw _ (List.mem_of_getElem? (i := 89) rfl))) Via.refl hq22 (S_BY_NAME.ext ((O.ext E7).ext E20).2) (g := (mkF m 28 #[.val (.ref a1)] [])) rfl (hb hby d12_28)
      refine own_by st28 ?_
      obtain ⟨fs, hr, hrun, hended, hW⟩ := X28.leaveW hS20 (by rw [e28]; exact hk20) (v := some (.ref wBY_NAME)) (fun h => by rw [Bd.returns] at h; cases h)
      refine ⟨_, _, ?_, hrun, hended, _, _, rfl, ?_, (by rw [hh]; show CHr Z consts_1 s.vm h0 T28.vm T28.heap; rw [e28]; exact CR20.trans (CHv.at X28 hZ20 hEL hC20.1)), hW.1, hW.2.1, hW.2.2.1, hW.2.2.2.mono (by decide) (by decide)⟩
      · show Steps p.tables e below (T28.setTop (mkF m 31 #[.val (.ref a1)] [(.ref wBY_NAME)])) _
        jvm_step X28.here [X28.here.top, hx, (hb hby d12_31), X28.method', Bd.returns, Value.isRef, FieldType.isReference]
        first | (intro acts; rw [hr _ acts rfl rfl rfl]) | rw [hr _ _ rfl rfl rfl]
        exact Steps.refl _
      · show Q12 Z a1 cs wNO wBY_NAME wBY_TYPE wCONSTRUCTOR gz h0 n0 _ T28.heap _
        rw [e28]
        exact ⟨by rw [if_neg (fun q => own_if0 hc9 hc12 q.symm), if_pos (own_if1 hc22 hc25).symm], N22, K20⟩
  · have sg15 : ∀ t, own_S p e below T9 (mkF m 15 #[.val (.ref a1)] []) t → own_S p e below T9 (mkF m 12 #[.val (.ref a1)] [(.int c9)]) t := by
      intro t k
      show own_S p e below T9 (mkF m 12 #[.val (.ref a1)] [(.int c9)]) _
      refine XS.ifNo X9.here hx rfl (hb hby d12_12) rfl ((if0 _ _).trans (feq hc12).1) ?_
      exact k
    refine own_by sg15 ?_
    obtain ⟨T15, X15, e15, st15⟩ := getS2 X9 hx hZ7 hown7 (host := "") (Or.inl (hw _ (List.mem_of_getElem? (i := 76) rfl))) Via.refl hq9 (S_NO.ext (O.ext E7).2) (g := (mkF m 15 #[.val (.ref a1)] [])) rfl (hb hby d12_15)
    refine own_by st15 ?_
    obtain ⟨fs, hr, hrun, hended, hW⟩ := X15.leaveW hS7 (by rw [e15]; exact hk7) (v := some (.ref wNO)) (fun h => by rw [Bd.returns] at h; cases h)
    refine ⟨_, _, ?_, hrun, hended, _, _, rfl, ?_, (by rw [hh]; show CHr Z consts_1 s.vm h0 T15.vm T15.heap; rw [e15]; exact CR7.trans (CHv.at X15 hZ7 hEL hC7.1)), hW.1, hW.2.1, hW.2.2.1, hW.2.2.2.mono (by decide) (by decide)⟩
    · show Steps p.tables e below (T15.setTop (mkF m 18 #[.val (.ref a1)] [(.ref wNO)])) _
      jvm_step X15.here [X15.here.top, hx, (hb hby d12_18), X15.method', Bd.returns, Value.isRef, FieldType.isReference]
      first | (intro acts; rw [hr _ acts rfl rfl rfl]) | rw [hr _ _ rfl rfl rfl]
      exact Steps.refl _
    · show Q12 Z a1 cs wNO wBY_NAME wBY_TYPE wCONSTRUCTOR gz h0 n0 _ T15.heap _
      rw [e15]
      exact ⟨by rw [if_pos (own_if1 hc9 hc12).symm], N9, K7⟩
theorem d12_4 : decode method_3_code 4 = .ok (.aconst_null, 1) := by decide +kernel
theorem d12_5 : decode method_3_code 5 = .ok (.areturn, 1) := by decide +kernel
theorem pn_12n : plainFor (⟨"com/example/spojka/spojka/AutowireModeNamedPinLaw", "expected", "(Ljava/lang/String;)Lcom/example/spojka/spojka/AutowireMode;"⟩ : MethodName) = true := by first | exact plainFor_of_name (by first | (simp [plainName, overriddenIn]; done) | decide +kernel) | decide +kernel | exact Jvm.Free.JP.mathPlain rfl (by decide +kernel)
theorem ef_12n (m : MethodId)  : entryFrame m #[.null] 1 = mkF m 0 #[.val .null] [] := by first | (simp [entryFrame, mkF, argsToLocals, Value.category]; done) | rfl
def Q12n (Z : State)  (h0 : Heap) (n0 : Nat) (v : Option Value) (h : Heap) (L : List Loc) : Prop := v = some .null ∧ Fr n0 L ∧ h = h0
set_option maxRecDepth 65536 in
set_option maxHeartbeats 40000000 in
theorem rm12n (l : Launch) (Z : State) (a0 : Array Value) (hw : ∀ d ∈ tables_1, d.before a0 Z = true) (ws : List Jvm.Cond)  (h0 : Heap) (n0 : Nat) (Z0 : n0 ≤ h0.size) :
    MetFree l (⟨"com/example/spojka/spojka/AutowireModeNamedPinLaw", "expected", "(Ljava/lang/String;)Lcom/example/spojka/spojka/AutowireMode;"⟩ : MethodName) (head1 (Jvm.Cond.code (⟨"com/example/spojka/spojka/AutowireModeNamedPinLaw", "expected", "(Ljava/lang/String;)Lcom/example/spojka/spojka/AutowireMode;"⟩ : MethodName) method_3_code 1 (some (.object "com/example/spojka/spojka/AutowireMode")) :: ws) ({ frames := 0, cells := 0, slots := 0, locals := 0 } : Room)) (fun a U => a = #[.null] ∧ Z.Warmed39 U.vm ∧ U.heap = h0) (fun _ _ _ _ _ => True) (fun _ U o U' => ∃ v L, o = .returned v ∧ Q12n Z  h0 n0 v U'.heap L ∧ FrameEnd U o U' L ({ frames := 0, cells := 0, slots := 0, locals := 0 } : Room).cells ({ frames := 0, cells := 0, slots := 0, locals := 0 } : Room).slots) := by
  refine MetFree.of_bodySF pn_12n hisR ?_
  intro p e s m args below meth c s₁ Bd hml0 hP hK
  obtain ⟨rfl, hZ, hh⟩ := hP
  have hx := Bd.exec
  have hby := Bd.bytes
  have hml : c.maxLocals = 1 := hml0
  have hown : s.vm.findClass "com/example/spojka/spojka/AutowireModeNamedPinLaw" = some m.cls := findClass_of_methodNamed Bd.named
  have hnm := (name_of_methodNamed Bd.named Bd.method).1
  have X0 : Stand p l e ({ frames := 0, cells := 0, slots := 0, locals := 0 } : Room) s m #[.null] below meth c s₁ [] 0 0 := Stand.of_body Bd
  have e0 : s₁.heap = h0 := by rw [← hh, Bd.state]; rfl
  have N0 := Fr.nil n0
  refine own_at (castTop (ef_12n m )) ?_
  have sg5 : ∀ t, own_S p e below s₁ (mkF m 5 #[.val .null] [.null]) t → own_S p e below s₁ (mkF m 0 #[.val .null] []) t := by
    intro t k
    show own_S p e below s₁ (mkF m 0 #[.val .null] []) _
    refine XS.aloadN X0.here hx rfl (hb hby d12_0) rfl rfl ?_
    show own_S p e below s₁ (mkF m 1 #[.val .null] [.null]) _
    refine XS.ifnonnullNo X0.here hx rfl (hb hby d12_1) rfl ?_
    show own_S p e below s₁ (mkF m 4 #[.val .null] []) _
    refine XS.aconstNull X0.here hx rfl (hb hby d12_4) ?_
    exact k
  refine own_by sg5 ?_
  obtain ⟨fs, hr, hrun, hended, hW, hsame⟩ := X0.leave (v := some .null) (fun h => by rw [Bd.returns] at h; cases h)
  refine ⟨_, _, ?_, hrun, hended, _, _, rfl, ?_, ⟨_, rfl⟩, hW, hsame.mono (by decide) (by decide)⟩
  · show Steps p.tables e below (s₁.setTop (mkF m 5 #[.val .null] [.null])) _
    jvm_step X0.here [X0.here.top, hx, (hb hby d12_5), X0.method', Bd.returns, Value.isRef, FieldType.isReference]
    first | (intro acts; rw [hr _ acts rfl rfl rfl]) | rw [hr _ _ rfl rfl rfl]
    exact Steps.refl _
  · show Q12n Z  h0 n0 _ s₁.heap _
    rw [e0]
    exact ⟨rfl, N0, rfl⟩
theorem d16_0 : decode jdk_43_method_3_code 0 = .ok (.iload_n 0, 1) := by decide +kernel
theorem d16_1 : decode jdk_43_method_3_code 1 = .ok (.sipush 255, 3) := by decide +kernel
theorem d16_4 : decode jdk_43_method_3_code 4 = .ok (.if_icmp .gt 7, 3) := by decide +kernel
theorem d16_7 : decode jdk_43_method_3_code 7 = .ok (.iconst 1, 1) := by decide +kernel
theorem d16_8 : decode jdk_43_method_3_code 8 = .ok (.goto 4, 3) := by decide +kernel
theorem d16_12 : decode jdk_43_method_3_code 12 = .ok (.ireturn, 1) := by decide +kernel
theorem pn_16 : plainFor (⟨"java/lang/StringLatin1", "canEncode", "(C)Z"⟩ : MethodName) = true := by first | exact plainFor_of_name (by first | (simp [plainName, overriddenIn]; done) | decide +kernel) | decide +kernel | exact Jvm.Free.JP.mathPlain rfl (by decide +kernel)
theorem ef_16 (m : MethodId) (p0 : Int32) : entryFrame m #[(.int p0)] 1 = mkF m 0 #[.val (.int p0)] [] := by first | (simp [entryFrame, mkF, argsToLocals, Value.category]; done) | rfl
def Q16 (Z : State) (p0 : Int32) (h0 : Heap) (n0 : Nat) (v : Option Value) (h : Heap) (L : List Loc) : Prop := v = some (.int 1) ∧ Fr n0 L ∧ h = h0
set_option maxRecDepth 65536 in
set_option maxHeartbeats 40000000 in
theorem rm16 (l : Launch) (Z : State) (a0 : Array Value) (hw : ∀ d ∈ tables_1, d.before a0 Z = true) (ws : List Jvm.Cond) (p0 : Int32) (h0 : Heap) (n0 : Nat) (Z0 : n0 ≤ h0.size) (hp : ¬ p0 < 0 ∧ ¬ (255 : Int32) < p0) :
    MetFree l (⟨"java/lang/StringLatin1", "canEncode", "(C)Z"⟩ : MethodName) (head1 (Jvm.Cond.code (⟨"java/lang/StringLatin1", "canEncode", "(C)Z"⟩ : MethodName) jdk_43_method_3_code 1 (some .boolean) :: ws) ({ frames := 0, cells := 0, slots := 0, locals := 0 } : Room)) (fun a U => a = #[(.int p0)] ∧ Z.Warmed39 U.vm ∧ U.heap = h0) (fun _ _ _ _ _ => True) (fun _ U o U' => ∃ v L, o = .returned v ∧ Q16 Z p0 h0 n0 v U'.heap L ∧ FrameEnd U o U' L ({ frames := 0, cells := 0, slots := 0, locals := 0 } : Room).cells ({ frames := 0, cells := 0, slots := 0, locals := 0 } : Room).slots) := by
  refine MetFree.of_bodySF pn_16 hisR ?_
  intro p e s m args below meth c s₁ Bd hml0 hP hK
  obtain ⟨rfl, hZ, hh⟩ := hP
  have hx := Bd.exec
  have hby := Bd.bytes
  have hml : c.maxLocals = 1 := hml0
  have hown : s.vm.findClass "java/lang/StringLatin1" = some m.cls := findClass_of_methodNamed Bd.named
  have hnm := (name_of_methodNamed Bd.named Bd.method).1
  have X0 : Stand p l e ({ frames := 0, cells := 0, slots := 0, locals := 0 } : Room) s m #[(.int p0)] below meth c s₁ [] 0 0 := Stand.of_body Bd
  have e0 : s₁.heap = h0 := by rw [← hh, Bd.state]; rfl
  have N0 := Fr.nil n0
  refine own_at (castTop (ef_16 m p0)) ?_
  have sg12 : ∀ t, own_S p e below s₁ (mkF m 12 #[.val (.int p0)] [(.int (1 : Int32))]) t → own_S p e below s₁ (mkF m 0 #[.val (.int p0)] []) t := by
    intro t k
    show own_S p e below s₁ (mkF m 0 #[.val (.int p0)] []) _
    refine XS.iloadN X0.here hx rfl (hb hby d16_0) rfl ?_
    show own_S p e below s₁ (mkF m 1 #[.val (.int p0)] [(.int p0)]) _
    refine XS.sipush X0.here hx rfl (hb hby d16_1) ?_
    show own_S p e below s₁ (mkF m 4 #[.val (.int p0)] [(.int (255 : Int32)), (.int p0)]) _
    refine XS.icmpNo X0.here hx rfl (hb hby d16_4) rfl (flt hp.2).2.2.1 ?_
    show own_S p e below s₁ (mkF m 7 #[.val (.int p0)] []) _
    refine XS.iconst X0.here hx rfl (hb hby d16_7) ?_
    show own_S p e below s₁ (mkF m 8 #[.val (.int p0)] [(.int (1 : Int32))]) _
    refine XS.goto X0.here hx rfl (pc0 := 8) (pc' := 12) rfl (hb hby d16_8) (by decide) (by decide) ?_
    exact k
  refine own_by sg12 ?_
  obtain ⟨fs, hr, hrun, hended, hW, hsame⟩ := X0.leave (v := some (.int (1 : Int32))) (fun h => by rw [Bd.returns] at h; cases h)
  refine ⟨_, _, ?_, hrun, hended, _, _, rfl, ?_, ⟨_, rfl⟩, hW, hsame.mono (by decide) (by decide)⟩
  · exact retN X0 hx (t := .boolean) Bd.returns (by simp) (hb hby d16_12) hr
  · show Q16 Z p0 h0 n0 _ s₁.heap _
    rw [e0]
    exact ⟨rfl, N0, rfl⟩
theorem d17_0 : decode jdk_43_method_46_code 0 = .ok (.iconst 1, 1) := by decide +kernel
theorem d17_1 : decode jdk_43_method_46_code 1 = .ok (.newarray .byte, 2) := by decide +kernel
theorem d17_3 : decode jdk_43_method_46_code 3 = .ok (.dup, 1) := by decide +kernel
theorem d17_4 : decode jdk_43_method_46_code 4 = .ok (.iconst 0, 1) := by decide +kernel
theorem d17_5 : decode jdk_43_method_46_code 5 = .ok (.iload_n 0, 1) := by decide +kernel
theorem d17_6 : decode jdk_43_method_46_code 6 = .ok (.i2b, 1) := by decide +kernel
theorem d17_7 : decode jdk_43_method_46_code 7 = .ok (.bastore, 1) := by decide +kernel
theorem d17_8 : decode jdk_43_method_46_code 8 = .ok (.areturn, 1) := by decide +kernel
theorem pn_17 : plainFor (⟨"java/lang/StringLatin1", "toBytes", "(C)[B"⟩ : MethodName) = true := by first | exact plainFor_of_name (by first | (simp [plainName, overriddenIn]; done) | decide +kernel) | decide +kernel | exact Jvm.Free.JP.mathPlain rfl (by decide +kernel)
theorem ef_17 (m : MethodId) (p0 : Int32) : entryFrame m #[(.int p0)] 1 = mkF m 0 #[.val (.int p0)] [] := by first | (simp [entryFrame, mkF, argsToLocals, Value.category]; done) | rfl
def Q17 (Z : State) (p0 : Int32) (h0 : Heap) (n0 : Nat) (v : Option Value) (h : Heap) (L : List Loc) : Prop := ∃ r kc, v = some (.ref r) ∧ h0.size ≤ r ∧ Fr n0 L ∧ Keep h0 h [] ∧ Arv Z h r kc .byte (1 : Int32) [(.int (p0.toInt8.toInt32))] (.int 0)
set_option maxRecDepth 65536 in
set_option maxHeartbeats 40000000 in
theorem rm17 (l : Launch) (Z : State) (a0 : Array Value) (hw : ∀ d ∈ tables_1, d.before a0 Z = true) (ws : List Jvm.Cond) (p0 : Int32) (h0 : Heap) (n0 : Nat) (Z0 : n0 ≤ h0.size) :
    MetFree l (⟨"java/lang/StringLatin1", "toBytes", "(C)[B"⟩ : MethodName) (head1 (Jvm.Cond.code (⟨"java/lang/StringLatin1", "toBytes", "(C)[B"⟩ : MethodName) jdk_43_method_46_code 1 (some (.array .byte)) :: ws) ({ frames := 0, cells := 1, slots := 1, locals := 0 } : Room)) (fun a U => a = #[(.int p0)] ∧ Z.Warmed39 U.vm ∧ U.heap = h0) (fun _ _ _ _ _ => True) (fun _ U o U' => ∃ v L, o = .returned v ∧ Q17 Z p0 h0 n0 v U'.heap L ∧ FrameEnd U o U' L ({ frames := 0, cells := 1, slots := 1, locals := 0 } : Room).cells ({ frames := 0, cells := 1, slots := 1, locals := 0 } : Room).slots) := by
  refine MetFree.of_bodySF pn_17 hisR ?_
  intro p e s m args below meth c s₁ Bd hml0 hP hK
  obtain ⟨rfl, hZ, hh⟩ := hP
  have hx := Bd.exec
  have hby := Bd.bytes
  have hml : c.maxLocals = 1 := hml0
  have hown : s.vm.findClass "java/lang/StringLatin1" = some m.cls := findClass_of_methodNamed Bd.named
  have hnm := (name_of_methodNamed Bd.named Bd.method).1
  have X0 : Stand p l e ({ frames := 0, cells := 1, slots := 1, locals := 0 } : Room) s m #[(.int p0)] below meth c s₁ [] 0 0 := Stand.of_body Bd
  have e0 : s₁.heap = h0 := by rw [← hh, Bd.state]; rfl
  have N0 := Fr.nil n0
  refine own_at (castTop (ef_17 m p0)) ?_
  have K0 := Keep.refl h0 []
  have sg1 : ∀ t, own_S p e below s₁ (mkF m 1 #[.val (.int p0)] [(.int (1 : Int32))]) t → own_S p e below s₁ (mkF m 0 #[.val (.int p0)] []) t := by
    intro t k
    show own_S p e below s₁ (mkF m 0 #[.val (.int p0)] []) _
    refine XS.iconst X0.here hx rfl (hb hby d17_0) ?_
    exact k
  refine own_by sg1 ?_
  obtain ⟨T1, h1, kc1, X1, e1, E1, A1, st1⟩ := newP X0 hx hZ (hw _ (List.mem_of_getElem? (i := 23) rfl)) e0 (g := (mkF m 1 #[.val (.int p0)] [(.int (1 : Int32))])) rfl (hb hby d17_1) rfl (by decide) (cap := 1) (by decide) (by decide) (by decide) (by decide)
  obtain ⟨b1, g1⟩ : ∃ z, z = h0.size := ⟨_, rfl⟩
  rw [← g1] at A1 st1
  have g_b1 : n0 ≤ b1 := Nat.le_trans Z0 (Nat.le_of_eq g1.symm)
  have sz_b1 : h0.size ≤ b1 := Nat.le_trans K0.1 (Nat.le_of_eq g1.symm)
  have K1 := K0.ext E1
  have Z1 : n0 ≤ h1.size := Nat.le_trans Z0 E1.1
  have V1 : Arv Z h1 b1 kc1 .byte (1 : Int32) [(.int (0 : Int32))] (.int (0 : Int32)) := (Arv.new A1 (by decide)).pad (pad_rep [] (.int (0 : Int32)) 1)
  refine own_by st1 ?_
  obtain ⟨k7, hk7⟩ : ∃ z : Int32, z = (p0.toInt8.toInt32) := ⟨_, rfl⟩
  have sg7 : ∀ t, own_S p e below T1 (mkF m 7 #[.val (.int p0)] [(.int k7), (.int (0 : Int32)), (.ref b1), (.ref b1)]) t → own_S p e below T1 (mkF m 3 #[.val (.int p0)] [(.ref b1)]) t := by
    intro t k
    rw [hk7] at k
    show own_S p e below T1 (mkF m 3 #[.val (.int p0)] [(.ref b1)]) _
    refine XS.dup X1.here hx rfl (hb hby d17_3) rfl rfl ?_
    show own_S p e below T1 (mkF m 4 #[.val (.int p0)] [(.ref b1), (.ref b1)]) _
    refine XS.iconst X1.here hx rfl (hb hby d17_4) ?_
    show own_S p e below T1 (mkF m 5 #[.val (.int p0)] [(.int (0 : Int32)), (.ref b1), (.ref b1)]) _
    refine XS.iloadN X1.here hx rfl (hb hby d17_5) rfl ?_
    show own_S p e below T1 (mkF m 6 #[.val (.int p0)] [(.int p0), (.int (0 : Int32)), (.ref b1), (.ref b1)]) _
    refine XS.i2b X1.here hx rfl (hb hby d17_6) rfl ?_
    exact k
  refine own_by sg7 ?_
  obtain ⟨cl7, Ar7, qa7, Sa7, Na7, Ha7, Ga7⟩ := id V1
  obtain ⟨T7, h7, X7, e7, W7, st7⟩ := stB X1 hx hZ e1 Ar7 (j := (0 : Int32)) (inb_of Sa7 ⟨by decide, by decide⟩) (g := (mkF m 7 #[.val (.int p0)] [(.int k7), (.int (0 : Int32)), (.ref b1), (.ref b1)])) rfl rfl (hb hby d17_7)
  have V7 : Arv Z h7 b1 kc1 .byte (1 : Int32) [(.int (p0.toInt8.toInt32))] (.int (0 : Int32)) := by
    have q := Arv.set Ar7 qa7 Sa7 Na7 Ha7 Ga7 (fits_nar_byte _) W7 0 rfl (Nat.le_of_ble_eq_true rfl)
    rw [hk7, own_i2b2] at q
    exact q
  have K7 : Keep h0 h7 [] := K1.wr W7 (Or.inr sz_b1)
  have Z7 : n0 ≤ h7.size := Nat.le_trans Z1 (Keep.of_wr W7).1
  have N7 := Fr.snoc X7 N0 g_b1
  refine own_by st7 ?_
  obtain ⟨fs, hr, hrun, hended, hW, hsame⟩ := X7.leave (v := some (.ref b1)) (fun h => by rw [Bd.returns] at h; cases h)
  refine ⟨_, _, ?_, hrun, hended, _, _, rfl, ?_, ⟨_, rfl⟩, hW, hsame.mono (by decide) (by decide)⟩
  · show Steps p.tables e below (T7.setTop (mkF m 8 #[.val (.int p0)] [(.ref b1)])) _
    jvm_step X7.here [X7.here.top, hx, (hb hby d17_8), X7.method', Bd.returns, Value.isRef, FieldType.isReference]
    first | (intro acts; rw [hr _ acts rfl rfl rfl]) | rw [hr _ _ rfl rfl rfl]
    exact Steps.refl _
  · show Q17 Z p0 h0 n0 _ T7.heap _
    rw [e7]
    exact ⟨_, _, rfl, sz_b1, N7, K7, V7⟩
theorem d18_0 : decode jdk_42_method_151_code 0 = .ok (.aload_n 0, 1) := by decide +kernel
theorem d18_1 : decode jdk_42_method_151_code 1 = .ok (.invokespecial 1, 3) := by decide +kernel
theorem d18_4 : decode jdk_42_method_151_code 4 = .ok (.aload_n 0, 1) := by decide +kernel
theorem d18_5 : decode jdk_42_method_151_code 5 = .ok (.aload_n 1, 1) := by decide +kernel
theorem d18_6 : decode jdk_42_method_151_code 6 = .ok (.putfield 9, 3) := by decide +kernel
theorem d18_9 : decode jdk_42_method_151_code 9 = .ok (.aload_n 0, 1) := by decide +kernel
theorem d18_10 : decode jdk_42_method_151_code 10 = .ok (.iload_n 2, 1) := by decide +kernel
theorem d18_11 : decode jdk_42_method_151_code 11 = .ok (.putfield 15, 3) := by decide +kernel
theorem d18_14 : decode jdk_42_method_151_code 14 = .ok (.return_, 1) := by decide +kernel
theorem pn_18 : plainFor (⟨"java/lang/String", "<init>", "([BB)V"⟩ : MethodName) = true := by first | exact plainFor_of_name (by first | (simp [plainName, overriddenIn]; done) | decide +kernel) | decide +kernel | exact Jvm.Free.JP.mathPlain rfl (by decide +kernel)
theorem ef_18 (m : MethodId) (a1 : Addr) (a2 : Addr) : entryFrame m #[(.ref a1), (.ref a2), (.int (0 : Int32))] 3 = mkF m 0 #[.val (.ref a1), .val (.ref a2), .val (.int (0 : Int32))] [] := by first | (simp [entryFrame, mkF, argsToLocals, Value.category]; done) | rfl
def Q18 (Z : State) (a1 : Addr) (a2 : Addr) (h0 : Heap) (n0 : Nat) (v : Option Value) (h : Heap) (L : List Loc) : Prop := v = none ∧ Fr n0 L ∧ Keep h0 h [a1] ∧ Exa Z h a1 "java/lang/String" ∧ Fld Z h a1 "java/lang/String" "value" "[B" (.ref a2) ∧ Fld Z h a1 "java/lang/String" "coder" "B" (.int (0 : Int32))
set_option maxRecDepth 65536 in
set_option maxHeartbeats 40000000 in
theorem rm18 (l : Launch) (Z : State) (a0 : Array Value) (hw : ∀ d ∈ tables_1, d.before a0 Z = true) (ws : List Jvm.Cond) (a1 : Addr) (a2 : Addr) (h0 : Heap) (n0 : Nat) (Z0 : n0 ≤ h0.size) (E_a1 : Exa Z h0 a1 "java/lang/String") (F_value : Fld Z h0 a1 "java/lang/String" "value" "[B" .null) (F_coder : Fld Z h0 a1 "java/lang/String" "coder" "B" (.int (0 : Int32))) (g_a1 : n0 ≤ a1) :
    MetFree l (⟨"java/lang/String", "<init>", "([BB)V"⟩ : MethodName) (head1 (Jvm.Cond.code (⟨"java/lang/String", "<init>", "([BB)V"⟩ : MethodName) jdk_42_method_151_code 3 none :: ws) ({ frames := 1, cells := 0, slots := 0, locals := 12 } : Room)) (fun a U => a = #[(.ref a1), (.ref a2), (.int (0 : Int32))] ∧ Z.Warmed39 U.vm ∧ U.heap = h0) (fun _ _ _ _ _ => True) (fun _ U o U' => ∃ v L, o = .returned v ∧ Q18 Z a1 a2 h0 n0 v U'.heap L ∧ FrameEnd U o U' L ({ frames := 1, cells := 0, slots := 0, locals := 12 } : Room).cells ({ frames := 1, cells := 0, slots := 0, locals := 12 } : Room).slots) := by
  refine MetFree.of_bodySF pn_18 hisR ?_
  intro p e s m args below meth c s₁ Bd hml0 hP hK
  obtain ⟨rfl, hZ, hh⟩ := hP
  have hx := Bd.exec
  have hby := Bd.bytes
  have hml : c.maxLocals = 3 := hml0
  have hown : s.vm.findClass "java/lang/String" = some m.cls := findClass_of_methodNamed Bd.named
  have hnm := (name_of_methodNamed Bd.named Bd.method).1
  have X0 : Stand p l e ({ frames := 1, cells := 0, slots := 0, locals := 12 } : Room) s m #[(.ref a1), (.ref a2), (.int (0 : Int32))] below meth c s₁ [] 0 0 := Stand.of_body Bd
  have e0 : s₁.heap = h0 := by rw [← hh, Bd.state]; rfl
  have N0 := Fr.nil n0
  refine own_at (castTop (ef_18 m a1 a2)) ?_
  have K0 := Keep.refl h0 [a1]
  have sg1 : ∀ t, own_S p e below s₁ (mkF m 1 #[.val (.ref a1), .val (.ref a2), .val (.int (0 : Int32))] [(.ref a1)]) t → own_S p e below s₁ (mkF m 0 #[.val (.ref a1), .val (.ref a2), .val (.int (0 : Int32))] []) t := by
    intro t k
    show own_S p e below s₁ (mkF m 0 #[.val (.ref a1), .val (.ref a2), .val (.int (0 : Int32))] []) _
    refine XS.aloadN X0.here hx rfl (hb hby d18_0) rfl rfl ?_
    exact k
  refine own_by sg1 ?_
  obtain ⟨T1, X1, e1, st1⟩ := initO X0 hx hZ hown (hw _ (List.mem_of_getElem? (i := 15) rfl)) (hw _ (List.mem_of_getElem? (i := 16) rfl)) (hw _ (List.mem_of_getElem? (i := 17) rfl)) e0 (g := (mkF m 1 #[.val (.ref a1), .val (.ref a2), .val (.int (0 : Int32))] [(.ref a1)])) rfl (by rw [hml]; rfl) rfl (hb hby d18_1) (by decide) (W := 0) (by show 2 * 0 + _ ≤ _; exact Nat.le_of_eq rfl) (by decide)
  refine own_by st1 ?_
  have sg6 : ∀ t, own_S p e below T1 (mkF m 6 #[.val (.ref a1), .val (.ref a2), .val (.int (0 : Int32))] [(.ref a2), (.ref a1)]) t → own_S p e below T1 (mkF m 4 #[.val (.ref a1), .val (.ref a2), .val (.int (0 : Int32))] []) t := by
    intro t k
    show own_S p e below T1 (mkF m 4 #[.val (.ref a1), .val (.ref a2), .val (.int (0 : Int32))] []) _
    refine XS.aloadN X1.here hx rfl (hb hby d18_4) rfl rfl ?_
    show own_S p e below T1 (mkF m 5 #[.val (.ref a1), .val (.ref a2), .val (.int (0 : Int32))] [(.ref a1)]) _
    refine XS.aloadN X1.here hx rfl (hb hby d18_5) rfl rfl ?_
    exact k
  refine own_by sg6 ?_
  obtain ⟨T6, h6, X6, e6, W6, st6⟩ := putF X1 hx hZ hown (host := "") (Or.inl (hw _ (List.mem_of_getElem? (i := 32) rfl))) Via.refl e1 F_value E_a1 (Or.inr ⟨(hw _ (List.mem_of_getElem? (i := 33) rfl)), rfl, hnm⟩) (hw _ (List.mem_of_getElem? (i := 1) rfl)) (ty := (.array .byte)) (by decide) rfl rfl (g := (mkF m 6 #[.val (.ref a1), .val (.ref a2), .val (.int (0 : Int32))] [(.ref a2), (.ref a1)])) rfl rfl (hb hby d18_6)
  have Fw6 := F_value.same W6
  have fc := (F_coder.other W6 (Or.inr (slot_ne (Or.inr (hw _ (List.mem_of_getElem? (i := 31) rfl))) (Or.inr (hw _ (List.mem_of_getElem? (i := 33) rfl))) (by decide) (t := .byte) (t' := (.array .byte)) (by decide) (by decide))))
  have K6 : Keep h0 h6 [a1] := K0.wr W6 (Or.inl (List.mem_of_getElem? (i := 0) rfl))
  have Z6 : n0 ≤ h6.size := Nat.le_trans Z0 (Keep.of_wr W6).1
  have N6 := Fr.snoc X6 N0 g_a1
  refine own_by st6 ?_
  have sg11 : ∀ t, own_S p e below T6 (mkF m 11 #[.val (.ref a1), .val (.ref a2), .val (.int (0 : Int32))] [(.int (0 : Int32)), (.ref a1)]) t → own_S p e below T6 (mkF m 9 #[.val (.ref a1), .val (.ref a2), .val (.int (0 : Int32))] []) t := by
    intro t k
    show own_S p e below T6 (mkF m 9 #[.val (.ref a1), .val (.ref a2), .val (.int (0 : Int32))] []) _
    refine XS.aloadN X6.here hx rfl (hb hby d18_9) rfl rfl ?_
    show own_S p e below T6 (mkF m 10 #[.val (.ref a1), .val (.ref a2), .val (.int (0 : Int32))] [(.ref a1)]) _
    refine XS.iloadN X6.here hx rfl (hb hby d18_10) rfl ?_
    exact k
  refine own_by sg11 ?_
  obtain ⟨T11, h11, X11, e11, W11, st11⟩ := putF X6 hx hZ hown (host := "") (Or.inl (hw _ (List.mem_of_getElem? (i := 30) rfl))) Via.refl e6 fc (E_a1.wr W6) (Or.inr ⟨(hw _ (List.mem_of_getElem? (i := 31) rfl)), rfl, hnm⟩) (hw _ (List.mem_of_getElem? (i := 1) rfl)) (ty := .byte) (by decide) rfl rfl (g := (mkF m 11 #[.val (.ref a1), .val (.ref a2), .val (.int (0 : Int32))] [(.int (0 : Int32)), (.ref a1)])) rfl rfl (hb hby d18_11)
  have Fw11 := fc.same W11
  have fc_2 := (Fw6.other W11 (Or.inr (slot_ne (Or.inr (hw _ (List.mem_of_getElem? (i := 33) rfl))) (Or.inr (hw _ (List.mem_of_getElem? (i := 31) rfl))) (by decide) (t := (.array .byte)) (t' := .byte) (by decide) (by decide))))
  have K11 : Keep h0 h11 [a1] := K6.wr W11 (Or.inl (List.mem_of_getElem? (i := 0) rfl))
  have Z11 : n0 ≤ h11.size := Nat.le_trans Z6 (Keep.of_wr W11).1
  have N11 := Fr.snoc X11 N6 g_a1
  refine own_by st11 ?_
  obtain ⟨fs, hr, hrun, hended, hW, hsame⟩ := X11.leave (v := none) (fun _ => rfl)
  refine ⟨_, _, ?_, hrun, hended, _, _, rfl, ?_, ⟨_, rfl⟩, hW, hsame.mono (by decide) (by decide)⟩
  · exact X11.returnOut hx Bd.returns (hb hby d18_14) hr
  · show Q18 Z a1 a2 h0 n0 _ T11.heap _
    rw [e11]
    exact ⟨rfl, N11, K11, ((E_a1.wr W6).wr W11), fc_2, Fw11⟩
theorem d15_0 : decode jdk_42_method_139_code 0 = .ok (.getstatic 38, 3) := by decide +kernel
theorem d15_3 : decode jdk_42_method_139_code 3 = .ok (.ifCond .eq 23, 3) := by decide +kernel
theorem d15_6 : decode jdk_42_method_139_code 6 = .ok (.iload_n 0, 1) := by decide +kernel
theorem d15_7 : decode jdk_42_method_139_code 7 = .ok (.invokestatic 1015, 3) := by decide +kernel
theorem d15_10 : decode jdk_42_method_139_code 10 = .ok (.ifCond .eq 16, 3) := by decide +kernel
theorem d15_13 : decode jdk_42_method_139_code 13 = .ok (.new 10, 3) := by decide +kernel
theorem d15_16 : decode jdk_42_method_139_code 16 = .ok (.dup, 1) := by decide +kernel
theorem d15_17 : decode jdk_42_method_139_code 17 = .ok (.iload_n 0, 1) := by decide +kernel
theorem d15_18 : decode jdk_42_method_139_code 18 = .ok (.invokestatic 1018, 3) := by decide +kernel
theorem d15_21 : decode jdk_42_method_139_code 21 = .ok (.iconst 0, 1) := by decide +kernel
theorem d15_22 : decode jdk_42_method_139_code 22 = .ok (.invokespecial 209, 3) := by decide +kernel
theorem d15_25 : decode jdk_42_method_139_code 25 = .ok (.areturn, 1) := by decide +kernel
theorem pn_15 : plainFor (⟨"java/lang/String", "valueOf", "(C)Ljava/lang/String;"⟩ : MethodName) = true := by first | exact plainFor_of_name (by first | (simp [plainName, overriddenIn]; done) | decide +kernel) | decide +kernel | exact Jvm.Free.JP.mathPlain rfl (by decide +kernel)
theorem pd_15_0 : parseMethodDescriptor "(C)Z" = some ⟨[.char], some .boolean⟩ := by decide +kernel
theorem pd_15_1 : parseMethodDescriptor "(C)[B" = some ⟨[.char], some (.array .byte)⟩ := by decide +kernel
theorem pd_15_2 : parseMethodDescriptor "([BB)V" = some ⟨[(.array .byte), .byte], none⟩ := by decide +kernel
theorem ef_15 (m : MethodId) (p0 : Int32) : entryFrame m #[(.int p0)] 1 = mkF m 0 #[.val (.int p0)] [] := by first | (simp [entryFrame, mkF, argsToLocals, Value.category]; done) | rfl
def Q15 (Z : State) (p0 : Int32) (gz : Int32) (h0 : Heap) (n0 : Nat) (v : Option Value) (h : Heap) (L : List Loc) : Prop := ∃ r, v = some (.ref r) ∧ h0.size ≤ r ∧ Fr n0 L ∧ Keep h0 h [] ∧ own_Str Z h r [p0]
set_option maxRecDepth 65536 in
set_option maxHeartbeats 40000000 in
theorem rm15 (l : Launch) (Z : State) (a0 : Array Value) (hw : ∀ d ∈ tables_1, d.before a0 Z = true) (ws : List Jvm.Cond) (p0 : Int32) (gz : Int32) (h0 : Heap) (n0 : Nat) (Z0 : n0 ≤ h0.size) (O2 : Sta Z h0 "java/lang/String" "COMPACT_STRINGS" "Z" (.int gz)) (P5 : ¬ (gz = (0 : Int32))) (hk : ¬ p0 < 0 ∧ ¬ (255 : Int32) < p0) :
    MetFree l (⟨"java/lang/String", "valueOf", "(C)Ljava/lang/String;"⟩ : MethodName) (head1 (Jvm.Cond.code (⟨"java/lang/String", "valueOf", "(C)Ljava/lang/String;"⟩ : MethodName) jdk_42_method_139_code 1 (some (.object "java/lang/String")) :: ws) ({ frames := 2, cells := 2, slots := 5, locals := 27 } : Room)) (fun a U => a = #[(.int p0)] ∧ Z.Warmed39 U.vm ∧ U.heap = h0) (fun _ _ _ _ _ => True) (fun _ U o U' => ∃ v L, o = .returned v ∧ Q15 Z p0 gz h0 n0 v U'.heap L ∧ FrameEnd U o U' L ({ frames := 2, cells := 2, slots := 5, locals := 27 } : Room).cells ({ frames := 2, cells := 2, slots := 5, locals := 27 } : Room).slots) := by
  refine MetFree.of_bodySF pn_15 hisR ?_
  intro p e s m args below meth c s₁ Bd hml0 hP hK
  obtain ⟨rfl, hZ, hh⟩ := hP
  have hx := Bd.exec
  have hby := Bd.bytes
  have hml : c.maxLocals = 1 := hml0
  have hown : s.vm.findClass "java/lang/String" = some m.cls := findClass_of_methodNamed Bd.named
  have hnm := (name_of_methodNamed Bd.named Bd.method).1
  have X0 : Stand p l e ({ frames := 2, cells := 2, slots := 5, locals := 27 } : Room) s m #[(.int p0)] below meth c s₁ [] 0 0 := Stand.of_body Bd
  have e0 : s₁.heap = h0 := by rw [← hh, Bd.state]; rfl
  have N0 := Fr.nil n0
  refine own_at (castTop (ef_15 m p0)) ?_
  have K0 := Keep.refl h0 []
  obtain ⟨T00, X00, e00, st00⟩ := getS2 X0 hx hZ hown (host := "") (Or.inl (hw _ (List.mem_of_getElem? (i := 18) rfl))) Via.refl e0 O2 (g := (mkF m 0 #[.val (.int p0)] [])) rfl (hb hby d15_0)
  refine own_by st00 ?_
  have sg7 : ∀ t, own_S p e below T00 (mkF m 7 #[.val (.int p0)] [(.int p0)]) t → own_S p e below T00 (mkF m 3 #[.val (.int p0)] [(.int gz)]) t := by
    intro t k
    show own_S p e below T00 (mkF m 3 #[.val (.int p0)] [(.int gz)]) _
    refine XS.ifNo X00.here hx rfl (hb hby d15_3) rfl ((if0 _ _).trans (feq P5).1) ?_
    show own_S p e below T00 (mkF m 6 #[.val (.int p0)] []) _
    refine XS.iloadN X00.here hx rfl (hb hby d15_6) rfl ?_
    exact k
  refine own_by sg7 ?_
  obtain ⟨_, _, ⟨T7, L7, k7, n7⟩, -, X7, ⟨Lc7, hQ7, l7, y7, z7⟩, st7⟩ := Jvm.LawKit.callS X00 hx (y := (⟨"java/lang/StringLatin1", "canEncode", "(C)Z"⟩ : MethodName)) hown (mvT hZ (hw _ (List.mem_of_getElem? (i := 93) rfl))) (mvT hZ (hw _ (List.mem_of_getElem? (i := 94) rfl))) (mvT hZ (hw _ (List.mem_of_getElem? (i := 67) rfl))) (mvT hZ (hw _ (List.mem_of_getElem? (i := 95) rfl))) (by decide) (backOf (W := 0) (rm16 l Z a0 hw [] p0 h0 n0 Z0 hk) hZ (hw _ (List.mem_of_getElem? (i := 95) rfl)) (hw _ (List.mem_of_getElem? (i := 67) rfl)) (by decide) (by decide)) (g := (mkF m 7 #[.val (.int p0)] [(.int p0)])) rfl (by rw [hml]; rfl) (argsL := [(.int p0)]) (rest := []) (lenOf pd_15_0 rfl) rfl (by show 2 * 0 + _ ≤ _; exact Nat.le_of_eq rfl) (hb hby d15_7) (fun _ _ => ⟨rfl, e00, (by decide : 0 + 0 ≤ _), (by decide : 0 + 0 ≤ _)⟩)
  dsimp only [Pt.U, Pt.locs, Pt.cells, Pt.slots] at X7 l7 y7 z7 st7 hQ7
  subst l7 y7 z7
  obtain ⟨rfl, N7q, hq7⟩ := hQ7
  have N7 := Fr.app N0 N7q
  refine own_by st7 ?_
  have sg13 : ∀ t, own_S p e below T7 (mkF m 13 #[.val (.int p0)] []) t → own_S p e below T7 (mkF m 10 #[.val (.int p0)] [(.int (1 : Int32))]) t := by
    intro t k
    show own_S p e below T7 (mkF m 10 #[.val (.int p0)] [(.int (1 : Int32))]) _
    refine XS.ifNo X7.here hx rfl (hb hby d15_10) rfl ((if0 _ _).trans (feq (by decide : ¬ ((1 : Int32) = (0 : Int32)))).1) ?_
    exact k
  refine own_by sg13 ?_
  obtain ⟨T13, h13, X13, e13, E13, A13, D13, -, st13⟩ := newO X7 hx hZ hown (hw _ (List.mem_of_getElem? (i := 64) rfl)) (hw _ (List.mem_of_getElem? (i := 1) rfl)) (hw _ (List.mem_of_getElem? (i := 2) rfl)) hq7 (g := (mkF m 13 #[.val (.int p0)] [])) rfl (hb hby d15_13) (by decide) (by decide)
  obtain ⟨b13, g13⟩ : ∃ z, z = h0.size := ⟨_, rfl⟩
  rw [← g13] at A13 D13 st13
  have g_b13 : n0 ≤ b13 := Nat.le_trans Z0 (Nat.le_of_eq g13.symm)
  have sz_b13 : h0.size ≤ b13 := Nat.le_trans K0.1 (Nat.le_of_eq g13.symm)
  have K13 := K0.ext E13
  have Z13 : n0 ≤ h13.size := Nat.le_trans Z0 E13.1
  have F_coder_b13 : Fld Z h13 b13 "java/lang/String" "coder" "B" (.int (0 : Int32)) := D13 (Or.inr (hw _ (List.mem_of_getElem? (i := 31) rfl))) (ty := .byte) (by decide)
  have F_value_b13 : Fld Z h13 b13 "java/lang/String" "value" "[B" .null := D13 (Or.inr (hw _ (List.mem_of_getElem? (i := 33) rfl))) (ty := (.array .byte)) (by decide)
  refine own_by st13 ?_
  have sg18 : ∀ t, own_S p e below T13 (mkF m 18 #[.val (.int p0)] [(.int p0), (.ref b13), (.ref b13)]) t → own_S p e below T13 (mkF m 16 #[.val (.int p0)] [(.ref b13)]) t := by
    intro t k
    show own_S p e below T13 (mkF m 16 #[.val (.int p0)] [(.ref b13)]) _
    refine XS.dup X13.here hx rfl (hb hby d15_16) rfl rfl ?_
    show own_S p e below T13 (mkF m 17 #[.val (.int p0)] [(.ref b13), (.ref b13)]) _
    refine XS.iloadN X13.here hx rfl (hb hby d15_17) rfl ?_
    exact k
  refine own_by sg18 ?_
  obtain ⟨_, _, ⟨T18, L18, k18, n18⟩, -, X18, ⟨Lc18, hQ18, l18, y18, z18⟩, st18⟩ := Jvm.LawKit.callS X13 hx (y := (⟨"java/lang/StringLatin1", "toBytes", "(C)[B"⟩ : MethodName)) hown (mvT hZ (hw _ (List.mem_of_getElem? (i := 96) rfl))) (mvT hZ (hw _ (List.mem_of_getElem? (i := 97) rfl))) (mvT hZ (hw _ (List.mem_of_getElem? (i := 67) rfl))) (mvT hZ (hw _ (List.mem_of_getElem? (i := 98) rfl))) (by decide) (backOf (W := 2) (rm17 l Z a0 hw [] p0 h13 n0 Z13) hZ (hw _ (List.mem_of_getElem? (i := 98) rfl)) (hw _ (List.mem_of_getElem? (i := 67) rfl)) (by decide) (by decide)) (g := (mkF m 18 #[.val (.int p0)] [(.int p0), (.ref b13), (.ref b13)])) rfl (by rw [hml]; rfl) (argsL := [(.int p0)]) (rest := [(.ref b13), (.ref b13)]) (lenOf pd_15_1 rfl) rfl (by show 2 * 0 + _ ≤ _; exact Nat.le_of_eq rfl) (hb hby d15_18) (fun _ _ => ⟨rfl, e13, (by decide : 1 + 1 ≤ _), (by decide : 4 + 1 ≤ _)⟩)
  dsimp only [Pt.U, Pt.locs, Pt.cells, Pt.slots] at X18 l18 y18 z18 st18 hQ18
  subst l18 y18 z18
  obtain ⟨r18, kc18, rfl, ge18, N18q, Kq18, Aq18⟩ := hQ18
  have N18 := Fr.app N7 N18q
  have ne_b13_r18 : b13 ≠ r18 := Nat.ne_of_lt (Nat.lt_of_lt_of_le A13.lt ge18)
  have g_r18 : n0 ≤ r18 := Nat.le_trans Z13 ge18
  have sz_r18 : h0.size ≤ r18 := Nat.le_trans K13.1 ge18
  have K18 : Keep h0 T18.heap [] := K13.trans Kq18 (fun x hx => nomatch hx)
  have Z18 : n0 ≤ T18.heap.size := Nat.le_trans Z13 Kq18.1
  refine own_by st18 ?_
  have sg22 : ∀ t, own_S p e below T18 (mkF m 22 #[.val (.int p0)] [(.int (0 : Int32)), (.ref r18), (.ref b13), (.ref b13)]) t → own_S p e below T18 (mkF m 21 #[.val (.int p0)] [(.ref r18), (.ref b13), (.ref b13)]) t := by
    intro t k
    show own_S p e below T18 (mkF m 21 #[.val (.int p0)] [(.ref r18), (.ref b13), (.ref b13)]) _
    refine XS.iconst X18.here hx rfl (hb hby d15_21) ?_
    exact k
  refine own_by sg22 ?_
  obtain ⟨_, _, ⟨T22, L22, k22, n22⟩, -, X22, ⟨Lc22, hQ22, l22, y22, z22⟩, st22⟩ := X18.specialBack hx (y := (⟨"java/lang/String", "<init>", "([BB)V"⟩ : MethodName)) rfl hown (mvT hZ (hw _ (List.mem_of_getElem? (i := 99) rfl))) (mvT hZ (hw _ (List.mem_of_getElem? (i := 100) rfl))) (mvT hZ (hw _ (List.mem_of_getElem? (i := 101) rfl))) (by decide) (backOf (W := 1) (rm18 l Z a0 hw [] b13 r18 T18.heap n0 Z18 (A13.keep Kq18) (F_value_b13.keep Kq18 List.not_mem_nil) (F_coder_b13.keep Kq18 List.not_mem_nil) g_b13) hZ (hw _ (List.mem_of_getElem? (i := 101) rfl)) (hw _ (List.mem_of_getElem? (i := 2) rfl)) (by decide) (by decide)) (g := (mkF m 22 #[.val (.int p0)] [(.int (0 : Int32)), (.ref r18), (.ref b13), (.ref b13)])) rfl (by rw [hml]; rfl) (Steps.refl _) (a := b13) (argsL := [(.ref r18), (.int (0 : Int32))]) (rest := [(.ref b13)]) (lenOf pd_15_2 rfl) rfl (by show 2 * 0 + _ ≤ _; exact Nat.le_of_eq rfl) (hb hby d15_22) (fun _ _ => ⟨rfl, rfl, (by decide : 2 + 0 ≤ _), (by decide : 5 + 0 ≤ _)⟩)
  dsimp only [Pt.U, Pt.locs, Pt.cells, Pt.slots] at X22 l22 y22 z22 st22 hQ22
  subst l22 y22 z22
  obtain ⟨rfl, N22q, Kq22, Eq22, Fv22, Fc22⟩ := hQ22
  have N22 := Fr.app N18 N22q
  have fc := (Aq18.keep Kq22 (fun h => (Ne.symm ne_b13_r18) (List.mem_singleton.mp h)))
  have K22 : Keep h0 T22.heap [] := K18.trans Kq22 (fun x hx => by cases List.mem_singleton.mp hx; exact Or.inr sz_b13)
  have Z22 : n0 ≤ T22.heap.size := Nat.le_trans Z18 Kq22.1
  refine own_by (fun t k => st22.trans k) ?_
  obtain ⟨fs, hr, hrun, hended, hW, hsame⟩ := X22.leave (v := some (.ref b13)) (fun h => by rw [Bd.returns] at h; cases h)
  refine ⟨_, _, ?_, hrun, hended, _, _, rfl, ?_, ⟨_, rfl⟩, hW, hsame.mono (by decide) (by decide)⟩
  · show Steps p.tables e below (T22.setTop (mkF m 25 #[.val (.int p0)] [(.ref b13)])) _
    jvm_step X22.here [X22.here.top, hx, (hb hby d15_25), X22.method', Bd.returns, Value.isRef, FieldType.isReference]
    first | (intro acts; rw [hr _ acts rfl rfl rfl]) | rw [hr _ _ rfl rfl rfl]
    exact Steps.refl _
  · show Q15 Z p0 gz h0 n0 _ T22.heap _
    exact ⟨_, rfl, sz_b13, N22, K22, ⟨r18, _, 0, (1 : Int32), _, Eq22, Fv22, Fc22, fc, StrChars.Road.codOf (cs := [p0]) (n := 1) rfl (fun c hc => by cases List.mem_singleton.mp hc; exact hk.2), own_up _ (fun c hc => by cases List.mem_singleton.mp hc; exact hk), Nat.le_of_ble_eq_true rfl⟩⟩
theorem pn_0 : plainFor x = true := by first | exact plainFor_of_name (by first | (simp [plainName, overriddenIn]; done) | decide +kernel) | decide +kernel | exact Jvm.Free.JP.mathPlain rfl (by decide +kernel)
theorem pd_0_0 : parseMethodDescriptor "(I)[C" = some ⟨[.int], some (.array .char)⟩ := by decide +kernel
theorem pd_0_1 : parseMethodDescriptor "([C)V" = some ⟨[(.array .char)], none⟩ := by decide +kernel
theorem pd_0_2 : parseMethodDescriptor "(Ljava/lang/String;)Lcom/example/spojka/spojka/AutowireMode;" = some ⟨[(.object "java/lang/String")], some (.object "com/example/spojka/spojka/AutowireMode")⟩ := by decide +kernel
theorem pd_0_3 : parseMethodDescriptor "(IC)[C" = some ⟨[.int, .char], some (.array .char)⟩ := by decide +kernel
theorem pd_0_4 : parseMethodDescriptor "(C)Ljava/lang/String;" = some ⟨[.char], some (.object "java/lang/String")⟩ := by decide +kernel
theorem ef_0 (m : MethodId) (p0 : Int32) (p1 : Int32) (p2 : Int32) (p3 : Int32) : entryFrame m #[(.int p0), (.int p1), (.int p2), (.int p3)] maxLocals = mkF m 0 #[.val (.int p0), .val (.int p1), .val (.int p2), .val (.int p3), .unset, .unset, .unset, .unset, .unset, .unset] [] := by first | (simp [entryFrame, mkF, argsToLocals, Value.category, maxLocals]; done) | rfl
def Q0 (Z : State) (p0 : Int32) (p1 : Int32) (p2 : Int32) (p3 : Int32) (wV : Addr) (cl : Cell) (wNO : Addr) (wBY_NAME : Addr) (wBY_TYPE : Addr) (wCONSTRUCTOR : Addr) (sNO : Addr) (sBY_NAME : Addr) (sBY_TYPE : Addr) (sCONSTRUCTOR : Addr) (gz : Int32) (h0 : Heap) (n0 : Nat) (v : Option Value) (h : Heap) (L : List Loc) : Prop := v = some (.int 1) ∧ Fr n0 L
set_option maxRecDepth 65536 in
set_option maxHeartbeats 40000000 in
theorem rm0 (l : Launch) (Z : State) (a0 : Array Value) (hw : ∀ d ∈ tables_1, d.before a0 Z = true) (ws : List Jvm.Cond) (p0 : Int32) (p1 : Int32) (p2 : Int32) (p3 : Int32) (wV : Addr) (cl : Cell) (wNO : Addr) (wBY_NAME : Addr) (wBY_TYPE : Addr) (wCONSTRUCTOR : Addr) (sNO : Addr) (sBY_NAME : Addr) (sBY_TYPE : Addr) (sCONSTRUCTOR : Addr) (gz : Int32) (h0 : Heap) (n0 : Nat) (Z0 : n0 ≤ h0.size) (O : Old Z n0 h0) (O2 : Sta Z Z.heap "java/lang/String" "COMPACT_STRINGS" "Z" (.int gz)) (P5 : ¬ (gz = (0 : Int32))) (S_V : Sta Z Z.heap "com/example/spojka/spojka/AutowireMode" "$VALUES" "[Lcom/example/spojka/spojka/AutowireMode;" (.ref wV)) (Ar_V : Arr Z Z.heap wV cl (.object "com/example/spojka/spojka/AutowireMode")) (E_V : Exa Z Z.heap wV "[Lcom/example/spojka/spojka/AutowireMode;") (FC : FitC Z cl) (hsz : cl.slots.size = 4) (hat0 : cl.slots[0]? = some (.ref wNO)) (hat1 : cl.slots[1]? = some (.ref wBY_NAME)) (hat2 : cl.slots[2]? = some (.ref wBY_TYPE)) (hat3 : cl.slots[3]? = some (.ref wCONSTRUCTOR)) (FV_NO : Fld Z Z.heap wNO "com/example/spojka/spojka/AutowireMode" "value" "Ljava/lang/String;" (.ref sNO)) (FV_BY_NAME : Fld Z Z.heap wBY_NAME "com/example/spojka/spojka/AutowireMode" "value" "Ljava/lang/String;" (.ref sBY_NAME)) (FV_BY_TYPE : Fld Z Z.heap wBY_TYPE "com/example/spojka/spojka/AutowireMode" "value" "Ljava/lang/String;" (.ref sBY_TYPE)) (FV_CONSTRUCTOR : Fld Z Z.heap wCONSTRUCTOR "com/example/spojka/spojka/AutowireMode" "value" "Ljava/lang/String;" (.ref sCONSTRUCTOR)) (EX_NO : Exa Z Z.heap sNO "java/lang/String") (EX_BY_NAME : Exa Z Z.heap sBY_NAME "java/lang/String") (EX_BY_TYPE : Exa Z Z.heap sBY_TYPE "java/lang/String") (EX_CONSTRUCTOR : Exa Z Z.heap sCONSTRUCTOR "java/lang/String") (Str_NO : own_Str Z Z.heap sNO ([(110 : Int32), (111 : Int32)] : List Int32)) (Str_BY_NAME : own_Str Z Z.heap sBY_NAME ([(98 : Int32), (121 : Int32), (78 : Int32), (97 : Int32), (109 : Int32), (101 : Int32)] : List Int32)) (Str_BY_TYPE : own_Str Z Z.heap sBY_TYPE ([(98 : Int32), (121 : Int32), (84 : Int32), (121 : Int32), (112 : Int32), (101 : Int32)] : List Int32)) (Str_CONSTRUCTOR : own_Str Z Z.heap sCONSTRUCTOR ([(99 : Int32), (111 : Int32), (110 : Int32), (115 : Int32), (116 : Int32), (114 : Int32), (117 : Int32), (99 : Int32), (116 : Int32), (111 : Int32), (114 : Int32)] : List Int32)) (S_NO : Sta Z Z.heap "com/example/spojka/spojka/AutowireMode" "NO" "Lcom/example/spojka/spojka/AutowireMode;" (.ref wNO)) (S_BY_NAME : Sta Z Z.heap "com/example/spojka/spojka/AutowireMode" "BY_NAME" "Lcom/example/spojka/spojka/AutowireMode;" (.ref wBY_NAME)) (S_BY_TYPE : Sta Z Z.heap "com/example/spojka/spojka/AutowireMode" "BY_TYPE" "Lcom/example/spojka/spojka/AutowireMode;" (.ref wBY_TYPE)) (S_CONSTRUCTOR : Sta Z Z.heap "com/example/spojka/spojka/AutowireMode" "CONSTRUCTOR" "Lcom/example/spojka/spojka/AutowireMode;" (.ref wCONSTRUCTOR)) (E_NO : Exa Z Z.heap wNO "com/example/spojka/spojka/AutowireMode") (E_BY_NAME : Exa Z Z.heap wBY_NAME "com/example/spojka/spojka/AutowireMode") (E_BY_TYPE : Exa Z Z.heap wBY_TYPE "com/example/spojka/spojka/AutowireMode") (E_CONSTRUCTOR : Exa Z Z.heap wCONSTRUCTOR "com/example/spojka/spojka/AutowireMode") :
    MetFree l x (head1 (Jvm.Cond.code x code maxLocals ret :: ws) room_1) (fun a U => a = #[(.int p0), (.int p1), (.int p2), (.int p3)] ∧ Z.Warmed39 U.vm ∧ U.heap = h0 ∧ CHv Z consts_1 U.vm h0) (fun _ _ _ _ _ => True) (fun _ U o U' => ∃ v L, o = .returned v ∧ Q0 Z p0 p1 p2 p3 wV cl wNO wBY_NAME wBY_TYPE wCONSTRUCTOR sNO sBY_NAME sBY_TYPE sCONSTRUCTOR gz h0 n0 v U'.heap L ∧ CHr Z consts_1 U.vm U.heap U'.vm U'.heap ∧ ReturnedEndW U o U' L room_1.cells room_1.slots) := by
  refine MetFree.of_bodySF pn_0 hisR ?_
  intro p e s m args below meth c s₁ Bd hml0 hP hK
  obtain ⟨rfl, hZ, hh, hH0⟩ := hP
  have hx := Bd.exec
  have hby := Bd.bytes
  have hml : c.maxLocals = 10 := hml0
  have hown : s.vm.findClass "com/example/spojka/spojka/AutowireModeNamedPinLaw" = some m.cls := findClass_of_methodNamed Bd.named
  have hnm := (name_of_methodNamed Bd.named Bd.method).1
  have X0 : Stand p l e room_1 (s.setVm s.vm) m #[(.int p0), (.int p1), (.int p2), (.int p3)] below meth c s₁ [] 0 0 := Stand.of_body Bd
  have e0 : s₁.heap = h0 := by rw [← hh, Bd.state]; rfl
  have N0 := Fr.nil n0
  have hS0 : s.Since s.vm 0 := (State.WarmedH.refl s).since 0
  refine own_at (castTop (ef_0 m p0 p1 p2 p3)) ?_
  have K0 := Keep.refl h0 []
  have hws : ∀ d ∈ StrChars.Road.words, d.before a0 Z = true := fun d hd => hw d ((by decide +kernel : ∀ d ∈ StrChars.Road.words, d ∈ tables_1) d hd)
  have heq : ∀ d ∈ StrChars.Road.wordsEq, d.before a0 Z = true := fun d hd => hw d ((by decide +kernel : ∀ d ∈ StrChars.Road.wordsEq, d ∈ tables_1) d hd)
  have wS : ∀ a ∈ Bundle.stringAtoms, a.before a0 Z = true := fun d hd => hw d ((by decide +kernel : ∀ d ∈ Bundle.stringAtoms, d ∈ tables_1) d hd)
  have hEL : EW _ _ consts_1 := (EW.cons (hw _ (List.mem_of_getElem? (i := 72) rfl)) (by decide) (EW.cons (hw _ (List.mem_of_getElem? (i := 78) rfl)) (by decide) (EW.cons (hw _ (List.mem_of_getElem? (i := 79) rfl)) (by decide) (EW.cons (hw _ (List.mem_of_getElem? (i := 80) rfl)) (by decide) (EW.cons (hw _ (List.mem_of_getElem? (i := 77) rfl)) (by decide) EW.nil)))))
  obtain ⟨v6, hv6⟩ : ∃ z : Int32, z = ((p2 &&& (255 : Int32)).toUInt32.toUInt16.toUInt32.toInt32) := ⟨_, rfl⟩
  have hk_v6 : ¬ v6 < 0 ∧ ¬ (255 : Int32) < v6 := by rw [hv6]; exact own_c255 _
  have sg6 : ∀ t, own_S p e below s₁ (mkF m 6 (own_AIIIIUUUUUU p0 p1 p2 p3) [(.int v6)]) t → own_S p e below s₁ (mkF m 0 (own_AIIIIUUUUUU p0 p1 p2 p3) []) t := by
    intro t k
    rw [hv6] at k
    show own_S p e below s₁ (mkF m 0 (own_AIIIIUUUUUU p0 p1 p2 p3) []) _
    refine XS.iloadN X0.here hx rfl (hb hby at_0) rfl ?_
    show own_S p e below s₁ (mkF m 1 (own_AIIIIUUUUUU p0 p1 p2 p3) [(.int p2)]) _
    refine XS.sipush X0.here hx rfl (hb hby at_1) ?_
    show own_S p e below s₁ (mkF m 4 (own_AIIIIUUUUUU p0 p1 p2 p3) [(.int (255 : Int32)), (.int p2)]) _
    refine XS.iand X0.here hx rfl (hb hby at_4) rfl ?_
    show own_S p e below s₁ (mkF m 5 (own_AIIIIUUUUUU p0 p1 p2 p3) [(.int (p2 &&& (255 : Int32)))]) _
    refine XS.i2c X0.here hx rfl (hb hby at_5) rfl ?_
    exact k
  refine own_by sg6 ?_
  obtain ⟨v14, hv14⟩ : ∃ z : Int32, z = ((p3 &&& (255 : Int32)).toUInt32.toUInt16.toUInt32.toInt32) := ⟨_, rfl⟩
  have hk_v14 : ¬ v14 < 0 ∧ ¬ (255 : Int32) < v14 := by rw [hv14]; exact own_c255 _
  have sg14 : ∀ t, own_S p e below s₁ (mkF m 14 (own_AIIIIIUUUUU p0 p1 p2 p3 v6) [(.int v14)]) t → own_S p e below s₁ (mkF m 6 (own_AIIIIUUUUUU p0 p1 p2 p3) [(.int v6)]) t := by
    intro t k
    rw [hv14] at k
    show own_S p e below s₁ (mkF m 6 (own_AIIIIUUUUUU p0 p1 p2 p3) [(.int v6)]) _
    refine XS.istore X0.here hx rfl (hb hby at_6) rfl (l' := (own_AIIIIIUUUUU p0 p1 p2 p3 v6)) rfl ?_
    show own_S p e below s₁ (mkF m 8 (own_AIIIIIUUUUU p0 p1 p2 p3 v6) []) _
    refine XS.iloadN X0.here hx rfl (hb hby at_8) rfl ?_
    show own_S p e below s₁ (mkF m 9 (own_AIIIIIUUUUU p0 p1 p2 p3 v6) [(.int p3)]) _
    refine XS.sipush X0.here hx rfl (hb hby at_9) ?_
    show own_S p e below s₁ (mkF m 12 (own_AIIIIIUUUUU p0 p1 p2 p3 v6) [(.int (255 : Int32)), (.int p3)]) _
    refine XS.iand X0.here hx rfl (hb hby at_12) rfl ?_
    show own_S p e below s₁ (mkF m 13 (own_AIIIIIUUUUU p0 p1 p2 p3 v6) [(.int (p3 &&& (255 : Int32)))]) _
    refine XS.i2c X0.here hx rfl (hb hby at_13) rfl ?_
    exact k
  refine own_by sg14 ?_
  obtain ⟨v21, hv21⟩ : ∃ z : Int32, z = (((p0.toUInt32 >>> ((3 : Int32) &&& 31).toUInt32).toInt32) &&& (3 : Int32)) := ⟨_, rfl⟩
  have sg21 : ∀ t, own_S p e below s₁ (mkF m 21 (own_AIIIIIIUUUU p0 p1 p2 p3 v6 v14) [(.int v21)]) t → own_S p e below s₁ (mkF m 14 (own_AIIIIIUUUUU p0 p1 p2 p3 v6) [(.int v14)]) t := by
    intro t k
    rw [hv21] at k
    show own_S p e below s₁ (mkF m 14 (own_AIIIIIUUUUU p0 p1 p2 p3 v6) [(.int v14)]) _
    refine XS.istore X0.here hx rfl (hb hby at_14) rfl (l' := (own_AIIIIIIUUUU p0 p1 p2 p3 v6 v14)) rfl ?_
    show own_S p e below s₁ (mkF m 16 (own_AIIIIIIUUUU p0 p1 p2 p3 v6 v14) []) _
    refine XS.iloadN X0.here hx rfl (hb hby at_16) rfl ?_
    show own_S p e below s₁ (mkF m 17 (own_AIIIIIIUUUU p0 p1 p2 p3 v6 v14) [(.int p0)]) _
    refine XS.iconst X0.here hx rfl (hb hby at_17) ?_
    show own_S p e below s₁ (mkF m 18 (own_AIIIIIIUUUU p0 p1 p2 p3 v6 v14) [(.int (3 : Int32)), (.int p0)]) _
    refine XS.iushr X0.here hx rfl (hb hby at_18) rfl ?_
    show own_S p e below s₁ (mkF m 19 (own_AIIIIIIUUUU p0 p1 p2 p3 v6 v14) [(.int ((p0.toUInt32 >>> ((3 : Int32) &&& 31).toUInt32).toInt32))]) _
    refine XS.iconst X0.here hx rfl (hb hby at_19) ?_
    show own_S p e below s₁ (mkF m 20 (own_AIIIIIIUUUU p0 p1 p2 p3 v6 v14) [(.int (3 : Int32)), (.int ((p0.toUInt32 >>> ((3 : Int32) &&& 31).toUInt32).toInt32))]) _
    refine XS.iand X0.here hx rfl (hb hby at_20) rfl ?_
    exact k
  refine own_by sg21 ?_
  obtain ⟨v27, hv27⟩ : ∃ z : Int32, z = (p0 &&& (7 : Int32)) := ⟨_, rfl⟩
  have sg27 : ∀ t, own_S p e below s₁ (mkF m 27 (own_AIIIIIIIUUU p0 p1 p2 p3 v6 v14 v21) [(.int v27)]) t → own_S p e below s₁ (mkF m 21 (own_AIIIIIIUUUU p0 p1 p2 p3 v6 v14) [(.int v21)]) t := by
    intro t k
    rw [hv27] at k
    show own_S p e below s₁ (mkF m 21 (own_AIIIIIIUUUU p0 p1 p2 p3 v6 v14) [(.int v21)]) _
    refine XS.istore X0.here hx rfl (hb hby at_21) rfl (l' := (own_AIIIIIIIUUU p0 p1 p2 p3 v6 v14 v21)) rfl ?_
    show own_S p e below s₁ (mkF m 23 (own_AIIIIIIIUUU p0 p1 p2 p3 v6 v14 v21) []) _
    refine XS.iloadN X0.here hx rfl (hb hby at_23) rfl ?_
    show own_S p e below s₁ (mkF m 24 (own_AIIIIIIIUUU p0 p1 p2 p3 v6 v14 v21) [(.int p0)]) _
    refine XS.bipush X0.here hx rfl (hb hby at_24) ?_
    show own_S p e below s₁ (mkF m 26 (own_AIIIIIIIUUU p0 p1 p2 p3 v6 v14 v21) [(.int (7 : Int32)), (.int p0)]) _
    refine XS.iand X0.here hx rfl (hb hby at_26) rfl ?_
    exact k
  refine own_by sg27 ?_
  have sg31 : ∀ t, own_S p e below s₁ (mkF m 31 (own_AIIIIIIIIUU p0 p1 p2 p3 v6 v14 v21 v27) [(.int v27)]) t → own_S p e below s₁ (mkF m 27 (own_AIIIIIIIUUU p0 p1 p2 p3 v6 v14 v21) [(.int v27)]) t := by
    intro t k
    show own_S p e below s₁ (mkF m 27 (own_AIIIIIIIUUU p0 p1 p2 p3 v6 v14 v21) [(.int v27)]) _
    refine XS.istore X0.here hx rfl (hb hby at_27) rfl (l' := (own_AIIIIIIIIUU p0 p1 p2 p3 v6 v14 v21 v27)) rfl ?_
    show own_S p e below s₁ (mkF m 29 (own_AIIIIIIIIUU p0 p1 p2 p3 v6 v14 v21 v27) []) _
    refine XS.iload X0.here hx rfl (hb hby at_29) rfl ?_
    exact k
  refine own_by sg31 ?_
  by_cases hc31 : v27 = (0 : Int32)
  · have sg34 : ∀ t, own_S p e below s₁ (mkF m 34 (own_AIIIIIIIIUU p0 p1 p2 p3 v6 v14 v21 v27) []) t → own_S p e below s₁ (mkF m 31 (own_AIIIIIIIIUU p0 p1 p2 p3 v6 v14 v21 v27) [(.int v27)]) t := by
      intro t k
      show own_S p e below s₁ (mkF m 31 (own_AIIIIIIIIUU p0 p1 p2 p3 v6 v14 v21 v27) [(.int v27)]) _
      refine XS.ifNo X0.here hx rfl (hb hby at_31) rfl ((if0 _ _).trans (teq hc31).2) ?_
      exact k
    refine own_by sg34 ?_
    obtain ⟨T34, h34, X34, e34, E34, A34, D34, -, st34⟩ := newO X0 hx hZ hown (hw _ (List.mem_of_getElem? (i := 0) rfl)) (hw _ (List.mem_of_getElem? (i := 1) rfl)) (hw _ (List.mem_of_getElem? (i := 2) rfl)) e0 (g := (mkF m 34 (own_AIIIIIIIIUU p0 p1 p2 p3 v6 v14 v21 v27) [])) rfl (hb hby at_34) (by decide) (by decide)
    obtain ⟨b34, g34⟩ : ∃ z, z = h0.size := ⟨_, rfl⟩
    rw [← g34] at A34 D34 st34
    have g_b34 : n0 ≤ b34 := Nat.le_trans Z0 (Nat.le_of_eq g34.symm)
    have sz_b34 : h0.size ≤ b34 := Nat.le_trans K0.1 (Nat.le_of_eq g34.symm)
    have K34 := K0.ext E34
    have Z34 : n0 ≤ h34.size := Nat.le_trans Z0 E34.1
    have CC34 := CHr.ext E34 hH0
    have CR34 := (CHr.refl hH0).trans CC34
    have F_coder_b34 : Fld Z h34 b34 "java/lang/String" "coder" "B" (.int (0 : Int32)) := D34 (Or.inr (hw _ (List.mem_of_getElem? (i := 31) rfl))) (ty := .byte) (by decide)
    have F_value_b34 : Fld Z h34 b34 "java/lang/String" "value" "[B" .null := D34 (Or.inr (hw _ (List.mem_of_getElem? (i := 33) rfl))) (ty := (.array .byte)) (by decide)
    refine own_by st34 ?_
    have sg38 : ∀ t, own_S p e below T34 (mkF m 38 (own_AIIIIIIIIUU p0 p1 p2 p3 v6 v14 v21 v27) [(.ref b34), (.ref b34)]) t → own_S p e below T34 (mkF m 37 (own_AIIIIIIIIUU p0 p1 p2 p3 v6 v14 v21 v27) [(.ref b34)]) t := by
      intro t k
      show own_S p e below T34 (mkF m 37 (own_AIIIIIIIIUU p0 p1 p2 p3 v6 v14 v21 v27) [(.ref b34)]) _
      refine XS.dup X34.here hx rfl (hb hby at_37) rfl rfl ?_
      exact k
    refine own_by sg38 ?_
    rcases (by rw [hv21]; exact own_and3 _ : v21 = 0 ∨ v21 = 1 ∨ v21 = 2 ∨ v21 = 3) with hi0 | hi1 | hi2 | hi3
    · have sg40 : ∀ t, own_S p e below T34 (mkF m 40 (own_AIIIIIIIIUU p0 p1 p2 p3 v6 v14 v21 v27) [(.int v21), (.ref b34), (.ref b34)]) t → own_S p e below T34 (mkF m 38 (own_AIIIIIIIIUU p0 p1 p2 p3 v6 v14 v21 v27) [(.ref b34), (.ref b34)]) t := by
        intro t k
        show own_S p e below T34 (mkF m 38 (own_AIIIIIIIIUU p0 p1 p2 p3 v6 v14 v21 v27) [(.ref b34), (.ref b34)]) _
        refine XS.iload X34.here hx rfl (hb hby at_38) rfl ?_
        exact k
      refine own_by sg40 ?_
      obtain ⟨_, _, ⟨T40, L40, k40, n40⟩, -, X40, ⟨Lc40, hQ40, l40, y40, z40⟩, st40⟩ := Jvm.LawKit.callS X34 hx (y := (⟨"com/example/spojka/spojka/AutowireModeNamedPinLaw", "word", "(I)[C"⟩ : MethodName)) hown (mvT hZ (hw _ (List.mem_of_getElem? (i := 3) rfl))) (mvT hZ (hw _ (List.mem_of_getElem? (i := 4) rfl))) (mvT hZ (hw _ (List.mem_of_getElem? (i := 5) rfl))) (mvT hZ (hw _ (List.mem_of_getElem? (i := 6) rfl))) (by decide) (backOf (W := 2) (rm1 l Z a0 hw [] v21 h34 n0 Z34 ) hZ (hw _ (List.mem_of_getElem? (i := 6) rfl)) (hw _ (List.mem_of_getElem? (i := 5) rfl)) (by decide) (by decide)) (g := (mkF m 40 (own_AIIIIIIIIUU p0 p1 p2 p3 v6 v14 v21 v27) [(.int v21), (.ref b34), (.ref b34)])) rfl (by rw [hml]; rfl) (argsL := [(.int v21)]) (rest := [(.ref b34), (.ref b34)]) (lenOf pd_0_0 rfl) rfl (by show 2 * 0 + _ ≤ _; exact Nat.le_of_eq rfl) (hb hby at_40) (fun _ _ => ⟨rfl, e34, (by decide : 1 + 1 ≤ _), (by decide : 4 + 11 ≤ _)⟩)
      dsimp only [Pt.U, Pt.locs, Pt.cells, Pt.slots] at X40 l40 y40 z40 st40 hQ40
      subst l40 y40 z40
      obtain ⟨r40, kc40, rfl, ge40, N40q, Kq40, Aq40⟩ := hQ40
      have N40 := Fr.app N0 N40q
      have ln40 : (own_word v21).length = 2 := (by rw [hi0]; rfl)
      rw [ln40] at Aq40
      have An40 : Arv Z T40.heap r40 kc40 .char (2 : Int32) ((own_word v21).map Value.int) (.int (0 : Int32)) := Aq40
      have hp40 : ∀ c ∈ (own_word v21), ¬ c < 0 ∧ ¬ (255 : Int32) < c := own_word_hp _
      have ne_b34_r40 : b34 ≠ r40 := Nat.ne_of_lt (Nat.lt_of_lt_of_le A34.lt ge40)
      have g_r40 : n0 ≤ r40 := Nat.le_trans Z34 ge40
      have sz_r40 : h0.size ≤ r40 := Nat.le_trans K34.1 ge40
      have K40 : Keep h0 T40.heap [] := K34.trans Kq40 (fun x hx => nomatch hx)
      have Z40 : n0 ≤ T40.heap.size := Nat.le_trans Z34 Kq40.1
      have CC40 := CHr.keep Kq40 sf0 CC34.1
      have CR40 := CR34.trans CC40
      refine own_by st40 ?_
      obtain ⟨_, _, ⟨T43, L43, k43, n43⟩, -, X43, ⟨Lc43, hQ43, l43, y43, z43⟩, st43⟩ := X40.specialBack hx (y := (⟨"java/lang/String", "<init>", "([C)V"⟩ : MethodName)) rfl hown (mvT hZ (hw _ (List.mem_of_getElem? (i := 8) rfl))) (mvT hZ (hw _ (List.mem_of_getElem? (i := 9) rfl))) (mvT hZ (hw _ (List.mem_of_getElem? (i := 10) rfl))) (by decide) (StrChars.Road.backV (W := 1) hZ hws (kI := 4) (hw _ (List.mem_of_getElem? (i := 1) rfl)) (cs := (own_word v21)) (bs := (own_word v21).map (fun c => c.toInt8.toInt32)) (n := 2) g_b34 Z40 (A34.keep Kq40) (F_value_b34.keep Kq40 List.not_mem_nil) (F_coder_b34.keep Kq40 List.not_mem_nil) An40 (O2.ext ((O.ext E34).keep Kq40 all0).2) P5 ln40 rfl (by decide) (by decide) hp40 rfl (by decide) (by decide)) (g := (mkF m 43 (own_AIIIIIIIIUU p0 p1 p2 p3 v6 v14 v21 v27) [(.ref r40), (.ref b34), (.ref b34)])) rfl (by rw [hml]; rfl) (Steps.refl _) (a := b34) (argsL := [(.ref r40)]) (rest := [(.ref b34)]) (lenOf pd_0_1 rfl) rfl (by show 2 * 0 + _ ≤ _; exact Nat.le_of_eq rfl) (hb hby at_43) (fun _ _ => ⟨rfl, rfl, (by decide : 2 + 1 ≤ _), (by decide : 15 + 2 ≤ _)⟩)
      dsimp only [Pt.U, Pt.locs, Pt.cells, Pt.slots] at X43 l43 y43 z43 st43 hQ43
      subst l43 y43 z43
      obtain ⟨rfl, N43q, Kq43, Eq43, Cq43, t43, kb43, u143, u243, u343, Vq43, Aq43⟩ := hQ43
      have N43 := Fr.app N40 N43q
      have Sq43 : own_Str Z T43.heap b34 (own_word v21) := ⟨t43, kb43, 0, _, _, Eq43, Vq43, Cq43, Aq43, StrChars.Road.codOf (n := 2) ln40 (fun x hx => (hp40 x hx).2), own_up _ hp40, by rw [ln40]; decide⟩
      have fc := (An40.keep Kq43 (fun h => (Ne.symm ne_b34_r40) (List.mem_singleton.mp h)))
      have K43 : Keep h0 T43.heap [] := K40.trans Kq43 (fun x hx => by cases List.mem_singleton.mp hx; exact Or.inr sz_b34)
      have Z43 : n0 ≤ T43.heap.size := Nat.le_trans Z40 Kq43.1
      have CC43 := CHr.keep Kq43 (sfS (own_safe0 hZ.alike (A34.keep Kq40) (F_value_b34.keep Kq40 List.not_mem_nil) (hw _ (List.mem_of_getElem? (i := 1) rfl))) sf0) CC40.1
      have CR43 := CR40.trans CC43
      refine own_by (fun t k => st43.trans k) ?_
      have sg213 : ∀ t, own_S p e below T43 (mkF m 213 (own_AIIIIIIIIRU p0 p1 p2 p3 v6 v14 v21 v27 b34) [(.ref b34)]) t → own_S p e below T43 (mkF m 46 (own_AIIIIIIIIUU p0 p1 p2 p3 v6 v14 v21 v27) [(.ref b34)]) t := by
        intro t k
        show own_S p e below T43 (mkF m 46 (own_AIIIIIIIIUU p0 p1 p2 p3 v6 v14 v21 v27) [(.ref b34)]) _
        refine XS.astore X43.here hx rfl (hb hby at_46) rfl rfl (l' := (own_AIIIIIIIIRU p0 p1 p2 p3 v6 v14 v21 v27 b34)) rfl ?_
        show own_S p e below T43 (mkF m 48 (own_AIIIIIIIIRU p0 p1 p2 p3 v6 v14 v21 v27 b34) []) _
        refine XS.goto X43.here hx rfl (pc0 := 48) (pc' := 211) rfl (hb hby at_48) (by decide) (by decide) ?_
        show own_S p e below T43 (mkF m 211 (own_AIIIIIIIIRU p0 p1 p2 p3 v6 v14 v21 v27 b34) []) _
        refine XS.aload X43.here hx rfl (hb hby at_211) rfl rfl ?_
        exact k
      refine own_by sg213 ?_
      obtain ⟨_, _, ⟨T213, L213, k213, n213⟩, -, X213, ⟨Lc213, hQ213, l213, y213, z213⟩, st213⟩ := Jvm.LawKit.callS X43 hx (y := (⟨"com/example/spojka/spojka/AutowireMode", "named", "(Ljava/lang/String;)Lcom/example/spojka/spojka/AutowireMode;"⟩ : MethodName)) hown (mvT hZ (hw _ (List.mem_of_getElem? (i := 34) rfl))) (mvT hZ (hw _ (List.mem_of_getElem? (i := 35) rfl))) (mvT hZ (hw _ (List.mem_of_getElem? (i := 36) rfl))) (mvT hZ (hw _ (List.mem_of_getElem? (i := 37) rfl))) (by decide) (backOf (W := 0) (rm8 l Z a0 hw [] b34 (own_word v21) wV cl wNO wBY_NAME wBY_TYPE wCONSTRUCTOR sNO sBY_NAME sBY_TYPE sCONSTRUCTOR gz T43.heap n0 Z43 (((O.ext E34).keep Kq40 all0).keep Kq43 (allS g_b34 all0)) O2 P5 S_V Ar_V E_V FC hsz hat0 hat1 hat2 hat3 FV_NO FV_BY_NAME FV_BY_TYPE FV_CONSTRUCTOR EX_NO EX_BY_NAME EX_BY_TYPE EX_CONSTRUCTOR Str_NO Str_BY_NAME Str_BY_TYPE Str_CONSTRUCTOR Sq43) hZ (hw _ (List.mem_of_getElem? (i := 37) rfl)) (hw _ (List.mem_of_getElem? (i := 36) rfl)) (by decide) (by decide)) (g := (mkF m 213 (own_AIIIIIIIIRU p0 p1 p2 p3 v6 v14 v21 v27 b34) [(.ref b34)])) rfl (by rw [hml]; rfl) (argsL := [(.ref b34)]) (rest := []) (lenOf pd_0_2 rfl) rfl (by show 2 * 0 + _ ≤ _; exact Nat.le_of_eq rfl) (hb hby at_213) (fun _ _ => ⟨rfl, rfl, (by decide : 3 + 1 ≤ _), (by decide : 17 + 4 ≤ _)⟩)
      dsimp only [Pt.U, Pt.locs, Pt.cells, Pt.slots] at X213 l213 y213 z213 st213 hQ213
      subst l213 y213 z213
      obtain ⟨rfl, N213q, Kq213⟩ := hQ213
      have N213 := Fr.app N43 N213q
      have K213 : Keep h0 T213.heap [] := K43.trans Kq213 (fun x hx => nomatch hx)
      have Z213 : n0 ≤ T213.heap.size := Nat.le_trans Z43 Kq213.1
      have CC213 := CHr.keep Kq213 sf0 CC43.1
      have CR213 := CR43.trans CC213
      obtain ⟨g213, hg213⟩ : ∃ z : Value, z = (if ([(110 : Int32), (111 : Int32)] : List Int32) = (own_word v21) then Value.ref wNO else (if ([(98 : Int32), (121 : Int32), (78 : Int32), (97 : Int32), (109 : Int32), (101 : Int32)] : List Int32) = (own_word v21) then Value.ref wBY_NAME else (if ([(98 : Int32), (121 : Int32), (84 : Int32), (121 : Int32), (112 : Int32), (101 : Int32)] : List Int32) = (own_word v21) then Value.ref wBY_TYPE else (if ([(99 : Int32), (111 : Int32), (110 : Int32), (115 : Int32), (116 : Int32), (114 : Int32), (117 : Int32), (99 : Int32), (116 : Int32), (111 : Int32), (114 : Int32)] : List Int32) = (own_word v21) then Value.ref wCONSTRUCTOR else Value.null)))) := ⟨_, rfl⟩
      rw [← hg213] at st213
      have hgr213 : g213.isRef = true := by rw [hg213]; repeat' (first | rfl | (refine own_isr rfl ?_))
      refine own_by st213 ?_
      have sg222 : ∀ t, own_S p e below T213 (mkF m 222 (own_AIIIIIIIIRV p0 p1 p2 p3 v6 v14 v21 v27 b34 g213) [(.ref b34), g213]) t → own_S p e below T213 (mkF m 216 (own_AIIIIIIIIRU p0 p1 p2 p3 v6 v14 v21 v27 b34) [g213]) t := by
        intro t k
        show own_S p e below T213 (mkF m 216 (own_AIIIIIIIIRU p0 p1 p2 p3 v6 v14 v21 v27 b34) [g213]) _
        refine XS.astore X213.here hx rfl (hb hby at_216) rfl hgr213 (l' := (own_AIIIIIIIIRV p0 p1 p2 p3 v6 v14 v21 v27 b34 g213)) (by simp [storeLocals, storeSelf, setAt, own_cat1 hgr213, own_catr, own_catn]) ?_
        show own_S p e below T213 (mkF m 218 (own_AIIIIIIIIRV p0 p1 p2 p3 v6 v14 v21 v27 b34 g213) []) _
        refine XS.aload X213.here hx rfl (hb hby at_218) rfl hgr213 ?_
        show own_S p e below T213 (mkF m 220 (own_AIIIIIIIIRV p0 p1 p2 p3 v6 v14 v21 v27 b34 g213) [g213]) _
        refine XS.aload X213.here hx rfl (hb hby at_220) rfl rfl ?_
        exact k
      refine own_by sg222 ?_
      obtain ⟨_, _, ⟨T222, L222, k222, n222⟩, -, Xc222, hSc222, hgc222, ⟨Lc222, hQ222, l222, y222, z222, hC222⟩, st222⟩ := callSS X213 hx (y := (⟨"com/example/spojka/spojka/AutowireModeNamedPinLaw", "expected", "(Ljava/lang/String;)Lcom/example/spojka/spojka/AutowireMode;"⟩ : MethodName)) hown (mvT hZ (hw _ (List.mem_of_getElem? (i := 69) rfl))) (mvT hZ (hw _ (List.mem_of_getElem? (i := 70) rfl))) (mvT hZ (hw _ (List.mem_of_getElem? (i := 5) rfl))) (mvT hZ (hw _ (List.mem_of_getElem? (i := 71) rfl))) (by decide) (backOfSH (W := 1) (rm12 l Z a0 hw [] b34 (own_word v21) wNO wBY_NAME wBY_TYPE wCONSTRUCTOR gz T213.heap n0 Z213 ((((O.ext E34).keep Kq40 all0).keep Kq43 (allS g_b34 all0)).keep Kq213 all0) O2 P5 (Sq43.ext (own_kx Kq213)) S_NO S_BY_NAME S_BY_TYPE S_CONSTRUCTOR) hZ (hw _ (List.mem_of_getElem? (i := 71) rfl)) (hw _ (List.mem_of_getElem? (i := 5) rfl)) (by decide) (by decide) hEL CC213.1) (g := (mkF m 222 (own_AIIIIIIIIRV p0 p1 p2 p3 v6 v14 v21 v27 b34 g213) [(.ref b34), g213])) rfl (by rw [hml]; rfl) (argsL := [(.ref b34)]) (rest := [g213]) (lenOf pd_0_2 rfl) rfl (by show 2 * 0 + (List.map (fun v => Value.category v) [g213]).sum ≤ 1; simp [own_cat1 hgr213, own_catr, own_catn]) (hb hby at_222) (fun _ _ => ⟨rfl, rfl, (by decide : 4 + 8 ≤ _), (by decide : 21 + 116 ≤ _)⟩)
      dsimp only [Pt.U, Pt.locs, Pt.cells, Pt.slots] at Xc222 hSc222 hgc222
      obtain ⟨X222, hS222, hZ222, hown222⟩ := rebS hS0 (Nat.le_trans (Nat.le_trans (Nat.le_trans (Nat.le_trans (Nat.zero_le _) E34.1) Kq40.1) Kq43.1) Kq213.1) Xc222 hSc222 hgc222 hZ hown
      dsimp only [Pt.U, Pt.locs, Pt.cells, Pt.slots] at X222 l222 y222 z222 st222 hQ222
      subst l222 y222 z222
      obtain ⟨rfl, N222q, Kq222⟩ := hQ222
      have N222 := Fr.app N213 N222q
      have fc_2 := ((fc.keep Kq213 List.not_mem_nil).keep Kq222 List.not_mem_nil)
      have K222 : Keep h0 T222.heap [] := K213.trans Kq222 (fun x hx => nomatch hx)
      have Z222 : n0 ≤ T222.heap.size := Nat.le_trans Z213 Kq222.1
      rw [← hg213] at st222
      have CR222 := CR213.trans hC222
      refine own_by (fun t k => st222.trans k) ?_
      have sg233 : ∀ t, own_S p e below T222 (mkF m 233 (own_AIIIIIIIIRV p0 p1 p2 p3 v6 v14 v21 v27 b34 g213) [(.int (1 : Int32))]) t → own_S p e below T222 (mkF m 225 (own_AIIIIIIIIRV p0 p1 p2 p3 v6 v14 v21 v27 b34 g213) [g213, g213]) t := by
        intro t k
        show own_S p e below T222 (mkF m 225 (own_AIIIIIIIIRV p0 p1 p2 p3 v6 v14 v21 v27 b34 g213) [g213, g213]) _
        refine Jvm.RoadKit.acmp (g := (mkF m 225 (own_AIIIIIIIIRV p0 p1 p2 p3 v6 v14 v21 v27 b34 g213) [g213, g213])) X222 hx rfl hgr213 hgr213 (pc0 := 225) (pc' := 228) (same := true) rfl (hb hby at_225) rfl (decide_eq_true (rfl : (g213 : Value) = g213)) (by decide) (by decide) ?_
        show own_S p e below T222 (mkF m 228 (own_AIIIIIIIIRV p0 p1 p2 p3 v6 v14 v21 v27 b34 g213) []) _
        refine XS.iconst X222.here hx rfl (hb hby at_228) ?_
        show own_S p e below T222 (mkF m 229 (own_AIIIIIIIIRV p0 p1 p2 p3 v6 v14 v21 v27 b34 g213) [(.int (1 : Int32))]) _
        refine XS.goto X222.here hx rfl (pc0 := 229) (pc' := 233) rfl (hb hby at_229) (by decide) (by decide) ?_
        exact k
      refine own_by sg233 ?_
      obtain ⟨fs, hr, hrun, hended, hW⟩ := X222.leaveW hS222 (Nat.le_refl _) (v := some (.int (1 : Int32))) (fun h => by rw [Bd.returns] at h; cases h)
      refine ⟨_, _, ?_, hrun, hended, _, _, rfl, ?_, (by rw [hh]; show CHr Z consts_1 s.vm h0 T222.vm T222.heap; exact CR222.trans (CHv.at X222 hZ222 hEL hC222.1)), hW.1, hW.2.1, hW.2.2.1, hW.2.2.2.mono (by decide) (by decide)⟩
      · exact retN X222 hx (t := .boolean) Bd.returns (by simp) (hb hby at_233) hr
      · show Q0 Z p0 p1 p2 p3 wV cl wNO wBY_NAME wBY_TYPE wCONSTRUCTOR sNO sBY_NAME sBY_TYPE sCONSTRUCTOR gz h0 n0 _ T222.heap _
        exact ⟨rfl, N222⟩
    · have sg40 : ∀ t, own_S p e below T34 (mkF m 40 (own_AIIIIIIIIUU p0 p1 p2 p3 v6 v14 v21 v27) [(.int v21), (.ref b34), (.ref b34)]) t → own_S p e below T34 (mkF m 38 (own_AIIIIIIIIUU p0 p1 p2 p3 v6 v14 v21 v27) [(.ref b34), (.ref b34)]) t := by
        intro t k
        show own_S p e below T34 (mkF m 38 (own_AIIIIIIIIUU p0 p1 p2 p3 v6 v14 v21 v27) [(.ref b34), (.ref b34)]) _
        refine XS.iload X34.here hx rfl (hb hby at_38) rfl ?_
        exact k
      refine own_by sg40 ?_
      obtain ⟨_, _, ⟨T40, L40, k40, n40⟩, -, X40, ⟨Lc40, hQ40, l40, y40, z40⟩, st40⟩ := Jvm.LawKit.callS X34 hx (y := (⟨"com/example/spojka/spojka/AutowireModeNamedPinLaw", "word", "(I)[C"⟩ : MethodName)) hown (mvT hZ (hw _ (List.mem_of_getElem? (i := 3) rfl))) (mvT hZ (hw _ (List.mem_of_getElem? (i := 4) rfl))) (mvT hZ (hw _ (List.mem_of_getElem? (i := 5) rfl))) (mvT hZ (hw _ (List.mem_of_getElem? (i := 6) rfl))) (by decide) (backOf (W := 2) (rm1 l Z a0 hw [] v21 h34 n0 Z34 ) hZ (hw _ (List.mem_of_getElem? (i := 6) rfl)) (hw _ (List.mem_of_getElem? (i := 5) rfl)) (by decide) (by decide)) (g := (mkF m 40 (own_AIIIIIIIIUU p0 p1 p2 p3 v6 v14 v21 v27) [(.int v21), (.ref b34), (.ref b34)])) rfl (by rw [hml]; rfl) (argsL := [(.int v21)]) (rest := [(.ref b34), (.ref b34)]) (lenOf pd_0_0 rfl) rfl (by show 2 * 0 + _ ≤ _; exact Nat.le_of_eq rfl) (hb hby at_40) (fun _ _ => ⟨rfl, e34, (by decide : 1 + 1 ≤ _), (by decide : 4 + 11 ≤ _)⟩)
      dsimp only [Pt.U, Pt.locs, Pt.cells, Pt.slots] at X40 l40 y40 z40 st40 hQ40
      subst l40 y40 z40
      obtain ⟨r40, kc40, rfl, ge40, N40q, Kq40, Aq40⟩ := hQ40
      have N40 := Fr.app N0 N40q
      have ln40 : (own_word v21).length = 6 := (by rw [hi1]; rfl)
      rw [ln40] at Aq40
      have An40 : Arv Z T40.heap r40 kc40 .char (6 : Int32) ((own_word v21).map Value.int) (.int (0 : Int32)) := Aq40
      have hp40 : ∀ c ∈ (own_word v21), ¬ c < 0 ∧ ¬ (255 : Int32) < c := own_word_hp _
      have ne_b34_r40 : b34 ≠ r40 := Nat.ne_of_lt (Nat.lt_of_lt_of_le A34.lt ge40)
      have g_r40 : n0 ≤ r40 := Nat.le_trans Z34 ge40
      have sz_r40 : h0.size ≤ r40 := Nat.le_trans K34.1 ge40
      have K40 : Keep h0 T40.heap [] := K34.trans Kq40 (fun x hx => nomatch hx)
      have Z40 : n0 ≤ T40.heap.size := Nat.le_trans Z34 Kq40.1
      have CC40 := CHr.keep Kq40 sf0 CC34.1
      have CR40 := CR34.trans CC40
      refine own_by st40 ?_
      obtain ⟨_, _, ⟨T43, L43, k43, n43⟩, -, X43, ⟨Lc43, hQ43, l43, y43, z43⟩, st43⟩ := X40.specialBack hx (y := (⟨"java/lang/String", "<init>", "([C)V"⟩ : MethodName)) rfl hown (mvT hZ (hw _ (List.mem_of_getElem? (i := 8) rfl))) (mvT hZ (hw _ (List.mem_of_getElem? (i := 9) rfl))) (mvT hZ (hw _ (List.mem_of_getElem? (i := 10) rfl))) (by decide) (StrChars.Road.backV (W := 1) hZ hws (kI := 4) (hw _ (List.mem_of_getElem? (i := 1) rfl)) (cs := (own_word v21)) (bs := (own_word v21).map (fun c => c.toInt8.toInt32)) (n := 6) g_b34 Z40 (A34.keep Kq40) (F_value_b34.keep Kq40 List.not_mem_nil) (F_coder_b34.keep Kq40 List.not_mem_nil) An40 (O2.ext ((O.ext E34).keep Kq40 all0).2) P5 ln40 rfl (by decide) (by decide) hp40 rfl (by decide) (by decide)) (g := (mkF m 43 (own_AIIIIIIIIUU p0 p1 p2 p3 v6 v14 v21 v27) [(.ref r40), (.ref b34), (.ref b34)])) rfl (by rw [hml]; rfl) (Steps.refl _) (a := b34) (argsL := [(.ref r40)]) (rest := [(.ref b34)]) (lenOf pd_0_1 rfl) rfl (by show 2 * 0 + _ ≤ _; exact Nat.le_of_eq rfl) (hb hby at_43) (fun _ _ => ⟨rfl, rfl, (by decide : 2 + 1 ≤ _), (by decide : 15 + 6 ≤ _)⟩)
      dsimp only [Pt.U, Pt.locs, Pt.cells, Pt.slots] at X43 l43 y43 z43 st43 hQ43
      subst l43 y43 z43
      obtain ⟨rfl, N43q, Kq43, Eq43, Cq43, t43, kb43, u143, u243, u343, Vq43, Aq43⟩ := hQ43
      have N43 := Fr.app N40 N43q
      have Sq43 : own_Str Z T43.heap b34 (own_word v21) := ⟨t43, kb43, 0, _, _, Eq43, Vq43, Cq43, Aq43, StrChars.Road.codOf (n := 6) ln40 (fun x hx => (hp40 x hx).2), own_up _ hp40, by rw [ln40]; decide⟩
      have fc := (An40.keep Kq43 (fun h => (Ne.symm ne_b34_r40) (List.mem_singleton.mp h)))
      have K43 : Keep h0 T43.heap [] := K40.trans Kq43 (fun x hx => by cases List.mem_singleton.mp hx; exact Or.inr sz_b34)
      have Z43 : n0 ≤ T43.heap.size := Nat.le_trans Z40 Kq43.1
      have CC43 := CHr.keep Kq43 (sfS (own_safe0 hZ.alike (A34.keep Kq40) (F_value_b34.keep Kq40 List.not_mem_nil) (hw _ (List.mem_of_getElem? (i := 1) rfl))) sf0) CC40.1
      have CR43 := CR40.trans CC43
      refine own_by (fun t k => st43.trans k) ?_
      have sg213 : ∀ t, own_S p e below T43 (mkF m 213 (own_AIIIIIIIIRU p0 p1 p2 p3 v6 v14 v21 v27 b34) [(.ref b34)]) t → own_S p e below T43 (mkF m 46 (own_AIIIIIIIIUU p0 p1 p2 p3 v6 v14 v21 v27) [(.ref b34)]) t := by
        intro t k
        show own_S p e below T43 (mkF m 46 (own_AIIIIIIIIUU p0 p1 p2 p3 v6 v14 v21 v27) [(.ref b34)]) _
        refine XS.astore X43.here hx rfl (hb hby at_46) rfl rfl (l' := (own_AIIIIIIIIRU p0 p1 p2 p3 v6 v14 v21 v27 b34)) rfl ?_
        show own_S p e below T43 (mkF m 48 (own_AIIIIIIIIRU p0 p1 p2 p3 v6 v14 v21 v27 b34) []) _
        refine XS.goto X43.here hx rfl (pc0 := 48) (pc' := 211) rfl (hb hby at_48) (by decide) (by decide) ?_
        show own_S p e below T43 (mkF m 211 (own_AIIIIIIIIRU p0 p1 p2 p3 v6 v14 v21 v27 b34) []) _
        refine XS.aload X43.here hx rfl (hb hby at_211) rfl rfl ?_
        exact k
      refine own_by sg213 ?_
      obtain ⟨_, _, ⟨T213, L213, k213, n213⟩, -, X213, ⟨Lc213, hQ213, l213, y213, z213⟩, st213⟩ := Jvm.LawKit.callS X43 hx (y := (⟨"com/example/spojka/spojka/AutowireMode", "named", "(Ljava/lang/String;)Lcom/example/spojka/spojka/AutowireMode;"⟩ : MethodName)) hown (mvT hZ (hw _ (List.mem_of_getElem? (i := 34) rfl))) (mvT hZ (hw _ (List.mem_of_getElem? (i := 35) rfl))) (mvT hZ (hw _ (List.mem_of_getElem? (i := 36) rfl))) (mvT hZ (hw _ (List.mem_of_getElem? (i := 37) rfl))) (by decide) (backOf (W := 0) (rm8 l Z a0 hw [] b34 (own_word v21) wV cl wNO wBY_NAME wBY_TYPE wCONSTRUCTOR sNO sBY_NAME sBY_TYPE sCONSTRUCTOR gz T43.heap n0 Z43 (((O.ext E34).keep Kq40 all0).keep Kq43 (allS g_b34 all0)) O2 P5 S_V Ar_V E_V FC hsz hat0 hat1 hat2 hat3 FV_NO FV_BY_NAME FV_BY_TYPE FV_CONSTRUCTOR EX_NO EX_BY_NAME EX_BY_TYPE EX_CONSTRUCTOR Str_NO Str_BY_NAME Str_BY_TYPE Str_CONSTRUCTOR Sq43) hZ (hw _ (List.mem_of_getElem? (i := 37) rfl)) (hw _ (List.mem_of_getElem? (i := 36) rfl)) (by decide) (by decide)) (g := (mkF m 213 (own_AIIIIIIIIRU p0 p1 p2 p3 v6 v14 v21 v27 b34) [(.ref b34)])) rfl (by rw [hml]; rfl) (argsL := [(.ref b34)]) (rest := []) (lenOf pd_0_2 rfl) rfl (by show 2 * 0 + _ ≤ _; exact Nat.le_of_eq rfl) (hb hby at_213) (fun _ _ => ⟨rfl, rfl, (by decide : 3 + 1 ≤ _), (by decide : 21 + 4 ≤ _)⟩)
      dsimp only [Pt.U, Pt.locs, Pt.cells, Pt.slots] at X213 l213 y213 z213 st213 hQ213
      subst l213 y213 z213
      obtain ⟨rfl, N213q, Kq213⟩ := hQ213
      have N213 := Fr.app N43 N213q
      have K213 : Keep h0 T213.heap [] := K43.trans Kq213 (fun x hx => nomatch hx)
      have Z213 : n0 ≤ T213.heap.size := Nat.le_trans Z43 Kq213.1
      have CC213 := CHr.keep Kq213 sf0 CC43.1
      have CR213 := CR43.trans CC213
      obtain ⟨g213, hg213⟩ : ∃ z : Value, z = (if ([(110 : Int32), (111 : Int32)] : List Int32) = (own_word v21) then Value.ref wNO else (if ([(98 : Int32), (121 : Int32), (78 : Int32), (97 : Int32), (109 : Int32), (101 : Int32)] : List Int32) = (own_word v21) then Value.ref wBY_NAME else (if ([(98 : Int32), (121 : Int32), (84 : Int32), (121 : Int32), (112 : Int32), (101 : Int32)] : List Int32) = (own_word v21) then Value.ref wBY_TYPE else (if ([(99 : Int32), (111 : Int32), (110 : Int32), (115 : Int32), (116 : Int32), (114 : Int32), (117 : Int32), (99 : Int32), (116 : Int32), (111 : Int32), (114 : Int32)] : List Int32) = (own_word v21) then Value.ref wCONSTRUCTOR else Value.null)))) := ⟨_, rfl⟩
      rw [← hg213] at st213
      have hgr213 : g213.isRef = true := by rw [hg213]; repeat' (first | rfl | (refine own_isr rfl ?_))
      refine own_by st213 ?_
      have sg222 : ∀ t, own_S p e below T213 (mkF m 222 (own_AIIIIIIIIRV p0 p1 p2 p3 v6 v14 v21 v27 b34 g213) [(.ref b34), g213]) t → own_S p e below T213 (mkF m 216 (own_AIIIIIIIIRU p0 p1 p2 p3 v6 v14 v21 v27 b34) [g213]) t := by
        intro t k
        show own_S p e below T213 (mkF m 216 (own_AIIIIIIIIRU p0 p1 p2 p3 v6 v14 v21 v27 b34) [g213]) _
        refine XS.astore X213.here hx rfl (hb hby at_216) rfl hgr213 (l' := (own_AIIIIIIIIRV p0 p1 p2 p3 v6 v14 v21 v27 b34 g213)) (by simp [storeLocals, storeSelf, setAt, own_cat1 hgr213, own_catr, own_catn]) ?_
        show own_S p e below T213 (mkF m 218 (own_AIIIIIIIIRV p0 p1 p2 p3 v6 v14 v21 v27 b34 g213) []) _
        refine XS.aload X213.here hx rfl (hb hby at_218) rfl hgr213 ?_
        show own_S p e below T213 (mkF m 220 (own_AIIIIIIIIRV p0 p1 p2 p3 v6 v14 v21 v27 b34 g213) [g213]) _
        refine XS.aload X213.here hx rfl (hb hby at_220) rfl rfl ?_
        exact k
      refine own_by sg222 ?_
      obtain ⟨_, _, ⟨T222, L222, k222, n222⟩, -, Xc222, hSc222, hgc222, ⟨Lc222, hQ222, l222, y222, z222, hC222⟩, st222⟩ := callSS X213 hx (y := (⟨"com/example/spojka/spojka/AutowireModeNamedPinLaw", "expected", "(Ljava/lang/String;)Lcom/example/spojka/spojka/AutowireMode;"⟩ : MethodName)) hown (mvT hZ (hw _ (List.mem_of_getElem? (i := 69) rfl))) (mvT hZ (hw _ (List.mem_of_getElem? (i := 70) rfl))) (mvT hZ (hw _ (List.mem_of_getElem? (i := 5) rfl))) (mvT hZ (hw _ (List.mem_of_getElem? (i := 71) rfl))) (by decide) (backOfSH (W := 1) (rm12 l Z a0 hw [] b34 (own_word v21) wNO wBY_NAME wBY_TYPE wCONSTRUCTOR gz T213.heap n0 Z213 ((((O.ext E34).keep Kq40 all0).keep Kq43 (allS g_b34 all0)).keep Kq213 all0) O2 P5 (Sq43.ext (own_kx Kq213)) S_NO S_BY_NAME S_BY_TYPE S_CONSTRUCTOR) hZ (hw _ (List.mem_of_getElem? (i := 71) rfl)) (hw _ (List.mem_of_getElem? (i := 5) rfl)) (by decide) (by decide) hEL CC213.1) (g := (mkF m 222 (own_AIIIIIIIIRV p0 p1 p2 p3 v6 v14 v21 v27 b34 g213) [(.ref b34), g213])) rfl (by rw [hml]; rfl) (argsL := [(.ref b34)]) (rest := [g213]) (lenOf pd_0_2 rfl) rfl (by show 2 * 0 + (List.map (fun v => Value.category v) [g213]).sum ≤ 1; simp [own_cat1 hgr213, own_catr, own_catn]) (hb hby at_222) (fun _ _ => ⟨rfl, rfl, (by decide : 4 + 8 ≤ _), (by decide : 25 + 116 ≤ _)⟩)
      dsimp only [Pt.U, Pt.locs, Pt.cells, Pt.slots] at Xc222 hSc222 hgc222
      obtain ⟨X222, hS222, hZ222, hown222⟩ := rebS hS0 (Nat.le_trans (Nat.le_trans (Nat.le_trans (Nat.le_trans (Nat.zero_le _) E34.1) Kq40.1) Kq43.1) Kq213.1) Xc222 hSc222 hgc222 hZ hown
      dsimp only [Pt.U, Pt.locs, Pt.cells, Pt.slots] at X222 l222 y222 z222 st222 hQ222
      subst l222 y222 z222
      obtain ⟨rfl, N222q, Kq222⟩ := hQ222
      have N222 := Fr.app N213 N222q
      have fc_2 := ((fc.keep Kq213 List.not_mem_nil).keep Kq222 List.not_mem_nil)
      have K222 : Keep h0 T222.heap [] := K213.trans Kq222 (fun x hx => nomatch hx)
      have Z222 : n0 ≤ T222.heap.size := Nat.le_trans Z213 Kq222.1
      rw [← hg213] at st222
      have CR222 := CR213.trans hC222
      refine own_by (fun t k => st222.trans k) ?_
      have sg233 : ∀ t, own_S p e below T222 (mkF m 233 (own_AIIIIIIIIRV p0 p1 p2 p3 v6 v14 v21 v27 b34 g213) [(.int (1 : Int32))]) t → own_S p e below T222 (mkF m 225 (own_AIIIIIIIIRV p0 p1 p2 p3 v6 v14 v21 v27 b34 g213) [g213, g213]) t := by
        intro t k
        show own_S p e below T222 (mkF m 225 (own_AIIIIIIIIRV p0 p1 p2 p3 v6 v14 v21 v27 b34 g213) [g213, g213]) _
        refine Jvm.RoadKit.acmp (g := (mkF m 225 (own_AIIIIIIIIRV p0 p1 p2 p3 v6 v14 v21 v27 b34 g213) [g213, g213])) X222 hx rfl hgr213 hgr213 (pc0 := 225) (pc' := 228) (same := true) rfl (hb hby at_225) rfl (decide_eq_true (rfl : (g213 : Value) = g213)) (by decide) (by decide) ?_
        show own_S p e below T222 (mkF m 228 (own_AIIIIIIIIRV p0 p1 p2 p3 v6 v14 v21 v27 b34 g213) []) _
        refine XS.iconst X222.here hx rfl (hb hby at_228) ?_
        show own_S p e below T222 (mkF m 229 (own_AIIIIIIIIRV p0 p1 p2 p3 v6 v14 v21 v27 b34 g213) [(.int (1 : Int32))]) _
        refine XS.goto X222.here hx rfl (pc0 := 229) (pc' := 233) rfl (hb hby at_229) (by decide) (by decide) ?_
        exact k
      refine own_by sg233 ?_
      obtain ⟨fs, hr, hrun, hended, hW⟩ := X222.leaveW hS222 (Nat.le_refl _) (v := some (.int (1 : Int32))) (fun h => by rw [Bd.returns] at h; cases h)
      refine ⟨_, _, ?_, hrun, hended, _, _, rfl, ?_, (by rw [hh]; show CHr Z consts_1 s.vm h0 T222.vm T222.heap; exact CR222.trans (CHv.at X222 hZ222 hEL hC222.1)), hW.1, hW.2.1, hW.2.2.1, hW.2.2.2.mono (by decide) (by decide)⟩
      · exact retN X222 hx (t := .boolean) Bd.returns (by simp) (hb hby at_233) hr
      · show Q0 Z p0 p1 p2 p3 wV cl wNO wBY_NAME wBY_TYPE wCONSTRUCTOR sNO sBY_NAME sBY_TYPE sCONSTRUCTOR gz h0 n0 _ T222.heap _
        exact ⟨rfl, N222⟩
    · have sg40 : ∀ t, own_S p e below T34 (mkF m 40 (own_AIIIIIIIIUU p0 p1 p2 p3 v6 v14 v21 v27) [(.int v21), (.ref b34), (.ref b34)]) t → own_S p e below T34 (mkF m 38 (own_AIIIIIIIIUU p0 p1 p2 p3 v6 v14 v21 v27) [(.ref b34), (.ref b34)]) t := by
        intro t k
        show own_S p e below T34 (mkF m 38 (own_AIIIIIIIIUU p0 p1 p2 p3 v6 v14 v21 v27) [(.ref b34), (.ref b34)]) _
        refine XS.iload X34.here hx rfl (hb hby at_38) rfl ?_
        exact k
      refine own_by sg40 ?_
      obtain ⟨_, _, ⟨T40, L40, k40, n40⟩, -, X40, ⟨Lc40, hQ40, l40, y40, z40⟩, st40⟩ := Jvm.LawKit.callS X34 hx (y := (⟨"com/example/spojka/spojka/AutowireModeNamedPinLaw", "word", "(I)[C"⟩ : MethodName)) hown (mvT hZ (hw _ (List.mem_of_getElem? (i := 3) rfl))) (mvT hZ (hw _ (List.mem_of_getElem? (i := 4) rfl))) (mvT hZ (hw _ (List.mem_of_getElem? (i := 5) rfl))) (mvT hZ (hw _ (List.mem_of_getElem? (i := 6) rfl))) (by decide) (backOf (W := 2) (rm1 l Z a0 hw [] v21 h34 n0 Z34 ) hZ (hw _ (List.mem_of_getElem? (i := 6) rfl)) (hw _ (List.mem_of_getElem? (i := 5) rfl)) (by decide) (by decide)) (g := (mkF m 40 (own_AIIIIIIIIUU p0 p1 p2 p3 v6 v14 v21 v27) [(.int v21), (.ref b34), (.ref b34)])) rfl (by rw [hml]; rfl) (argsL := [(.int v21)]) (rest := [(.ref b34), (.ref b34)]) (lenOf pd_0_0 rfl) rfl (by show 2 * 0 + _ ≤ _; exact Nat.le_of_eq rfl) (hb hby at_40) (fun _ _ => ⟨rfl, e34, (by decide : 1 + 1 ≤ _), (by decide : 4 + 11 ≤ _)⟩)
      dsimp only [Pt.U, Pt.locs, Pt.cells, Pt.slots] at X40 l40 y40 z40 st40 hQ40
      subst l40 y40 z40
      obtain ⟨r40, kc40, rfl, ge40, N40q, Kq40, Aq40⟩ := hQ40
      have N40 := Fr.app N0 N40q
      have ln40 : (own_word v21).length = 6 := (by rw [hi2]; rfl)
      rw [ln40] at Aq40
      have An40 : Arv Z T40.heap r40 kc40 .char (6 : Int32) ((own_word v21).map Value.int) (.int (0 : Int32)) := Aq40
      have hp40 : ∀ c ∈ (own_word v21), ¬ c < 0 ∧ ¬ (255 : Int32) < c := own_word_hp _
      have ne_b34_r40 : b34 ≠ r40 := Nat.ne_of_lt (Nat.lt_of_lt_of_le A34.lt ge40)
      have g_r40 : n0 ≤ r40 := Nat.le_trans Z34 ge40
      have sz_r40 : h0.size ≤ r40 := Nat.le_trans K34.1 ge40
      have K40 : Keep h0 T40.heap [] := K34.trans Kq40 (fun x hx => nomatch hx)
      have Z40 : n0 ≤ T40.heap.size := Nat.le_trans Z34 Kq40.1
      have CC40 := CHr.keep Kq40 sf0 CC34.1
      have CR40 := CR34.trans CC40
      refine own_by st40 ?_
      obtain ⟨_, _, ⟨T43, L43, k43, n43⟩, -, X43, ⟨Lc43, hQ43, l43, y43, z43⟩, st43⟩ := X40.specialBack hx (y := (⟨"java/lang/String", "<init>", "([C)V"⟩ : MethodName)) rfl hown (mvT hZ (hw _ (List.mem_of_getElem? (i := 8) rfl))) (mvT hZ (hw _ (List.mem_of_getElem? (i := 9) rfl))) (mvT hZ (hw _ (List.mem_of_getElem? (i := 10) rfl))) (by decide) (StrChars.Road.backV (W := 1) hZ hws (kI := 4) (hw _ (List.mem_of_getElem? (i := 1) rfl)) (cs := (own_word v21)) (bs := (own_word v21).map (fun c => c.toInt8.toInt32)) (n := 6) g_b34 Z40 (A34.keep Kq40) (F_value_b34.keep Kq40 List.not_mem_nil) (F_coder_b34.keep Kq40 List.not_mem_nil) An40 (O2.ext ((O.ext E34).keep Kq40 all0).2) P5 ln40 rfl (by decide) (by decide) hp40 rfl (by decide) (by decide)) (g := (mkF m 43 (own_AIIIIIIIIUU p0 p1 p2 p3 v6 v14 v21 v27) [(.ref r40), (.ref b34), (.ref b34)])) rfl (by rw [hml]; rfl) (Steps.refl _) (a := b34) (argsL := [(.ref r40)]) (rest := [(.ref b34)]) (lenOf pd_0_1 rfl) rfl (by show 2 * 0 + _ ≤ _; exact Nat.le_of_eq rfl) (hb hby at_43) (fun _ _ => ⟨rfl, rfl, (by decide : 2 + 1 ≤ _), (by decide : 15 + 6 ≤ _)⟩)
      dsimp only [Pt.U, Pt.locs, Pt.cells, Pt.slots] at X43 l43 y43 z43 st43 hQ43
      subst l43 y43 z43
      obtain ⟨rfl, N43q, Kq43, Eq43, Cq43, t43, kb43, u143, u243, u343, Vq43, Aq43⟩ := hQ43
      have N43 := Fr.app N40 N43q
      have Sq43 : own_Str Z T43.heap b34 (own_word v21) := ⟨t43, kb43, 0, _, _, Eq43, Vq43, Cq43, Aq43, StrChars.Road.codOf (n := 6) ln40 (fun x hx => (hp40 x hx).2), own_up _ hp40, by rw [ln40]; decide⟩
      have fc := (An40.keep Kq43 (fun h => (Ne.symm ne_b34_r40) (List.mem_singleton.mp h)))
      have K43 : Keep h0 T43.heap [] := K40.trans Kq43 (fun x hx => by cases List.mem_singleton.mp hx; exact Or.inr sz_b34)
      have Z43 : n0 ≤ T43.heap.size := Nat.le_trans Z40 Kq43.1
      have CC43 := CHr.keep Kq43 (sfS (own_safe0 hZ.alike (A34.keep Kq40) (F_value_b34.keep Kq40 List.not_mem_nil) (hw _ (List.mem_of_getElem? (i := 1) rfl))) sf0) CC40.1
      have CR43 := CR40.trans CC43
      refine own_by (fun t k => st43.trans k) ?_
      have sg213 : ∀ t, own_S p e below T43 (mkF m 213 (own_AIIIIIIIIRU p0 p1 p2 p3 v6 v14 v21 v27 b34) [(.ref b34)]) t → own_S p e below T43 (mkF m 46 (own_AIIIIIIIIUU p0 p1 p2 p3 v6 v14 v21 v27) [(.ref b34)]) t := by
        intro t k
        show own_S p e below T43 (mkF m 46 (own_AIIIIIIIIUU p0 p1 p2 p3 v6 v14 v21 v27) [(.ref b34)]) _
        refine XS.astore X43.here hx rfl (hb hby at_46) rfl rfl (l' := (own_AIIIIIIIIRU p0 p1 p2 p3 v6 v14 v21 v27 b34)) rfl ?_
        show own_S p e below T43 (mkF m 48 (own_AIIIIIIIIRU p0 p1 p2 p3 v6 v14 v21 v27 b34) []) _
        refine XS.goto X43.here hx rfl (pc0 := 48) (pc' := 211) rfl (hb hby at_48) (by decide) (by decide) ?_
        show own_S p e below T43 (mkF m 211 (own_AIIIIIIIIRU p0 p1 p2 p3 v6 v14 v21 v27 b34) []) _
        refine XS.aload X43.here hx rfl (hb hby at_211) rfl rfl ?_
        exact k
      refine own_by sg213 ?_
      obtain ⟨_, _, ⟨T213, L213, k213, n213⟩, -, X213, ⟨Lc213, hQ213, l213, y213, z213⟩, st213⟩ := Jvm.LawKit.callS X43 hx (y := (⟨"com/example/spojka/spojka/AutowireMode", "named", "(Ljava/lang/String;)Lcom/example/spojka/spojka/AutowireMode;"⟩ : MethodName)) hown (mvT hZ (hw _ (List.mem_of_getElem? (i := 34) rfl))) (mvT hZ (hw _ (List.mem_of_getElem? (i := 35) rfl))) (mvT hZ (hw _ (List.mem_of_getElem? (i := 36) rfl))) (mvT hZ (hw _ (List.mem_of_getElem? (i := 37) rfl))) (by decide) (backOf (W := 0) (rm8 l Z a0 hw [] b34 (own_word v21) wV cl wNO wBY_NAME wBY_TYPE wCONSTRUCTOR sNO sBY_NAME sBY_TYPE sCONSTRUCTOR gz T43.heap n0 Z43 (((O.ext E34).keep Kq40 all0).keep Kq43 (allS g_b34 all0)) O2 P5 S_V Ar_V E_V FC hsz hat0 hat1 hat2 hat3 FV_NO FV_BY_NAME FV_BY_TYPE FV_CONSTRUCTOR EX_NO EX_BY_NAME EX_BY_TYPE EX_CONSTRUCTOR Str_NO Str_BY_NAME Str_BY_TYPE Str_CONSTRUCTOR Sq43) hZ (hw _ (List.mem_of_getElem? (i := 37) rfl)) (hw _ (List.mem_of_getElem? (i := 36) rfl)) (by decide) (by decide)) (g := (mkF m 213 (own_AIIIIIIIIRU p0 p1 p2 p3 v6 v14 v21 v27 b34) [(.ref b34)])) rfl (by rw [hml]; rfl) (argsL := [(.ref b34)]) (rest := []) (lenOf pd_0_2 rfl) rfl (by show 2 * 0 + _ ≤ _; exact Nat.le_of_eq rfl) (hb hby at_213) (fun _ _ => ⟨rfl, rfl, (by decide : 3 + 1 ≤ _), (by decide : 21 + 4 ≤ _)⟩)
      dsimp only [Pt.U, Pt.locs, Pt.cells, Pt.slots] at X213 l213 y213 z213 st213 hQ213
      subst l213 y213 z213
      obtain ⟨rfl, N213q, Kq213⟩ := hQ213
      have N213 := Fr.app N43 N213q
      have K213 : Keep h0 T213.heap [] := K43.trans Kq213 (fun x hx => nomatch hx)
      have Z213 : n0 ≤ T213.heap.size := Nat.le_trans Z43 Kq213.1
      have CC213 := CHr.keep Kq213 sf0 CC43.1
      have CR213 := CR43.trans CC213
      obtain ⟨g213, hg213⟩ : ∃ z : Value, z = (if ([(110 : Int32), (111 : Int32)] : List Int32) = (own_word v21) then Value.ref wNO else (if ([(98 : Int32), (121 : Int32), (78 : Int32), (97 : Int32), (109 : Int32), (101 : Int32)] : List Int32) = (own_word v21) then Value.ref wBY_NAME else (if ([(98 : Int32), (121 : Int32), (84 : Int32), (121 : Int32), (112 : Int32), (101 : Int32)] : List Int32) = (own_word v21) then Value.ref wBY_TYPE else (if ([(99 : Int32), (111 : Int32), (110 : Int32), (115 : Int32), (116 : Int32), (114 : Int32), (117 : Int32), (99 : Int32), (116 : Int32), (111 : Int32), (114 : Int32)] : List Int32) = (own_word v21) then Value.ref wCONSTRUCTOR else Value.null)))) := ⟨_, rfl⟩
      rw [← hg213] at st213
      have hgr213 : g213.isRef = true := by rw [hg213]; repeat' (first | rfl | (refine own_isr rfl ?_))
      refine own_by st213 ?_
      have sg222 : ∀ t, own_S p e below T213 (mkF m 222 (own_AIIIIIIIIRV p0 p1 p2 p3 v6 v14 v21 v27 b34 g213) [(.ref b34), g213]) t → own_S p e below T213 (mkF m 216 (own_AIIIIIIIIRU p0 p1 p2 p3 v6 v14 v21 v27 b34) [g213]) t := by
        intro t k
        show own_S p e below T213 (mkF m 216 (own_AIIIIIIIIRU p0 p1 p2 p3 v6 v14 v21 v27 b34) [g213]) _
        refine XS.astore X213.here hx rfl (hb hby at_216) rfl hgr213 (l' := (own_AIIIIIIIIRV p0 p1 p2 p3 v6 v14 v21 v27 b34 g213)) (by simp [storeLocals, storeSelf, setAt, own_cat1 hgr213, own_catr, own_catn]) ?_
        show own_S p e below T213 (mkF m 218 (own_AIIIIIIIIRV p0 p1 p2 p3 v6 v14 v21 v27 b34 g213) []) _
        refine XS.aload X213.here hx rfl (hb hby at_218) rfl hgr213 ?_
        show own_S p e below T213 (mkF m 220 (own_AIIIIIIIIRV p0 p1 p2 p3 v6 v14 v21 v27 b34 g213) [g213]) _
        refine XS.aload X213.here hx rfl (hb hby at_220) rfl rfl ?_
        exact k
      refine own_by sg222 ?_
      obtain ⟨_, _, ⟨T222, L222, k222, n222⟩, -, Xc222, hSc222, hgc222, ⟨Lc222, hQ222, l222, y222, z222, hC222⟩, st222⟩ := callSS X213 hx (y := (⟨"com/example/spojka/spojka/AutowireModeNamedPinLaw", "expected", "(Ljava/lang/String;)Lcom/example/spojka/spojka/AutowireMode;"⟩ : MethodName)) hown (mvT hZ (hw _ (List.mem_of_getElem? (i := 69) rfl))) (mvT hZ (hw _ (List.mem_of_getElem? (i := 70) rfl))) (mvT hZ (hw _ (List.mem_of_getElem? (i := 5) rfl))) (mvT hZ (hw _ (List.mem_of_getElem? (i := 71) rfl))) (by decide) (backOfSH (W := 1) (rm12 l Z a0 hw [] b34 (own_word v21) wNO wBY_NAME wBY_TYPE wCONSTRUCTOR gz T213.heap n0 Z213 ((((O.ext E34).keep Kq40 all0).keep Kq43 (allS g_b34 all0)).keep Kq213 all0) O2 P5 (Sq43.ext (own_kx Kq213)) S_NO S_BY_NAME S_BY_TYPE S_CONSTRUCTOR) hZ (hw _ (List.mem_of_getElem? (i := 71) rfl)) (hw _ (List.mem_of_getElem? (i := 5) rfl)) (by decide) (by decide) hEL CC213.1) (g := (mkF m 222 (own_AIIIIIIIIRV p0 p1 p2 p3 v6 v14 v21 v27 b34 g213) [(.ref b34), g213])) rfl (by rw [hml]; rfl) (argsL := [(.ref b34)]) (rest := [g213]) (lenOf pd_0_2 rfl) rfl (by show 2 * 0 + (List.map (fun v => Value.category v) [g213]).sum ≤ 1; simp [own_cat1 hgr213, own_catr, own_catn]) (hb hby at_222) (fun _ _ => ⟨rfl, rfl, (by decide : 4 + 8 ≤ _), (by decide : 25 + 116 ≤ _)⟩)
      dsimp only [Pt.U, Pt.locs, Pt.cells, Pt.slots] at Xc222 hSc222 hgc222
      obtain ⟨X222, hS222, hZ222, hown222⟩ := rebS hS0 (Nat.le_trans (Nat.le_trans (Nat.le_trans (Nat.le_trans (Nat.zero_le _) E34.1) Kq40.1) Kq43.1) Kq213.1) Xc222 hSc222 hgc222 hZ hown
      dsimp only [Pt.U, Pt.locs, Pt.cells, Pt.slots] at X222 l222 y222 z222 st222 hQ222
      subst l222 y222 z222
      obtain ⟨rfl, N222q, Kq222⟩ := hQ222
      have N222 := Fr.app N213 N222q
      have fc_2 := ((fc.keep Kq213 List.not_mem_nil).keep Kq222 List.not_mem_nil)
      have K222 : Keep h0 T222.heap [] := K213.trans Kq222 (fun x hx => nomatch hx)
      have Z222 : n0 ≤ T222.heap.size := Nat.le_trans Z213 Kq222.1
      rw [← hg213] at st222
      have CR222 := CR213.trans hC222
      refine own_by (fun t k => st222.trans k) ?_
      have sg233 : ∀ t, own_S p e below T222 (mkF m 233 (own_AIIIIIIIIRV p0 p1 p2 p3 v6 v14 v21 v27 b34 g213) [(.int (1 : Int32))]) t → own_S p e below T222 (mkF m 225 (own_AIIIIIIIIRV p0 p1 p2 p3 v6 v14 v21 v27 b34 g213) [g213, g213]) t := by
        intro t k
        show own_S p e below T222 (mkF m 225 (own_AIIIIIIIIRV p0 p1 p2 p3 v6 v14 v21 v27 b34 g213) [g213, g213]) _
        refine Jvm.RoadKit.acmp (g := (mkF m 225 (own_AIIIIIIIIRV p0 p1 p2 p3 v6 v14 v21 v27 b34 g213) [g213, g213])) X222 hx rfl hgr213 hgr213 (pc0 := 225) (pc' := 228) (same := true) rfl (hb hby at_225) rfl (decide_eq_true (rfl : (g213 : Value) = g213)) (by decide) (by decide) ?_
        show own_S p e below T222 (mkF m 228 (own_AIIIIIIIIRV p0 p1 p2 p3 v6 v14 v21 v27 b34 g213) []) _
        refine XS.iconst X222.here hx rfl (hb hby at_228) ?_
        show own_S p e below T222 (mkF m 229 (own_AIIIIIIIIRV p0 p1 p2 p3 v6 v14 v21 v27 b34 g213) [(.int (1 : Int32))]) _
        refine XS.goto X222.here hx rfl (pc0 := 229) (pc' := 233) rfl (hb hby at_229) (by decide) (by decide) ?_
        exact k
      refine own_by sg233 ?_
      obtain ⟨fs, hr, hrun, hended, hW⟩ := X222.leaveW hS222 (Nat.le_refl _) (v := some (.int (1 : Int32))) (fun h => by rw [Bd.returns] at h; cases h)
      refine ⟨_, _, ?_, hrun, hended, _, _, rfl, ?_, (by rw [hh]; show CHr Z consts_1 s.vm h0 T222.vm T222.heap; exact CR222.trans (CHv.at X222 hZ222 hEL hC222.1)), hW.1, hW.2.1, hW.2.2.1, hW.2.2.2.mono (by decide) (by decide)⟩
      · exact retN X222 hx (t := .boolean) Bd.returns (by simp) (hb hby at_233) hr
      · show Q0 Z p0 p1 p2 p3 wV cl wNO wBY_NAME wBY_TYPE wCONSTRUCTOR sNO sBY_NAME sBY_TYPE sCONSTRUCTOR gz h0 n0 _ T222.heap _
        exact ⟨rfl, N222⟩
    · have sg40 : ∀ t, own_S p e below T34 (mkF m 40 (own_AIIIIIIIIUU p0 p1 p2 p3 v6 v14 v21 v27) [(.int v21), (.ref b34), (.ref b34)]) t → own_S p e below T34 (mkF m 38 (own_AIIIIIIIIUU p0 p1 p2 p3 v6 v14 v21 v27) [(.ref b34), (.ref b34)]) t := by
        intro t k
        show own_S p e below T34 (mkF m 38 (own_AIIIIIIIIUU p0 p1 p2 p3 v6 v14 v21 v27) [(.ref b34), (.ref b34)]) _
        refine XS.iload X34.here hx rfl (hb hby at_38) rfl ?_
        exact k
      refine own_by sg40 ?_
      obtain ⟨_, _, ⟨T40, L40, k40, n40⟩, -, X40, ⟨Lc40, hQ40, l40, y40, z40⟩, st40⟩ := Jvm.LawKit.callS X34 hx (y := (⟨"com/example/spojka/spojka/AutowireModeNamedPinLaw", "word", "(I)[C"⟩ : MethodName)) hown (mvT hZ (hw _ (List.mem_of_getElem? (i := 3) rfl))) (mvT hZ (hw _ (List.mem_of_getElem? (i := 4) rfl))) (mvT hZ (hw _ (List.mem_of_getElem? (i := 5) rfl))) (mvT hZ (hw _ (List.mem_of_getElem? (i := 6) rfl))) (by decide) (backOf (W := 2) (rm1 l Z a0 hw [] v21 h34 n0 Z34 ) hZ (hw _ (List.mem_of_getElem? (i := 6) rfl)) (hw _ (List.mem_of_getElem? (i := 5) rfl)) (by decide) (by decide)) (g := (mkF m 40 (own_AIIIIIIIIUU p0 p1 p2 p3 v6 v14 v21 v27) [(.int v21), (.ref b34), (.ref b34)])) rfl (by rw [hml]; rfl) (argsL := [(.int v21)]) (rest := [(.ref b34), (.ref b34)]) (lenOf pd_0_0 rfl) rfl (by show 2 * 0 + _ ≤ _; exact Nat.le_of_eq rfl) (hb hby at_40) (fun _ _ => ⟨rfl, e34, (by decide : 1 + 1 ≤ _), (by decide : 4 + 11 ≤ _)⟩)
      dsimp only [Pt.U, Pt.locs, Pt.cells, Pt.slots] at X40 l40 y40 z40 st40 hQ40
      subst l40 y40 z40
      obtain ⟨r40, kc40, rfl, ge40, N40q, Kq40, Aq40⟩ := hQ40
      have N40 := Fr.app N0 N40q
      have ln40 : (own_word v21).length = 11 := (by rw [hi3]; rfl)
      rw [ln40] at Aq40
      have An40 : Arv Z T40.heap r40 kc40 .char (11 : Int32) ((own_word v21).map Value.int) (.int (0 : Int32)) := Aq40
      have hp40 : ∀ c ∈ (own_word v21), ¬ c < 0 ∧ ¬ (255 : Int32) < c := own_word_hp _
      have ne_b34_r40 : b34 ≠ r40 := Nat.ne_of_lt (Nat.lt_of_lt_of_le A34.lt ge40)
      have g_r40 : n0 ≤ r40 := Nat.le_trans Z34 ge40
      have sz_r40 : h0.size ≤ r40 := Nat.le_trans K34.1 ge40
      have K40 : Keep h0 T40.heap [] := K34.trans Kq40 (fun x hx => nomatch hx)
      have Z40 : n0 ≤ T40.heap.size := Nat.le_trans Z34 Kq40.1
      have CC40 := CHr.keep Kq40 sf0 CC34.1
      have CR40 := CR34.trans CC40
      refine own_by st40 ?_
      obtain ⟨_, _, ⟨T43, L43, k43, n43⟩, -, X43, ⟨Lc43, hQ43, l43, y43, z43⟩, st43⟩ := X40.specialBack hx (y := (⟨"java/lang/String", "<init>", "([C)V"⟩ : MethodName)) rfl hown (mvT hZ (hw _ (List.mem_of_getElem? (i := 8) rfl))) (mvT hZ (hw _ (List.mem_of_getElem? (i := 9) rfl))) (mvT hZ (hw _ (List.mem_of_getElem? (i := 10) rfl))) (by decide) (StrChars.Road.backV (W := 1) hZ hws (kI := 4) (hw _ (List.mem_of_getElem? (i := 1) rfl)) (cs := (own_word v21)) (bs := (own_word v21).map (fun c => c.toInt8.toInt32)) (n := 11) g_b34 Z40 (A34.keep Kq40) (F_value_b34.keep Kq40 List.not_mem_nil) (F_coder_b34.keep Kq40 List.not_mem_nil) An40 (O2.ext ((O.ext E34).keep Kq40 all0).2) P5 ln40 rfl (by decide) (by decide) hp40 rfl (by decide) (by decide)) (g := (mkF m 43 (own_AIIIIIIIIUU p0 p1 p2 p3 v6 v14 v21 v27) [(.ref r40), (.ref b34), (.ref b34)])) rfl (by rw [hml]; rfl) (Steps.refl _) (a := b34) (argsL := [(.ref r40)]) (rest := [(.ref b34)]) (lenOf pd_0_1 rfl) rfl (by show 2 * 0 + _ ≤ _; exact Nat.le_of_eq rfl) (hb hby at_43) (fun _ _ => ⟨rfl, rfl, (by decide : 2 + 1 ≤ _), (by decide : 15 + 11 ≤ _)⟩)
      dsimp only [Pt.U, Pt.locs, Pt.cells, Pt.slots] at X43 l43 y43 z43 st43 hQ43
      subst l43 y43 z43
      obtain ⟨rfl, N43q, Kq43, Eq43, Cq43, t43, kb43, u143, u243, u343, Vq43, Aq43⟩ := hQ43
      have N43 := Fr.app N40 N43q
      have Sq43 : own_Str Z T43.heap b34 (own_word v21) := ⟨t43, kb43, 0, _, _, Eq43, Vq43, Cq43, Aq43, StrChars.Road.codOf (n := 11) ln40 (fun x hx => (hp40 x hx).2), own_up _ hp40, by rw [ln40]; decide⟩
      have fc := (An40.keep Kq43 (fun h => (Ne.symm ne_b34_r40) (List.mem_singleton.mp h)))
      have K43 : Keep h0 T43.heap [] := K40.trans Kq43 (fun x hx => by cases List.mem_singleton.mp hx; exact Or.inr sz_b34)
      have Z43 : n0 ≤ T43.heap.size := Nat.le_trans Z40 Kq43.1
      have CC43 := CHr.keep Kq43 (sfS (own_safe0 hZ.alike (A34.keep Kq40) (F_value_b34.keep Kq40 List.not_mem_nil) (hw _ (List.mem_of_getElem? (i := 1) rfl))) sf0) CC40.1
      have CR43 := CR40.trans CC43
      refine own_by (fun t k => st43.trans k) ?_
      have sg213 : ∀ t, own_S p e below T43 (mkF m 213 (own_AIIIIIIIIRU p0 p1 p2 p3 v6 v14 v21 v27 b34) [(.ref b34)]) t → own_S p e below T43 (mkF m 46 (own_AIIIIIIIIUU p0 p1 p2 p3 v6 v14 v21 v27) [(.ref b34)]) t := by
        intro t k
        show own_S p e below T43 (mkF m 46 (own_AIIIIIIIIUU p0 p1 p2 p3 v6 v14 v21 v27) [(.ref b34)]) _
        refine XS.astore X43.here hx rfl (hb hby at_46) rfl rfl (l' := (own_AIIIIIIIIRU p0 p1 p2 p3 v6 v14 v21 v27 b34)) rfl ?_
        show own_S p e below T43 (mkF m 48 (own_AIIIIIIIIRU p0 p1 p2 p3 v6 v14 v21 v27 b34) []) _
        refine XS.goto X43.here hx rfl (pc0 := 48) (pc' := 211) rfl (hb hby at_48) (by decide) (by decide) ?_
        show own_S p e below T43 (mkF m 211 (own_AIIIIIIIIRU p0 p1 p2 p3 v6 v14 v21 v27 b34) []) _
        refine XS.aload X43.here hx rfl (hb hby at_211) rfl rfl ?_
        exact k
      refine own_by sg213 ?_
      obtain ⟨_, _, ⟨T213, L213, k213, n213⟩, -, X213, ⟨Lc213, hQ213, l213, y213, z213⟩, st213⟩ := Jvm.LawKit.callS X43 hx (y := (⟨"com/example/spojka/spojka/AutowireMode", "named", "(Ljava/lang/String;)Lcom/example/spojka/spojka/AutowireMode;"⟩ : MethodName)) hown (mvT hZ (hw _ (List.mem_of_getElem? (i := 34) rfl))) (mvT hZ (hw _ (List.mem_of_getElem? (i := 35) rfl))) (mvT hZ (hw _ (List.mem_of_getElem? (i := 36) rfl))) (mvT hZ (hw _ (List.mem_of_getElem? (i := 37) rfl))) (by decide) (backOf (W := 0) (rm8 l Z a0 hw [] b34 (own_word v21) wV cl wNO wBY_NAME wBY_TYPE wCONSTRUCTOR sNO sBY_NAME sBY_TYPE sCONSTRUCTOR gz T43.heap n0 Z43 (((O.ext E34).keep Kq40 all0).keep Kq43 (allS g_b34 all0)) O2 P5 S_V Ar_V E_V FC hsz hat0 hat1 hat2 hat3 FV_NO FV_BY_NAME FV_BY_TYPE FV_CONSTRUCTOR EX_NO EX_BY_NAME EX_BY_TYPE EX_CONSTRUCTOR Str_NO Str_BY_NAME Str_BY_TYPE Str_CONSTRUCTOR Sq43) hZ (hw _ (List.mem_of_getElem? (i := 37) rfl)) (hw _ (List.mem_of_getElem? (i := 36) rfl)) (by decide) (by decide)) (g := (mkF m 213 (own_AIIIIIIIIRU p0 p1 p2 p3 v6 v14 v21 v27 b34) [(.ref b34)])) rfl (by rw [hml]; rfl) (argsL := [(.ref b34)]) (rest := []) (lenOf pd_0_2 rfl) rfl (by show 2 * 0 + _ ≤ _; exact Nat.le_of_eq rfl) (hb hby at_213) (fun _ _ => ⟨rfl, rfl, (by decide : 3 + 1 ≤ _), (by decide : 26 + 4 ≤ _)⟩)
      dsimp only [Pt.U, Pt.locs, Pt.cells, Pt.slots] at X213 l213 y213 z213 st213 hQ213
      subst l213 y213 z213
      obtain ⟨rfl, N213q, Kq213⟩ := hQ213
      have N213 := Fr.app N43 N213q
      have K213 : Keep h0 T213.heap [] := K43.trans Kq213 (fun x hx => nomatch hx)
      have Z213 : n0 ≤ T213.heap.size := Nat.le_trans Z43 Kq213.1
      have CC213 := CHr.keep Kq213 sf0 CC43.1
      have CR213 := CR43.trans CC213
      obtain ⟨g213, hg213⟩ : ∃ z : Value, z = (if ([(110 : Int32), (111 : Int32)] : List Int32) = (own_word v21) then Value.ref wNO else (if ([(98 : Int32), (121 : Int32), (78 : Int32), (97 : Int32), (109 : Int32), (101 : Int32)] : List Int32) = (own_word v21) then Value.ref wBY_NAME else (if ([(98 : Int32), (121 : Int32), (84 : Int32), (121 : Int32), (112 : Int32), (101 : Int32)] : List Int32) = (own_word v21) then Value.ref wBY_TYPE else (if ([(99 : Int32), (111 : Int32), (110 : Int32), (115 : Int32), (116 : Int32), (114 : Int32), (117 : Int32), (99 : Int32), (116 : Int32), (111 : Int32), (114 : Int32)] : List Int32) = (own_word v21) then Value.ref wCONSTRUCTOR else Value.null)))) := ⟨_, rfl⟩
      rw [← hg213] at st213
      have hgr213 : g213.isRef = true := by rw [hg213]; repeat' (first | rfl | (refine own_isr rfl ?_))
      refine own_by st213 ?_
      have sg222 : ∀ t, own_S p e below T213 (mkF m 222 (own_AIIIIIIIIRV p0 p1 p2 p3 v6 v14 v21 v27 b34 g213) [(.ref b34), g213]) t → own_S p e below T213 (mkF m 216 (own_AIIIIIIIIRU p0 p1 p2 p3 v6 v14 v21 v27 b34) [g213]) t := by
        intro t k
        show own_S p e below T213 (mkF m 216 (own_AIIIIIIIIRU p0 p1 p2 p3 v6 v14 v21 v27 b34) [g213]) _
        refine XS.astore X213.here hx rfl (hb hby at_216) rfl hgr213 (l' := (own_AIIIIIIIIRV p0 p1 p2 p3 v6 v14 v21 v27 b34 g213)) (by simp [storeLocals, storeSelf, setAt, own_cat1 hgr213, own_catr, own_catn]) ?_
        show own_S p e below T213 (mkF m 218 (own_AIIIIIIIIRV p0 p1 p2 p3 v6 v14 v21 v27 b34 g213) []) _
        refine XS.aload X213.here hx rfl (hb hby at_218) rfl hgr213 ?_
        show own_S p e below T213 (mkF m 220 (own_AIIIIIIIIRV p0 p1 p2 p3 v6 v14 v21 v27 b34 g213) [g213]) _
        refine XS.aload X213.here hx rfl (hb hby at_220) rfl rfl ?_
        exact k
      refine own_by sg222 ?_
      obtain ⟨_, _, ⟨T222, L222, k222, n222⟩, -, Xc222, hSc222, hgc222, ⟨Lc222, hQ222, l222, y222, z222, hC222⟩, st222⟩ := callSS X213 hx (y := (⟨"com/example/spojka/spojka/AutowireModeNamedPinLaw", "expected", "(Ljava/lang/String;)Lcom/example/spojka/spojka/AutowireMode;"⟩ : MethodName)) hown (mvT hZ (hw _ (List.mem_of_getElem? (i := 69) rfl))) (mvT hZ (hw _ (List.mem_of_getElem? (i := 70) rfl))) (mvT hZ (hw _ (List.mem_of_getElem? (i := 5) rfl))) (mvT hZ (hw _ (List.mem_of_getElem? (i := 71) rfl))) (by decide) (backOfSH (W := 1) (rm12 l Z a0 hw [] b34 (own_word v21) wNO wBY_NAME wBY_TYPE wCONSTRUCTOR gz T213.heap n0 Z213 ((((O.ext E34).keep Kq40 all0).keep Kq43 (allS g_b34 all0)).keep Kq213 all0) O2 P5 (Sq43.ext (own_kx Kq213)) S_NO S_BY_NAME S_BY_TYPE S_CONSTRUCTOR) hZ (hw _ (List.mem_of_getElem? (i := 71) rfl)) (hw _ (List.mem_of_getElem? (i := 5) rfl)) (by decide) (by decide) hEL CC213.1) (g := (mkF m 222 (own_AIIIIIIIIRV p0 p1 p2 p3 v6 v14 v21 v27 b34 g213) [(.ref b34), g213])) rfl (by rw [hml]; rfl) (argsL := [(.ref b34)]) (rest := [g213]) (lenOf pd_0_2 rfl) rfl (by show 2 * 0 + (List.map (fun v => Value.category v) [g213]).sum ≤ 1; simp [own_cat1 hgr213, own_catr, own_catn]) (hb hby at_222) (fun _ _ => ⟨rfl, rfl, (by decide : 4 + 8 ≤ _), (by decide : 30 + 116 ≤ _)⟩)
      dsimp only [Pt.U, Pt.locs, Pt.cells, Pt.slots] at Xc222 hSc222 hgc222
      obtain ⟨X222, hS222, hZ222, hown222⟩ := rebS hS0 (Nat.le_trans (Nat.le_trans (Nat.le_trans (Nat.le_trans (Nat.zero_le _) E34.1) Kq40.1) Kq43.1) Kq213.1) Xc222 hSc222 hgc222 hZ hown
      dsimp only [Pt.U, Pt.locs, Pt.cells, Pt.slots] at X222 l222 y222 z222 st222 hQ222
      subst l222 y222 z222
      obtain ⟨rfl, N222q, Kq222⟩ := hQ222
      have N222 := Fr.app N213 N222q
      have fc_2 := ((fc.keep Kq213 List.not_mem_nil).keep Kq222 List.not_mem_nil)
      have K222 : Keep h0 T222.heap [] := K213.trans Kq222 (fun x hx => nomatch hx)
      have Z222 : n0 ≤ T222.heap.size := Nat.le_trans Z213 Kq222.1
      rw [← hg213] at st222
      have CR222 := CR213.trans hC222
      refine own_by (fun t k => st222.trans k) ?_
      have sg233 : ∀ t, own_S p e below T222 (mkF m 233 (own_AIIIIIIIIRV p0 p1 p2 p3 v6 v14 v21 v27 b34 g213) [(.int (1 : Int32))]) t → own_S p e below T222 (mkF m 225 (own_AIIIIIIIIRV p0 p1 p2 p3 v6 v14 v21 v27 b34 g213) [g213, g213]) t := by
        intro t k
        show own_S p e below T222 (mkF m 225 (own_AIIIIIIIIRV p0 p1 p2 p3 v6 v14 v21 v27 b34 g213) [g213, g213]) _
        refine Jvm.RoadKit.acmp (g := (mkF m 225 (own_AIIIIIIIIRV p0 p1 p2 p3 v6 v14 v21 v27 b34 g213) [g213, g213])) X222 hx rfl hgr213 hgr213 (pc0 := 225) (pc' := 228) (same := true) rfl (hb hby at_225) rfl (decide_eq_true (rfl : (g213 : Value) = g213)) (by decide) (by decide) ?_
        show own_S p e below T222 (mkF m 228 (own_AIIIIIIIIRV p0 p1 p2 p3 v6 v14 v21 v27 b34 g213) []) _
        refine XS.iconst X222.here hx rfl (hb hby at_228) ?_
        show own_S p e below T222 (mkF m 229 (own_AIIIIIIIIRV p0 p1 p2 p3 v6 v14 v21 v27 b34 g213) [(.int (1 : Int32))]) _
        refine XS.goto X222.here hx rfl (pc0 := 229) (pc' := 233) rfl (hb hby at_229) (by decide) (by decide) ?_
        exact k
      refine own_by sg233 ?_
      obtain ⟨fs, hr, hrun, hended, hW⟩ := X222.leaveW hS222 (Nat.le_refl _) (v := some (.int (1 : Int32))) (fun h => by rw [Bd.returns] at h; cases h)
      refine ⟨_, _, ?_, hrun, hended, _, _, rfl, ?_, (by rw [hh]; show CHr Z consts_1 s.vm h0 T222.vm T222.heap; exact CR222.trans (CHv.at X222 hZ222 hEL hC222.1)), hW.1, hW.2.1, hW.2.2.1, hW.2.2.2.mono (by decide) (by decide)⟩
      · exact retN X222 hx (t := .boolean) Bd.returns (by simp) (hb hby at_233) hr
      · show Q0 Z p0 p1 p2 p3 wV cl wNO wBY_NAME wBY_TYPE wCONSTRUCTOR sNO sBY_NAME sBY_TYPE sCONSTRUCTOR gz h0 n0 _ T222.heap _
        exact ⟨rfl, N222⟩
  · have sg54 : ∀ t, own_S p e below s₁ (mkF m 54 (own_AIIIIIIIIUU p0 p1 p2 p3 v6 v14 v21 v27) [(.int (1 : Int32)), (.int v27)]) t → own_S p e below s₁ (mkF m 31 (own_AIIIIIIIIUU p0 p1 p2 p3 v6 v14 v21 v27) [(.int v27)]) t := by
      intro t k
      show own_S p e below s₁ (mkF m 31 (own_AIIIIIIIIUU p0 p1 p2 p3 v6 v14 v21 v27) [(.int v27)]) _
      refine XS.ifYes X0.here hx rfl (pc0 := 31) (pc' := 51) rfl (hb hby at_31) rfl ((if0 _ _).trans (feq hc31).2) (by decide) (by decide) ?_
      show own_S p e below s₁ (mkF m 51 (own_AIIIIIIIIUU p0 p1 p2 p3 v6 v14 v21 v27) []) _
      refine XS.iload X0.here hx rfl (hb hby at_51) rfl ?_
      show own_S p e below s₁ (mkF m 53 (own_AIIIIIIIIUU p0 p1 p2 p3 v6 v14 v21 v27) [(.int v27)]) _
      refine XS.iconst X0.here hx rfl (hb hby at_53) ?_
      exact k
    refine own_by sg54 ?_
    by_cases hc54 : v27 = (1 : Int32)
    · have sg57 : ∀ t, own_S p e below s₁ (mkF m 57 (own_AIIIIIIIIUU p0 p1 p2 p3 v6 v14 v21 v27) []) t → own_S p e below s₁ (mkF m 54 (own_AIIIIIIIIUU p0 p1 p2 p3 v6 v14 v21 v27) [(.int (1 : Int32)), (.int v27)]) t := by
        intro t k
        show own_S p e below s₁ (mkF m 54 (own_AIIIIIIIIUU p0 p1 p2 p3 v6 v14 v21 v27) [(.int (1 : Int32)), (.int v27)]) _
        refine XS.icmpNo X0.here hx rfl (hb hby at_54) rfl (teq hc54).2 ?_
        exact k
      refine own_by sg57 ?_
      rcases (by rw [hv21]; exact own_and3 _ : v21 = 0 ∨ v21 = 1 ∨ v21 = 2 ∨ v21 = 3) with hi0 | hi1 | hi2 | hi3
      · have sg59 : ∀ t, own_S p e below s₁ (mkF m 59 (own_AIIIIIIIIUU p0 p1 p2 p3 v6 v14 v21 v27) [(.int v21)]) t → own_S p e below s₁ (mkF m 57 (own_AIIIIIIIIUU p0 p1 p2 p3 v6 v14 v21 v27) []) t := by
          intro t k
          show own_S p e below s₁ (mkF m 57 (own_AIIIIIIIIUU p0 p1 p2 p3 v6 v14 v21 v27) []) _
          refine XS.iload X0.here hx rfl (hb hby at_57) rfl ?_
          exact k
        refine own_by sg59 ?_
        obtain ⟨_, _, ⟨T59, L59, k59, n59⟩, -, X59, ⟨Lc59, hQ59, l59, y59, z59⟩, st59⟩ := Jvm.LawKit.callS X0 hx (y := (⟨"com/example/spojka/spojka/AutowireModeNamedPinLaw", "word", "(I)[C"⟩ : MethodName)) hown (mvT hZ (hw _ (List.mem_of_getElem? (i := 3) rfl))) (mvT hZ (hw _ (List.mem_of_getElem? (i := 4) rfl))) (mvT hZ (hw _ (List.mem_of_getElem? (i := 5) rfl))) (mvT hZ (hw _ (List.mem_of_getElem? (i := 6) rfl))) (by decide) (backOf (W := 0) (rm1 l Z a0 hw [] v21 h0 n0 Z0 ) hZ (hw _ (List.mem_of_getElem? (i := 6) rfl)) (hw _ (List.mem_of_getElem? (i := 5) rfl)) (by decide) (by decide)) (g := (mkF m 59 (own_AIIIIIIIIUU p0 p1 p2 p3 v6 v14 v21 v27) [(.int v21)])) rfl (by rw [hml]; rfl) (argsL := [(.int v21)]) (rest := []) (lenOf pd_0_0 rfl) rfl (by show 2 * 0 + _ ≤ _; exact Nat.le_of_eq rfl) (hb hby at_59) (fun _ _ => ⟨rfl, e0, (by decide : 0 + 1 ≤ _), (by decide : 0 + 11 ≤ _)⟩)
        dsimp only [Pt.U, Pt.locs, Pt.cells, Pt.slots] at X59 l59 y59 z59 st59 hQ59
        subst l59 y59 z59
        obtain ⟨r59, kc59, rfl, ge59, N59q, Kq59, Aq59⟩ := hQ59
        have N59 := Fr.app N0 N59q
        have ln59 : (own_word v21).length = 2 := (by rw [hi0]; rfl)
        rw [ln59] at Aq59
        have An59 : Arv Z T59.heap r59 kc59 .char (2 : Int32) ((own_word v21).map Value.int) (.int (0 : Int32)) := Aq59
        have hp59 : ∀ c ∈ (own_word v21), ¬ c < 0 ∧ ¬ (255 : Int32) < c := own_word_hp _
        have g_r59 : n0 ≤ r59 := Nat.le_trans Z0 ge59
        have sz_r59 : h0.size ≤ r59 := Nat.le_trans K0.1 ge59
        have K59 : Keep h0 T59.heap [] := K0.trans Kq59 (fun x hx => nomatch hx)
        have Z59 : n0 ≤ T59.heap.size := Nat.le_trans Z0 Kq59.1
        have CC59 := CHr.keep Kq59 sf0 hH0
        have CR59 := (CHr.refl hH0).trans CC59
        refine own_by st59 ?_
        have sg72 : ∀ t, own_S p e below T59 (mkF m 72 (own_AIIIIIIIIUR p0 p1 p2 p3 v6 v14 v21 v27 r59) [(.ref r59), (.int (p1 &&& (2147483647 : Int32))), (.ref r59)]) t → own_S p e below T59 (mkF m 62 (own_AIIIIIIIIUU p0 p1 p2 p3 v6 v14 v21 v27) [(.ref r59)]) t := by
          intro t k
          show own_S p e below T59 (mkF m 62 (own_AIIIIIIIIUU p0 p1 p2 p3 v6 v14 v21 v27) [(.ref r59)]) _
          refine XS.astore X59.here hx rfl (hb hby at_62) rfl rfl (l' := (own_AIIIIIIIIUR p0 p1 p2 p3 v6 v14 v21 v27 r59)) rfl ?_
          show own_S p e below T59 (mkF m 64 (own_AIIIIIIIIUR p0 p1 p2 p3 v6 v14 v21 v27 r59) []) _
          refine XS.aload X59.here hx rfl (hb hby at_64) rfl rfl ?_
          show own_S p e below T59 (mkF m 66 (own_AIIIIIIIIUR p0 p1 p2 p3 v6 v14 v21 v27 r59) [(.ref r59)]) _
          refine XS.iloadN X59.here hx rfl (hb hby at_66) rfl ?_
          show own_S p e below T59 (mkF m 67 (own_AIIIIIIIIUR p0 p1 p2 p3 v6 v14 v21 v27 r59) [(.int p1), (.ref r59)]) _
          refine X59.ldcInt hx hown (mvT hZ (hw _ (List.mem_of_getElem? (i := 84) rfl))) (g := (mkF m 67 (own_AIIIIIIIIUR p0 p1 p2 p3 v6 v14 v21 v27 r59) [(.int p1), (.ref r59)])) rfl (hb hby at_67) _ ?_
          show own_S p e below T59 (mkF m 69 (own_AIIIIIIIIUR p0 p1 p2 p3 v6 v14 v21 v27 r59) [(.int (2147483647 : Int32)), (.int p1), (.ref r59)]) _
          refine XS.iand X59.here hx rfl (hb hby at_69) rfl ?_
          show own_S p e below T59 (mkF m 70 (own_AIIIIIIIIUR p0 p1 p2 p3 v6 v14 v21 v27 r59) [(.int (p1 &&& (2147483647 : Int32))), (.ref r59)]) _
          refine XS.aload X59.here hx rfl (hb hby at_70) rfl rfl ?_
          exact k
        refine own_by sg72 ?_
        obtain ⟨clw, Arw, qaw, Saw, Naw, Haw, Gaw⟩ := id An59
        obtain ⟨j76, hj76⟩ : ∃ z : Int32, z = ((p1 &&& (2147483647 : Int32)) % (2 : Int32)) := ⟨_, rfl⟩
        have sg76 : ∀ t, own_S p e below T59 (mkF m 76 (own_AIIIIIIIIUR p0 p1 p2 p3 v6 v14 v21 v27 r59) [(.int v6), (.int j76), (.ref r59)]) t → own_S p e below T59 (mkF m 72 (own_AIIIIIIIIUR p0 p1 p2 p3 v6 v14 v21 v27 r59) [(.ref r59), (.int (p1 &&& (2147483647 : Int32))), (.ref r59)]) t := by
          intro t k
          rw [hj76] at k
          show own_S p e below T59 (mkF m 72 (own_AIIIIIIIIUR p0 p1 p2 p3 v6 v14 v21 v27 r59) [(.ref r59), (.int (p1 &&& (2147483647 : Int32))), (.ref r59)]) _
          refine X59.arraylength hx (by exact Arw.1) (State.isArrayOf_alike hZ.alike Arw.2.1) (g := (mkF m 72 (own_AIIIIIIIIUR p0 p1 p2 p3 v6 v14 v21 v27 r59) [(.ref r59), (.int (p1 &&& (2147483647 : Int32))), (.ref r59)])) rfl rfl (hb hby at_72) _ ?_
          rw [len_of Saw Naw]
          show own_S p e below T59 (mkF m 73 (own_AIIIIIIIIUR p0 p1 p2 p3 v6 v14 v21 v27 r59) [(.int (2 : Int32)), (.int (p1 &&& (2147483647 : Int32))), (.ref r59)]) _
          refine iremM X59 hx rfl (hb hby at_73) rfl (by decide) ?_
          show own_S p e below T59 (mkF m 74 (own_AIIIIIIIIUR p0 p1 p2 p3 v6 v14 v21 v27 r59) [(.int ((p1 &&& (2147483647 : Int32)) % (2 : Int32))), (.ref r59)]) _
          refine XS.iload X59.here hx rfl (hb hby at_74) rfl ?_
          exact k
        refine own_by sg76 ?_
        obtain ⟨cl76, Ar76, qa76, Sa76, Na76, Ha76, Ga76⟩ := id An59
        have jp76 : ¬ j76 < 0 ∧ j76 < (2 : Int32) := (by rw [hj76]; exact own_p2 _)
        obtain ⟨T76, h76, X76, e76, W76, st76⟩ := stC X59 hx hZ rfl Ar76 (j := j76) (inb_of Sa76 jp76) (g := (mkF m 76 (own_AIIIIIIIIUR p0 p1 p2 p3 v6 v14 v21 v27 r59) [(.int v6), (.int j76), (.ref r59)])) rfl rfl (hb hby at_76)
        have V76 : Arv Z h76 r59 kc59 .char (2 : Int32) (((own_word v21).set j76.toNatClampNeg v6).map Value.int) (.int (0 : Int32)) := by
          have q := Arv.set Ar76 qa76 Sa76 Na76 Ha76 Ga76 (fits_nar_char _) W76 j76.toNatClampNeg rfl (by rw [List.length_map, ln59]; exact own_clamp jp76 (by decide))
          rw [own_narc hk_v6] at q
          rw [List.map_set]; exact q
        have ln76 : ((own_word v21).set j76.toNatClampNeg v6).length = 2 := by rw [List.length_set]; exact ln59
        have hp76 : ∀ c ∈ ((own_word v21).set j76.toNatClampNeg v6), ¬ c < 0 ∧ ¬ (255 : Int32) < c := own_hpset hp59 hk_v6
        have K76 : Keep h0 h76 [] := K59.wr W76 (Or.inr sz_r59)
        have Z76 : n0 ≤ h76.size := Nat.le_trans Z59 (Keep.of_wr W76).1
        have CC76 := CHr.wr W76 (Safe.arv hZ.alike An59 (by decide)) CC59.1
        have CR76 := CR59.trans CC76
        have N76 := Fr.snoc X76 N59 g_r59
        refine own_by st76 ?_
        obtain ⟨T77, h77, X77, e77, E77, A77, D77, -, st77⟩ := newO X76 hx hZ hown (hw _ (List.mem_of_getElem? (i := 0) rfl)) (hw _ (List.mem_of_getElem? (i := 1) rfl)) (hw _ (List.mem_of_getElem? (i := 2) rfl)) e76 (g := (mkF m 77 (own_AIIIIIIIIUR p0 p1 p2 p3 v6 v14 v21 v27 r59) [])) rfl (hb hby at_77) (by decide) (by decide)
        obtain ⟨b77, g77⟩ : ∃ z, z = h76.size := ⟨_, rfl⟩
        rw [← g77] at A77 D77 st77
        have ne_r59_b77 : r59 ≠ b77 := Nat.ne_of_lt (Nat.lt_of_lt_of_le V76.lt (Nat.le_of_eq g77.symm))
        have g_b77 : n0 ≤ b77 := Nat.le_trans Z76 (Nat.le_of_eq g77.symm)
        have sz_b77 : h0.size ≤ b77 := Nat.le_trans K76.1 (Nat.le_of_eq g77.symm)
        have K77 := K76.ext E77
        have Z77 : n0 ≤ h77.size := Nat.le_trans Z76 E77.1
        have CC77 := CHr.ext E77 CC76.1
        have CR77 := CR76.trans CC77
        have F_coder_b77 : Fld Z h77 b77 "java/lang/String" "coder" "B" (.int (0 : Int32)) := D77 (Or.inr (hw _ (List.mem_of_getElem? (i := 31) rfl))) (ty := .byte) (by decide)
        have F_value_b77 : Fld Z h77 b77 "java/lang/String" "value" "[B" .null := D77 (Or.inr (hw _ (List.mem_of_getElem? (i := 33) rfl))) (ty := (.array .byte)) (by decide)
        refine own_by st77 ?_
        have sg83 : ∀ t, own_S p e below T77 (mkF m 83 (own_AIIIIIIIIUR p0 p1 p2 p3 v6 v14 v21 v27 r59) [(.ref r59), (.ref b77), (.ref b77)]) t → own_S p e below T77 (mkF m 80 (own_AIIIIIIIIUR p0 p1 p2 p3 v6 v14 v21 v27 r59) [(.ref b77)]) t := by
          intro t k
          show own_S p e below T77 (mkF m 80 (own_AIIIIIIIIUR p0 p1 p2 p3 v6 v14 v21 v27 r59) [(.ref b77)]) _
          refine XS.dup X77.here hx rfl (hb hby at_80) rfl rfl ?_
          show own_S p e below T77 (mkF m 81 (own_AIIIIIIIIUR p0 p1 p2 p3 v6 v14 v21 v27 r59) [(.ref b77), (.ref b77)]) _
          refine XS.aload X77.here hx rfl (hb hby at_81) rfl rfl ?_
          exact k
        refine own_by sg83 ?_
        obtain ⟨_, _, ⟨T83, L83, k83, n83⟩, -, X83, ⟨Lc83, hQ83, l83, y83, z83⟩, st83⟩ := X77.specialBack hx (y := (⟨"java/lang/String", "<init>", "([C)V"⟩ : MethodName)) rfl hown (mvT hZ (hw _ (List.mem_of_getElem? (i := 8) rfl))) (mvT hZ (hw _ (List.mem_of_getElem? (i := 9) rfl))) (mvT hZ (hw _ (List.mem_of_getElem? (i := 10) rfl))) (by decide) (StrChars.Road.backV (W := 1) hZ hws (kI := 4) (hw _ (List.mem_of_getElem? (i := 1) rfl)) (cs := ((own_word v21).set j76.toNatClampNeg v6)) (bs := ((own_word v21).set j76.toNatClampNeg v6).map (fun c => c.toInt8.toInt32)) (n := 2) g_b77 Z77 A77 F_value_b77 F_coder_b77 (V76.ext E77) (O2.ext (((O.keep Kq59 all0).wr W76 g_r59).ext E77).2) P5 ln76 rfl (by decide) (by decide) hp76 rfl (by decide) (by decide)) (g := (mkF m 83 (own_AIIIIIIIIUR p0 p1 p2 p3 v6 v14 v21 v27 r59) [(.ref r59), (.ref b77), (.ref b77)])) rfl (by rw [hml]; rfl) (Steps.refl _) (a := b77) (argsL := [(.ref r59)]) (rest := [(.ref b77)]) (lenOf pd_0_1 rfl) rfl (by show 2 * 0 + _ ≤ _; exact Nat.le_of_eq rfl) (hb hby at_83) (fun _ _ => ⟨rfl, e77, (by decide : 2 + 1 ≤ _), (by decide : 15 + 2 ≤ _)⟩)
        dsimp only [Pt.U, Pt.locs, Pt.cells, Pt.slots] at X83 l83 y83 z83 st83 hQ83
        subst l83 y83 z83
        obtain ⟨rfl, N83q, Kq83, Eq83, Cq83, t83, kb83, u183, u283, u383, Vq83, Aq83⟩ := hQ83
        have N83 := Fr.app N76 N83q
        have Sq83 : own_Str Z T83.heap b77 ((own_word v21).set j76.toNatClampNeg v6) := ⟨t83, kb83, 0, _, _, Eq83, Vq83, Cq83, Aq83, StrChars.Road.codOf (n := 2) ln76 (fun x hx => (hp76 x hx).2), own_up _ hp76, by rw [ln76]; decide⟩
        have fc := ((V76.ext E77).keep Kq83 (fun h => ne_r59_b77 (List.mem_singleton.mp h)))
        have K83 : Keep h0 T83.heap [] := K77.trans Kq83 (fun x hx => by cases List.mem_singleton.mp hx; exact Or.inr sz_b77)
        have Z83 : n0 ≤ T83.heap.size := Nat.le_trans Z77 Kq83.1
        have CC83 := CHr.keep Kq83 (sfS (own_safe0 hZ.alike A77 F_value_b77 (hw _ (List.mem_of_getElem? (i := 1) rfl))) sf0) CC77.1
        have CR83 := CR77.trans CC83
        refine own_by (fun t k => st83.trans k) ?_
        have sg213 : ∀ t, own_S p e below T83 (mkF m 213 (own_AIIIIIIIIRR p0 p1 p2 p3 v6 v14 v21 v27 b77 r59) [(.ref b77)]) t → own_S p e below T83 (mkF m 86 (own_AIIIIIIIIUR p0 p1 p2 p3 v6 v14 v21 v27 r59) [(.ref b77)]) t := by
          intro t k
          show own_S p e below T83 (mkF m 86 (own_AIIIIIIIIUR p0 p1 p2 p3 v6 v14 v21 v27 r59) [(.ref b77)]) _
          refine XS.astore X83.here hx rfl (hb hby at_86) rfl rfl (l' := (own_AIIIIIIIIRR p0 p1 p2 p3 v6 v14 v21 v27 b77 r59)) rfl ?_
          show own_S p e below T83 (mkF m 88 (own_AIIIIIIIIRR p0 p1 p2 p3 v6 v14 v21 v27 b77 r59) []) _
          refine XS.goto X83.here hx rfl (pc0 := 88) (pc' := 211) rfl (hb hby at_88) (by decide) (by decide) ?_
          show own_S p e below T83 (mkF m 211 (own_AIIIIIIIIRR p0 p1 p2 p3 v6 v14 v21 v27 b77 r59) []) _
          refine XS.aload X83.here hx rfl (hb hby at_211) rfl rfl ?_
          exact k
        refine own_by sg213 ?_
        obtain ⟨_, _, ⟨T213, L213, k213, n213⟩, -, X213, ⟨Lc213, hQ213, l213, y213, z213⟩, st213⟩ := Jvm.LawKit.callS X83 hx (y := (⟨"com/example/spojka/spojka/AutowireMode", "named", "(Ljava/lang/String;)Lcom/example/spojka/spojka/AutowireMode;"⟩ : MethodName)) hown (mvT hZ (hw _ (List.mem_of_getElem? (i := 34) rfl))) (mvT hZ (hw _ (List.mem_of_getElem? (i := 35) rfl))) (mvT hZ (hw _ (List.mem_of_getElem? (i := 36) rfl))) (mvT hZ (hw _ (List.mem_of_getElem? (i := 37) rfl))) (by decide) (backOf (W := 0) (rm8 l Z a0 hw [] b77 ((own_word v21).set j76.toNatClampNeg v6) wV cl wNO wBY_NAME wBY_TYPE wCONSTRUCTOR sNO sBY_NAME sBY_TYPE sCONSTRUCTOR gz T83.heap n0 Z83 ((((O.keep Kq59 all0).wr W76 g_r59).ext E77).keep Kq83 (allS g_b77 all0)) O2 P5 S_V Ar_V E_V FC hsz hat0 hat1 hat2 hat3 FV_NO FV_BY_NAME FV_BY_TYPE FV_CONSTRUCTOR EX_NO EX_BY_NAME EX_BY_TYPE EX_CONSTRUCTOR Str_NO Str_BY_NAME Str_BY_TYPE Str_CONSTRUCTOR Sq83) hZ (hw _ (List.mem_of_getElem? (i := 37) rfl)) (hw _ (List.mem_of_getElem? (i := 36) rfl)) (by decide) (by decide)) (g := (mkF m 213 (own_AIIIIIIIIRR p0 p1 p2 p3 v6 v14 v21 v27 b77 r59) [(.ref b77)])) rfl (by rw [hml]; rfl) (argsL := [(.ref b77)]) (rest := []) (lenOf pd_0_2 rfl) rfl (by show 2 * 0 + _ ≤ _; exact Nat.le_of_eq rfl) (hb hby at_213) (fun _ _ => ⟨rfl, rfl, (by decide : 3 + 1 ≤ _), (by decide : 17 + 4 ≤ _)⟩)
        dsimp only [Pt.U, Pt.locs, Pt.cells, Pt.slots] at X213 l213 y213 z213 st213 hQ213
        subst l213 y213 z213
        obtain ⟨rfl, N213q, Kq213⟩ := hQ213
        have N213 := Fr.app N83 N213q
        have K213 : Keep h0 T213.heap [] := K83.trans Kq213 (fun x hx => nomatch hx)
        have Z213 : n0 ≤ T213.heap.size := Nat.le_trans Z83 Kq213.1
        have CC213 := CHr.keep Kq213 sf0 CC83.1
        have CR213 := CR83.trans CC213
        obtain ⟨g213, hg213⟩ : ∃ z : Value, z = (if ([(110 : Int32), (111 : Int32)] : List Int32) = ((own_word v21).set j76.toNatClampNeg v6) then Value.ref wNO else (if ([(98 : Int32), (121 : Int32), (78 : Int32), (97 : Int32), (109 : Int32), (101 : Int32)] : List Int32) = ((own_word v21).set j76.toNatClampNeg v6) then Value.ref wBY_NAME else (if ([(98 : Int32), (121 : Int32), (84 : Int32), (121 : Int32), (112 : Int32), (101 : Int32)] : List Int32) = ((own_word v21).set j76.toNatClampNeg v6) then Value.ref wBY_TYPE else (if ([(99 : Int32), (111 : Int32), (110 : Int32), (115 : Int32), (116 : Int32), (114 : Int32), (117 : Int32), (99 : Int32), (116 : Int32), (111 : Int32), (114 : Int32)] : List Int32) = ((own_word v21).set j76.toNatClampNeg v6) then Value.ref wCONSTRUCTOR else Value.null)))) := ⟨_, rfl⟩
        rw [← hg213] at st213
        have hgr213 : g213.isRef = true := by rw [hg213]; repeat' (first | rfl | (refine own_isr rfl ?_))
        refine own_by st213 ?_
        have sg222 : ∀ t, own_S p e below T213 (mkF m 222 (own_AIIIIIIIIRV p0 p1 p2 p3 v6 v14 v21 v27 b77 g213) [(.ref b77), g213]) t → own_S p e below T213 (mkF m 216 (own_AIIIIIIIIRR p0 p1 p2 p3 v6 v14 v21 v27 b77 r59) [g213]) t := by
          intro t k
          show own_S p e below T213 (mkF m 216 (own_AIIIIIIIIRR p0 p1 p2 p3 v6 v14 v21 v27 b77 r59) [g213]) _
          refine XS.astore X213.here hx rfl (hb hby at_216) rfl hgr213 (l' := (own_AIIIIIIIIRV p0 p1 p2 p3 v6 v14 v21 v27 b77 g213)) (by simp [storeLocals, storeSelf, setAt, own_cat1 hgr213, own_catr, own_catn]) ?_
          show own_S p e below T213 (mkF m 218 (own_AIIIIIIIIRV p0 p1 p2 p3 v6 v14 v21 v27 b77 g213) []) _
          refine XS.aload X213.here hx rfl (hb hby at_218) rfl hgr213 ?_
          show own_S p e below T213 (mkF m 220 (own_AIIIIIIIIRV p0 p1 p2 p3 v6 v14 v21 v27 b77 g213) [g213]) _
          refine XS.aload X213.here hx rfl (hb hby at_220) rfl rfl ?_
          exact k
        refine own_by sg222 ?_
        obtain ⟨_, _, ⟨T222, L222, k222, n222⟩, -, Xc222, hSc222, hgc222, ⟨Lc222, hQ222, l222, y222, z222, hC222⟩, st222⟩ := callSS X213 hx (y := (⟨"com/example/spojka/spojka/AutowireModeNamedPinLaw", "expected", "(Ljava/lang/String;)Lcom/example/spojka/spojka/AutowireMode;"⟩ : MethodName)) hown (mvT hZ (hw _ (List.mem_of_getElem? (i := 69) rfl))) (mvT hZ (hw _ (List.mem_of_getElem? (i := 70) rfl))) (mvT hZ (hw _ (List.mem_of_getElem? (i := 5) rfl))) (mvT hZ (hw _ (List.mem_of_getElem? (i := 71) rfl))) (by decide) (backOfSH (W := 1) (rm12 l Z a0 hw [] b77 ((own_word v21).set j76.toNatClampNeg v6) wNO wBY_NAME wBY_TYPE wCONSTRUCTOR gz T213.heap n0 Z213 (((((O.keep Kq59 all0).wr W76 g_r59).ext E77).keep Kq83 (allS g_b77 all0)).keep Kq213 all0) O2 P5 (Sq83.ext (own_kx Kq213)) S_NO S_BY_NAME S_BY_TYPE S_CONSTRUCTOR) hZ (hw _ (List.mem_of_getElem? (i := 71) rfl)) (hw _ (List.mem_of_getElem? (i := 5) rfl)) (by decide) (by decide) hEL CC213.1) (g := (mkF m 222 (own_AIIIIIIIIRV p0 p1 p2 p3 v6 v14 v21 v27 b77 g213) [(.ref b77), g213])) rfl (by rw [hml]; rfl) (argsL := [(.ref b77)]) (rest := [g213]) (lenOf pd_0_2 rfl) rfl (by show 2 * 0 + (List.map (fun v => Value.category v) [g213]).sum ≤ 1; simp [own_cat1 hgr213, own_catr, own_catn]) (hb hby at_222) (fun _ _ => ⟨rfl, rfl, (by decide : 4 + 8 ≤ _), (by decide : 21 + 116 ≤ _)⟩)
        dsimp only [Pt.U, Pt.locs, Pt.cells, Pt.slots] at Xc222 hSc222 hgc222
        obtain ⟨X222, hS222, hZ222, hown222⟩ := rebS hS0 (Nat.le_trans (Nat.le_trans (Nat.le_trans (Nat.le_trans (Nat.le_trans (Nat.zero_le _) Kq59.1) (Keep.of_wr W76).1) E77.1) Kq83.1) Kq213.1) Xc222 hSc222 hgc222 hZ hown
        dsimp only [Pt.U, Pt.locs, Pt.cells, Pt.slots] at X222 l222 y222 z222 st222 hQ222
        subst l222 y222 z222
        obtain ⟨rfl, N222q, Kq222⟩ := hQ222
        have N222 := Fr.app N213 N222q
        have fc_2 := ((fc.keep Kq213 List.not_mem_nil).keep Kq222 List.not_mem_nil)
        have K222 : Keep h0 T222.heap [] := K213.trans Kq222 (fun x hx => nomatch hx)
        have Z222 : n0 ≤ T222.heap.size := Nat.le_trans Z213 Kq222.1
        rw [← hg213] at st222
        have CR222 := CR213.trans hC222
        refine own_by (fun t k => st222.trans k) ?_
        have sg233 : ∀ t, own_S p e below T222 (mkF m 233 (own_AIIIIIIIIRV p0 p1 p2 p3 v6 v14 v21 v27 b77 g213) [(.int (1 : Int32))]) t → own_S p e below T222 (mkF m 225 (own_AIIIIIIIIRV p0 p1 p2 p3 v6 v14 v21 v27 b77 g213) [g213, g213]) t := by
          intro t k
          show own_S p e below T222 (mkF m 225 (own_AIIIIIIIIRV p0 p1 p2 p3 v6 v14 v21 v27 b77 g213) [g213, g213]) _
          refine Jvm.RoadKit.acmp (g := (mkF m 225 (own_AIIIIIIIIRV p0 p1 p2 p3 v6 v14 v21 v27 b77 g213) [g213, g213])) X222 hx rfl hgr213 hgr213 (pc0 := 225) (pc' := 228) (same := true) rfl (hb hby at_225) rfl (decide_eq_true (rfl : (g213 : Value) = g213)) (by decide) (by decide) ?_
          show own_S p e below T222 (mkF m 228 (own_AIIIIIIIIRV p0 p1 p2 p3 v6 v14 v21 v27 b77 g213) []) _
          refine XS.iconst X222.here hx rfl (hb hby at_228) ?_
          show own_S p e below T222 (mkF m 229 (own_AIIIIIIIIRV p0 p1 p2 p3 v6 v14 v21 v27 b77 g213) [(.int (1 : Int32))]) _
          refine XS.goto X222.here hx rfl (pc0 := 229) (pc' := 233) rfl (hb hby at_229) (by decide) (by decide) ?_
          exact k
        refine own_by sg233 ?_
        obtain ⟨fs, hr, hrun, hended, hW⟩ := X222.leaveW hS222 (Nat.le_refl _) (v := some (.int (1 : Int32))) (fun h => by rw [Bd.returns] at h; cases h)
        refine ⟨_, _, ?_, hrun, hended, _, _, rfl, ?_, (by rw [hh]; show CHr Z consts_1 s.vm h0 T222.vm T222.heap; exact CR222.trans (CHv.at X222 hZ222 hEL hC222.1)), hW.1, hW.2.1, hW.2.2.1, hW.2.2.2.mono (by decide) (by decide)⟩
        · exact retN X222 hx (t := .boolean) Bd.returns (by simp) (hb hby at_233) hr
        · show Q0 Z p0 p1 p2 p3 wV cl wNO wBY_NAME wBY_TYPE wCONSTRUCTOR sNO sBY_NAME sBY_TYPE sCONSTRUCTOR gz h0 n0 _ T222.heap _
          exact ⟨rfl, N222⟩
      · have sg59 : ∀ t, own_S p e below s₁ (mkF m 59 (own_AIIIIIIIIUU p0 p1 p2 p3 v6 v14 v21 v27) [(.int v21)]) t → own_S p e below s₁ (mkF m 57 (own_AIIIIIIIIUU p0 p1 p2 p3 v6 v14 v21 v27) []) t := by
          intro t k
          show own_S p e below s₁ (mkF m 57 (own_AIIIIIIIIUU p0 p1 p2 p3 v6 v14 v21 v27) []) _
          refine XS.iload X0.here hx rfl (hb hby at_57) rfl ?_
          exact k
        refine own_by sg59 ?_
        obtain ⟨_, _, ⟨T59, L59, k59, n59⟩, -, X59, ⟨Lc59, hQ59, l59, y59, z59⟩, st59⟩ := Jvm.LawKit.callS X0 hx (y := (⟨"com/example/spojka/spojka/AutowireModeNamedPinLaw", "word", "(I)[C"⟩ : MethodName)) hown (mvT hZ (hw _ (List.mem_of_getElem? (i := 3) rfl))) (mvT hZ (hw _ (List.mem_of_getElem? (i := 4) rfl))) (mvT hZ (hw _ (List.mem_of_getElem? (i := 5) rfl))) (mvT hZ (hw _ (List.mem_of_getElem? (i := 6) rfl))) (by decide) (backOf (W := 0) (rm1 l Z a0 hw [] v21 h0 n0 Z0 ) hZ (hw _ (List.mem_of_getElem? (i := 6) rfl)) (hw _ (List.mem_of_getElem? (i := 5) rfl)) (by decide) (by decide)) (g := (mkF m 59 (own_AIIIIIIIIUU p0 p1 p2 p3 v6 v14 v21 v27) [(.int v21)])) rfl (by rw [hml]; rfl) (argsL := [(.int v21)]) (rest := []) (lenOf pd_0_0 rfl) rfl (by show 2 * 0 + _ ≤ _; exact Nat.le_of_eq rfl) (hb hby at_59) (fun _ _ => ⟨rfl, e0, (by decide : 0 + 1 ≤ _), (by decide : 0 + 11 ≤ _)⟩)
        dsimp only [Pt.U, Pt.locs, Pt.cells, Pt.slots] at X59 l59 y59 z59 st59 hQ59
        subst l59 y59 z59
        obtain ⟨r59, kc59, rfl, ge59, N59q, Kq59, Aq59⟩ := hQ59
        have N59 := Fr.app N0 N59q
        have ln59 : (own_word v21).length = 6 := (by rw [hi1]; rfl)
        rw [ln59] at Aq59
        have An59 : Arv Z T59.heap r59 kc59 .char (6 : Int32) ((own_word v21).map Value.int) (.int (0 : Int32)) := Aq59
        have hp59 : ∀ c ∈ (own_word v21), ¬ c < 0 ∧ ¬ (255 : Int32) < c := own_word_hp _
        have g_r59 : n0 ≤ r59 := Nat.le_trans Z0 ge59
        have sz_r59 : h0.size ≤ r59 := Nat.le_trans K0.1 ge59
        have K59 : Keep h0 T59.heap [] := K0.trans Kq59 (fun x hx => nomatch hx)
        have Z59 : n0 ≤ T59.heap.size := Nat.le_trans Z0 Kq59.1
        have CC59 := CHr.keep Kq59 sf0 hH0
        have CR59 := (CHr.refl hH0).trans CC59
        refine own_by st59 ?_
        have sg72 : ∀ t, own_S p e below T59 (mkF m 72 (own_AIIIIIIIIUR p0 p1 p2 p3 v6 v14 v21 v27 r59) [(.ref r59), (.int (p1 &&& (2147483647 : Int32))), (.ref r59)]) t → own_S p e below T59 (mkF m 62 (own_AIIIIIIIIUU p0 p1 p2 p3 v6 v14 v21 v27) [(.ref r59)]) t := by
          intro t k
          show own_S p e below T59 (mkF m 62 (own_AIIIIIIIIUU p0 p1 p2 p3 v6 v14 v21 v27) [(.ref r59)]) _
          refine XS.astore X59.here hx rfl (hb hby at_62) rfl rfl (l' := (own_AIIIIIIIIUR p0 p1 p2 p3 v6 v14 v21 v27 r59)) rfl ?_
          show own_S p e below T59 (mkF m 64 (own_AIIIIIIIIUR p0 p1 p2 p3 v6 v14 v21 v27 r59) []) _
          refine XS.aload X59.here hx rfl (hb hby at_64) rfl rfl ?_
          show own_S p e below T59 (mkF m 66 (own_AIIIIIIIIUR p0 p1 p2 p3 v6 v14 v21 v27 r59) [(.ref r59)]) _
          refine XS.iloadN X59.here hx rfl (hb hby at_66) rfl ?_
          show own_S p e below T59 (mkF m 67 (own_AIIIIIIIIUR p0 p1 p2 p3 v6 v14 v21 v27 r59) [(.int p1), (.ref r59)]) _
          refine X59.ldcInt hx hown (mvT hZ (hw _ (List.mem_of_getElem? (i := 84) rfl))) (g := (mkF m 67 (own_AIIIIIIIIUR p0 p1 p2 p3 v6 v14 v21 v27 r59) [(.int p1), (.ref r59)])) rfl (hb hby at_67) _ ?_
          show own_S p e below T59 (mkF m 69 (own_AIIIIIIIIUR p0 p1 p2 p3 v6 v14 v21 v27 r59) [(.int (2147483647 : Int32)), (.int p1), (.ref r59)]) _
          refine XS.iand X59.here hx rfl (hb hby at_69) rfl ?_
          show own_S p e below T59 (mkF m 70 (own_AIIIIIIIIUR p0 p1 p2 p3 v6 v14 v21 v27 r59) [(.int (p1 &&& (2147483647 : Int32))), (.ref r59)]) _
          refine XS.aload X59.here hx rfl (hb hby at_70) rfl rfl ?_
          exact k
        refine own_by sg72 ?_
        obtain ⟨clw, Arw, qaw, Saw, Naw, Haw, Gaw⟩ := id An59
        obtain ⟨j76, hj76⟩ : ∃ z : Int32, z = ((p1 &&& (2147483647 : Int32)) % (6 : Int32)) := ⟨_, rfl⟩
        have sg76 : ∀ t, own_S p e below T59 (mkF m 76 (own_AIIIIIIIIUR p0 p1 p2 p3 v6 v14 v21 v27 r59) [(.int v6), (.int j76), (.ref r59)]) t → own_S p e below T59 (mkF m 72 (own_AIIIIIIIIUR p0 p1 p2 p3 v6 v14 v21 v27 r59) [(.ref r59), (.int (p1 &&& (2147483647 : Int32))), (.ref r59)]) t := by
          intro t k
          rw [hj76] at k
          show own_S p e below T59 (mkF m 72 (own_AIIIIIIIIUR p0 p1 p2 p3 v6 v14 v21 v27 r59) [(.ref r59), (.int (p1 &&& (2147483647 : Int32))), (.ref r59)]) _
          refine X59.arraylength hx (by exact Arw.1) (State.isArrayOf_alike hZ.alike Arw.2.1) (g := (mkF m 72 (own_AIIIIIIIIUR p0 p1 p2 p3 v6 v14 v21 v27 r59) [(.ref r59), (.int (p1 &&& (2147483647 : Int32))), (.ref r59)])) rfl rfl (hb hby at_72) _ ?_
          rw [len_of Saw Naw]
          show own_S p e below T59 (mkF m 73 (own_AIIIIIIIIUR p0 p1 p2 p3 v6 v14 v21 v27 r59) [(.int (6 : Int32)), (.int (p1 &&& (2147483647 : Int32))), (.ref r59)]) _
          refine iremM X59 hx rfl (hb hby at_73) rfl (by decide) ?_
          show own_S p e below T59 (mkF m 74 (own_AIIIIIIIIUR p0 p1 p2 p3 v6 v14 v21 v27 r59) [(.int ((p1 &&& (2147483647 : Int32)) % (6 : Int32))), (.ref r59)]) _
          refine XS.iload X59.here hx rfl (hb hby at_74) rfl ?_
          exact k
        refine own_by sg76 ?_
        obtain ⟨cl76, Ar76, qa76, Sa76, Na76, Ha76, Ga76⟩ := id An59
        have jp76 : ¬ j76 < 0 ∧ j76 < (6 : Int32) := (by rw [hj76]; exact own_p6 _)
        obtain ⟨T76, h76, X76, e76, W76, st76⟩ := stC X59 hx hZ rfl Ar76 (j := j76) (inb_of Sa76 jp76) (g := (mkF m 76 (own_AIIIIIIIIUR p0 p1 p2 p3 v6 v14 v21 v27 r59) [(.int v6), (.int j76), (.ref r59)])) rfl rfl (hb hby at_76)
        have V76 : Arv Z h76 r59 kc59 .char (6 : Int32) (((own_word v21).set j76.toNatClampNeg v6).map Value.int) (.int (0 : Int32)) := by
          have q := Arv.set Ar76 qa76 Sa76 Na76 Ha76 Ga76 (fits_nar_char _) W76 j76.toNatClampNeg rfl (by rw [List.length_map, ln59]; exact own_clamp jp76 (by decide))
          rw [own_narc hk_v6] at q
          rw [List.map_set]; exact q
        have ln76 : ((own_word v21).set j76.toNatClampNeg v6).length = 6 := by rw [List.length_set]; exact ln59
        have hp76 : ∀ c ∈ ((own_word v21).set j76.toNatClampNeg v6), ¬ c < 0 ∧ ¬ (255 : Int32) < c := own_hpset hp59 hk_v6
        have K76 : Keep h0 h76 [] := K59.wr W76 (Or.inr sz_r59)
        have Z76 : n0 ≤ h76.size := Nat.le_trans Z59 (Keep.of_wr W76).1
        have CC76 := CHr.wr W76 (Safe.arv hZ.alike An59 (by decide)) CC59.1
        have CR76 := CR59.trans CC76
        have N76 := Fr.snoc X76 N59 g_r59
        refine own_by st76 ?_
        obtain ⟨T77, h77, X77, e77, E77, A77, D77, -, st77⟩ := newO X76 hx hZ hown (hw _ (List.mem_of_getElem? (i := 0) rfl)) (hw _ (List.mem_of_getElem? (i := 1) rfl)) (hw _ (List.mem_of_getElem? (i := 2) rfl)) e76 (g := (mkF m 77 (own_AIIIIIIIIUR p0 p1 p2 p3 v6 v14 v21 v27 r59) [])) rfl (hb hby at_77) (by decide) (by decide)
        obtain ⟨b77, g77⟩ : ∃ z, z = h76.size := ⟨_, rfl⟩
        rw [← g77] at A77 D77 st77
        have ne_r59_b77 : r59 ≠ b77 := Nat.ne_of_lt (Nat.lt_of_lt_of_le V76.lt (Nat.le_of_eq g77.symm))
        have g_b77 : n0 ≤ b77 := Nat.le_trans Z76 (Nat.le_of_eq g77.symm)
        have sz_b77 : h0.size ≤ b77 := Nat.le_trans K76.1 (Nat.le_of_eq g77.symm)
        have K77 := K76.ext E77
        have Z77 : n0 ≤ h77.size := Nat.le_trans Z76 E77.1
        have CC77 := CHr.ext E77 CC76.1
        have CR77 := CR76.trans CC77
        have F_coder_b77 : Fld Z h77 b77 "java/lang/String" "coder" "B" (.int (0 : Int32)) := D77 (Or.inr (hw _ (List.mem_of_getElem? (i := 31) rfl))) (ty := .byte) (by decide)
        have F_value_b77 : Fld Z h77 b77 "java/lang/String" "value" "[B" .null := D77 (Or.inr (hw _ (List.mem_of_getElem? (i := 33) rfl))) (ty := (.array .byte)) (by decide)
        refine own_by st77 ?_
        have sg83 : ∀ t, own_S p e below T77 (mkF m 83 (own_AIIIIIIIIUR p0 p1 p2 p3 v6 v14 v21 v27 r59) [(.ref r59), (.ref b77), (.ref b77)]) t → own_S p e below T77 (mkF m 80 (own_AIIIIIIIIUR p0 p1 p2 p3 v6 v14 v21 v27 r59) [(.ref b77)]) t := by
          intro t k
          show own_S p e below T77 (mkF m 80 (own_AIIIIIIIIUR p0 p1 p2 p3 v6 v14 v21 v27 r59) [(.ref b77)]) _
          refine XS.dup X77.here hx rfl (hb hby at_80) rfl rfl ?_
          show own_S p e below T77 (mkF m 81 (own_AIIIIIIIIUR p0 p1 p2 p3 v6 v14 v21 v27 r59) [(.ref b77), (.ref b77)]) _
          refine XS.aload X77.here hx rfl (hb hby at_81) rfl rfl ?_
          exact k
        refine own_by sg83 ?_
        obtain ⟨_, _, ⟨T83, L83, k83, n83⟩, -, X83, ⟨Lc83, hQ83, l83, y83, z83⟩, st83⟩ := X77.specialBack hx (y := (⟨"java/lang/String", "<init>", "([C)V"⟩ : MethodName)) rfl hown (mvT hZ (hw _ (List.mem_of_getElem? (i := 8) rfl))) (mvT hZ (hw _ (List.mem_of_getElem? (i := 9) rfl))) (mvT hZ (hw _ (List.mem_of_getElem? (i := 10) rfl))) (by decide) (StrChars.Road.backV (W := 1) hZ hws (kI := 4) (hw _ (List.mem_of_getElem? (i := 1) rfl)) (cs := ((own_word v21).set j76.toNatClampNeg v6)) (bs := ((own_word v21).set j76.toNatClampNeg v6).map (fun c => c.toInt8.toInt32)) (n := 6) g_b77 Z77 A77 F_value_b77 F_coder_b77 (V76.ext E77) (O2.ext (((O.keep Kq59 all0).wr W76 g_r59).ext E77).2) P5 ln76 rfl (by decide) (by decide) hp76 rfl (by decide) (by decide)) (g := (mkF m 83 (own_AIIIIIIIIUR p0 p1 p2 p3 v6 v14 v21 v27 r59) [(.ref r59), (.ref b77), (.ref b77)])) rfl (by rw [hml]; rfl) (Steps.refl _) (a := b77) (argsL := [(.ref r59)]) (rest := [(.ref b77)]) (lenOf pd_0_1 rfl) rfl (by show 2 * 0 + _ ≤ _; exact Nat.le_of_eq rfl) (hb hby at_83) (fun _ _ => ⟨rfl, e77, (by decide : 2 + 1 ≤ _), (by decide : 15 + 6 ≤ _)⟩)
        dsimp only [Pt.U, Pt.locs, Pt.cells, Pt.slots] at X83 l83 y83 z83 st83 hQ83
        subst l83 y83 z83
        obtain ⟨rfl, N83q, Kq83, Eq83, Cq83, t83, kb83, u183, u283, u383, Vq83, Aq83⟩ := hQ83
        have N83 := Fr.app N76 N83q
        have Sq83 : own_Str Z T83.heap b77 ((own_word v21).set j76.toNatClampNeg v6) := ⟨t83, kb83, 0, _, _, Eq83, Vq83, Cq83, Aq83, StrChars.Road.codOf (n := 6) ln76 (fun x hx => (hp76 x hx).2), own_up _ hp76, by rw [ln76]; decide⟩
        have fc := ((V76.ext E77).keep Kq83 (fun h => ne_r59_b77 (List.mem_singleton.mp h)))
        have K83 : Keep h0 T83.heap [] := K77.trans Kq83 (fun x hx => by cases List.mem_singleton.mp hx; exact Or.inr sz_b77)
        have Z83 : n0 ≤ T83.heap.size := Nat.le_trans Z77 Kq83.1
        have CC83 := CHr.keep Kq83 (sfS (own_safe0 hZ.alike A77 F_value_b77 (hw _ (List.mem_of_getElem? (i := 1) rfl))) sf0) CC77.1
        have CR83 := CR77.trans CC83
        refine own_by (fun t k => st83.trans k) ?_
        have sg213 : ∀ t, own_S p e below T83 (mkF m 213 (own_AIIIIIIIIRR p0 p1 p2 p3 v6 v14 v21 v27 b77 r59) [(.ref b77)]) t → own_S p e below T83 (mkF m 86 (own_AIIIIIIIIUR p0 p1 p2 p3 v6 v14 v21 v27 r59) [(.ref b77)]) t := by
          intro t k
          show own_S p e below T83 (mkF m 86 (own_AIIIIIIIIUR p0 p1 p2 p3 v6 v14 v21 v27 r59) [(.ref b77)]) _
          refine XS.astore X83.here hx rfl (hb hby at_86) rfl rfl (l' := (own_AIIIIIIIIRR p0 p1 p2 p3 v6 v14 v21 v27 b77 r59)) rfl ?_
          show own_S p e below T83 (mkF m 88 (own_AIIIIIIIIRR p0 p1 p2 p3 v6 v14 v21 v27 b77 r59) []) _
          refine XS.goto X83.here hx rfl (pc0 := 88) (pc' := 211) rfl (hb hby at_88) (by decide) (by decide) ?_
          show own_S p e below T83 (mkF m 211 (own_AIIIIIIIIRR p0 p1 p2 p3 v6 v14 v21 v27 b77 r59) []) _
          refine XS.aload X83.here hx rfl (hb hby at_211) rfl rfl ?_
          exact k
        refine own_by sg213 ?_
        obtain ⟨_, _, ⟨T213, L213, k213, n213⟩, -, X213, ⟨Lc213, hQ213, l213, y213, z213⟩, st213⟩ := Jvm.LawKit.callS X83 hx (y := (⟨"com/example/spojka/spojka/AutowireMode", "named", "(Ljava/lang/String;)Lcom/example/spojka/spojka/AutowireMode;"⟩ : MethodName)) hown (mvT hZ (hw _ (List.mem_of_getElem? (i := 34) rfl))) (mvT hZ (hw _ (List.mem_of_getElem? (i := 35) rfl))) (mvT hZ (hw _ (List.mem_of_getElem? (i := 36) rfl))) (mvT hZ (hw _ (List.mem_of_getElem? (i := 37) rfl))) (by decide) (backOf (W := 0) (rm8 l Z a0 hw [] b77 ((own_word v21).set j76.toNatClampNeg v6) wV cl wNO wBY_NAME wBY_TYPE wCONSTRUCTOR sNO sBY_NAME sBY_TYPE sCONSTRUCTOR gz T83.heap n0 Z83 ((((O.keep Kq59 all0).wr W76 g_r59).ext E77).keep Kq83 (allS g_b77 all0)) O2 P5 S_V Ar_V E_V FC hsz hat0 hat1 hat2 hat3 FV_NO FV_BY_NAME FV_BY_TYPE FV_CONSTRUCTOR EX_NO EX_BY_NAME EX_BY_TYPE EX_CONSTRUCTOR Str_NO Str_BY_NAME Str_BY_TYPE Str_CONSTRUCTOR Sq83) hZ (hw _ (List.mem_of_getElem? (i := 37) rfl)) (hw _ (List.mem_of_getElem? (i := 36) rfl)) (by decide) (by decide)) (g := (mkF m 213 (own_AIIIIIIIIRR p0 p1 p2 p3 v6 v14 v21 v27 b77 r59) [(.ref b77)])) rfl (by rw [hml]; rfl) (argsL := [(.ref b77)]) (rest := []) (lenOf pd_0_2 rfl) rfl (by show 2 * 0 + _ ≤ _; exact Nat.le_of_eq rfl) (hb hby at_213) (fun _ _ => ⟨rfl, rfl, (by decide : 3 + 1 ≤ _), (by decide : 21 + 4 ≤ _)⟩)
        dsimp only [Pt.U, Pt.locs, Pt.cells, Pt.slots] at X213 l213 y213 z213 st213 hQ213
        subst l213 y213 z213
        obtain ⟨rfl, N213q, Kq213⟩ := hQ213
        have N213 := Fr.app N83 N213q
        have K213 : Keep h0 T213.heap [] := K83.trans Kq213 (fun x hx => nomatch hx)
        have Z213 : n0 ≤ T213.heap.size := Nat.le_trans Z83 Kq213.1
        have CC213 := CHr.keep Kq213 sf0 CC83.1
        have CR213 := CR83.trans CC213
        obtain ⟨g213, hg213⟩ : ∃ z : Value, z = (if ([(110 : Int32), (111 : Int32)] : List Int32) = ((own_word v21).set j76.toNatClampNeg v6) then Value.ref wNO else (if ([(98 : Int32), (121 : Int32), (78 : Int32), (97 : Int32), (109 : Int32), (101 : Int32)] : List Int32) = ((own_word v21).set j76.toNatClampNeg v6) then Value.ref wBY_NAME else (if ([(98 : Int32), (121 : Int32), (84 : Int32), (121 : Int32), (112 : Int32), (101 : Int32)] : List Int32) = ((own_word v21).set j76.toNatClampNeg v6) then Value.ref wBY_TYPE else (if ([(99 : Int32), (111 : Int32), (110 : Int32), (115 : Int32), (116 : Int32), (114 : Int32), (117 : Int32), (99 : Int32), (116 : Int32), (111 : Int32), (114 : Int32)] : List Int32) = ((own_word v21).set j76.toNatClampNeg v6) then Value.ref wCONSTRUCTOR else Value.null)))) := ⟨_, rfl⟩
        rw [← hg213] at st213
        have hgr213 : g213.isRef = true := by rw [hg213]; repeat' (first | rfl | (refine own_isr rfl ?_))
        refine own_by st213 ?_
        have sg222 : ∀ t, own_S p e below T213 (mkF m 222 (own_AIIIIIIIIRV p0 p1 p2 p3 v6 v14 v21 v27 b77 g213) [(.ref b77), g213]) t → own_S p e below T213 (mkF m 216 (own_AIIIIIIIIRR p0 p1 p2 p3 v6 v14 v21 v27 b77 r59) [g213]) t := by
          intro t k
          show own_S p e below T213 (mkF m 216 (own_AIIIIIIIIRR p0 p1 p2 p3 v6 v14 v21 v27 b77 r59) [g213]) _
          refine XS.astore X213.here hx rfl (hb hby at_216) rfl hgr213 (l' := (own_AIIIIIIIIRV p0 p1 p2 p3 v6 v14 v21 v27 b77 g213)) (by simp [storeLocals, storeSelf, setAt, own_cat1 hgr213, own_catr, own_catn]) ?_
          show own_S p e below T213 (mkF m 218 (own_AIIIIIIIIRV p0 p1 p2 p3 v6 v14 v21 v27 b77 g213) []) _
          refine XS.aload X213.here hx rfl (hb hby at_218) rfl hgr213 ?_
          show own_S p e below T213 (mkF m 220 (own_AIIIIIIIIRV p0 p1 p2 p3 v6 v14 v21 v27 b77 g213) [g213]) _
          refine XS.aload X213.here hx rfl (hb hby at_220) rfl rfl ?_
          exact k
        refine own_by sg222 ?_
        obtain ⟨_, _, ⟨T222, L222, k222, n222⟩, -, Xc222, hSc222, hgc222, ⟨Lc222, hQ222, l222, y222, z222, hC222⟩, st222⟩ := callSS X213 hx (y := (⟨"com/example/spojka/spojka/AutowireModeNamedPinLaw", "expected", "(Ljava/lang/String;)Lcom/example/spojka/spojka/AutowireMode;"⟩ : MethodName)) hown (mvT hZ (hw _ (List.mem_of_getElem? (i := 69) rfl))) (mvT hZ (hw _ (List.mem_of_getElem? (i := 70) rfl))) (mvT hZ (hw _ (List.mem_of_getElem? (i := 5) rfl))) (mvT hZ (hw _ (List.mem_of_getElem? (i := 71) rfl))) (by decide) (backOfSH (W := 1) (rm12 l Z a0 hw [] b77 ((own_word v21).set j76.toNatClampNeg v6) wNO wBY_NAME wBY_TYPE wCONSTRUCTOR gz T213.heap n0 Z213 (((((O.keep Kq59 all0).wr W76 g_r59).ext E77).keep Kq83 (allS g_b77 all0)).keep Kq213 all0) O2 P5 (Sq83.ext (own_kx Kq213)) S_NO S_BY_NAME S_BY_TYPE S_CONSTRUCTOR) hZ (hw _ (List.mem_of_getElem? (i := 71) rfl)) (hw _ (List.mem_of_getElem? (i := 5) rfl)) (by decide) (by decide) hEL CC213.1) (g := (mkF m 222 (own_AIIIIIIIIRV p0 p1 p2 p3 v6 v14 v21 v27 b77 g213) [(.ref b77), g213])) rfl (by rw [hml]; rfl) (argsL := [(.ref b77)]) (rest := [g213]) (lenOf pd_0_2 rfl) rfl (by show 2 * 0 + (List.map (fun v => Value.category v) [g213]).sum ≤ 1; simp [own_cat1 hgr213, own_catr, own_catn]) (hb hby at_222) (fun _ _ => ⟨rfl, rfl, (by decide : 4 + 8 ≤ _), (by decide : 25 + 116 ≤ _)⟩)
        dsimp only [Pt.U, Pt.locs, Pt.cells, Pt.slots] at Xc222 hSc222 hgc222
        obtain ⟨X222, hS222, hZ222, hown222⟩ := rebS hS0 (Nat.le_trans (Nat.le_trans (Nat.le_trans (Nat.le_trans (Nat.le_trans (Nat.zero_le _) Kq59.1) (Keep.of_wr W76).1) E77.1) Kq83.1) Kq213.1) Xc222 hSc222 hgc222 hZ hown
        dsimp only [Pt.U, Pt.locs, Pt.cells, Pt.slots] at X222 l222 y222 z222 st222 hQ222
        subst l222 y222 z222
        obtain ⟨rfl, N222q, Kq222⟩ := hQ222
        have N222 := Fr.app N213 N222q
        have fc_2 := ((fc.keep Kq213 List.not_mem_nil).keep Kq222 List.not_mem_nil)
        have K222 : Keep h0 T222.heap [] := K213.trans Kq222 (fun x hx => nomatch hx)
        have Z222 : n0 ≤ T222.heap.size := Nat.le_trans Z213 Kq222.1
        rw [← hg213] at st222
        have CR222 := CR213.trans hC222
        refine own_by (fun t k => st222.trans k) ?_
        have sg233 : ∀ t, own_S p e below T222 (mkF m 233 (own_AIIIIIIIIRV p0 p1 p2 p3 v6 v14 v21 v27 b77 g213) [(.int (1 : Int32))]) t → own_S p e below T222 (mkF m 225 (own_AIIIIIIIIRV p0 p1 p2 p3 v6 v14 v21 v27 b77 g213) [g213, g213]) t := by
          intro t k
          show own_S p e below T222 (mkF m 225 (own_AIIIIIIIIRV p0 p1 p2 p3 v6 v14 v21 v27 b77 g213) [g213, g213]) _
          refine Jvm.RoadKit.acmp (g := (mkF m 225 (own_AIIIIIIIIRV p0 p1 p2 p3 v6 v14 v21 v27 b77 g213) [g213, g213])) X222 hx rfl hgr213 hgr213 (pc0 := 225) (pc' := 228) (same := true) rfl (hb hby at_225) rfl (decide_eq_true (rfl : (g213 : Value) = g213)) (by decide) (by decide) ?_
          show own_S p e below T222 (mkF m 228 (own_AIIIIIIIIRV p0 p1 p2 p3 v6 v14 v21 v27 b77 g213) []) _
          refine XS.iconst X222.here hx rfl (hb hby at_228) ?_
          show own_S p e below T222 (mkF m 229 (own_AIIIIIIIIRV p0 p1 p2 p3 v6 v14 v21 v27 b77 g213) [(.int (1 : Int32))]) _
          refine XS.goto X222.here hx rfl (pc0 := 229) (pc' := 233) rfl (hb hby at_229) (by decide) (by decide) ?_
          exact k
        refine own_by sg233 ?_
        obtain ⟨fs, hr, hrun, hended, hW⟩ := X222.leaveW hS222 (Nat.le_refl _) (v := some (.int (1 : Int32))) (fun h => by rw [Bd.returns] at h; cases h)
        refine ⟨_, _, ?_, hrun, hended, _, _, rfl, ?_, (by rw [hh]; show CHr Z consts_1 s.vm h0 T222.vm T222.heap; exact CR222.trans (CHv.at X222 hZ222 hEL hC222.1)), hW.1, hW.2.1, hW.2.2.1, hW.2.2.2.mono (by decide) (by decide)⟩
        · exact retN X222 hx (t := .boolean) Bd.returns (by simp) (hb hby at_233) hr
        · show Q0 Z p0 p1 p2 p3 wV cl wNO wBY_NAME wBY_TYPE wCONSTRUCTOR sNO sBY_NAME sBY_TYPE sCONSTRUCTOR gz h0 n0 _ T222.heap _
          exact ⟨rfl, N222⟩
      · have sg59 : ∀ t, own_S p e below s₁ (mkF m 59 (own_AIIIIIIIIUU p0 p1 p2 p3 v6 v14 v21 v27) [(.int v21)]) t → own_S p e below s₁ (mkF m 57 (own_AIIIIIIIIUU p0 p1 p2 p3 v6 v14 v21 v27) []) t := by
          intro t k
          show own_S p e below s₁ (mkF m 57 (own_AIIIIIIIIUU p0 p1 p2 p3 v6 v14 v21 v27) []) _
          refine XS.iload X0.here hx rfl (hb hby at_57) rfl ?_
          exact k
        refine own_by sg59 ?_
        obtain ⟨_, _, ⟨T59, L59, k59, n59⟩, -, X59, ⟨Lc59, hQ59, l59, y59, z59⟩, st59⟩ := Jvm.LawKit.callS X0 hx (y := (⟨"com/example/spojka/spojka/AutowireModeNamedPinLaw", "word", "(I)[C"⟩ : MethodName)) hown (mvT hZ (hw _ (List.mem_of_getElem? (i := 3) rfl))) (mvT hZ (hw _ (List.mem_of_getElem? (i := 4) rfl))) (mvT hZ (hw _ (List.mem_of_getElem? (i := 5) rfl))) (mvT hZ (hw _ (List.mem_of_getElem? (i := 6) rfl))) (by decide) (backOf (W := 0) (rm1 l Z a0 hw [] v21 h0 n0 Z0 ) hZ (hw _ (List.mem_of_getElem? (i := 6) rfl)) (hw _ (List.mem_of_getElem? (i := 5) rfl)) (by decide) (by decide)) (g := (mkF m 59 (own_AIIIIIIIIUU p0 p1 p2 p3 v6 v14 v21 v27) [(.int v21)])) rfl (by rw [hml]; rfl) (argsL := [(.int v21)]) (rest := []) (lenOf pd_0_0 rfl) rfl (by show 2 * 0 + _ ≤ _; exact Nat.le_of_eq rfl) (hb hby at_59) (fun _ _ => ⟨rfl, e0, (by decide : 0 + 1 ≤ _), (by decide : 0 + 11 ≤ _)⟩)
        dsimp only [Pt.U, Pt.locs, Pt.cells, Pt.slots] at X59 l59 y59 z59 st59 hQ59
        subst l59 y59 z59
        obtain ⟨r59, kc59, rfl, ge59, N59q, Kq59, Aq59⟩ := hQ59
        have N59 := Fr.app N0 N59q
        have ln59 : (own_word v21).length = 6 := (by rw [hi2]; rfl)
        rw [ln59] at Aq59
        have An59 : Arv Z T59.heap r59 kc59 .char (6 : Int32) ((own_word v21).map Value.int) (.int (0 : Int32)) := Aq59
        have hp59 : ∀ c ∈ (own_word v21), ¬ c < 0 ∧ ¬ (255 : Int32) < c := own_word_hp _
        have g_r59 : n0 ≤ r59 := Nat.le_trans Z0 ge59
        have sz_r59 : h0.size ≤ r59 := Nat.le_trans K0.1 ge59
        have K59 : Keep h0 T59.heap [] := K0.trans Kq59 (fun x hx => nomatch hx)
        have Z59 : n0 ≤ T59.heap.size := Nat.le_trans Z0 Kq59.1
        have CC59 := CHr.keep Kq59 sf0 hH0
        have CR59 := (CHr.refl hH0).trans CC59
        refine own_by st59 ?_
        have sg72 : ∀ t, own_S p e below T59 (mkF m 72 (own_AIIIIIIIIUR p0 p1 p2 p3 v6 v14 v21 v27 r59) [(.ref r59), (.int (p1 &&& (2147483647 : Int32))), (.ref r59)]) t → own_S p e below T59 (mkF m 62 (own_AIIIIIIIIUU p0 p1 p2 p3 v6 v14 v21 v27) [(.ref r59)]) t := by
          intro t k
          show own_S p e below T59 (mkF m 62 (own_AIIIIIIIIUU p0 p1 p2 p3 v6 v14 v21 v27) [(.ref r59)]) _
          refine XS.astore X59.here hx rfl (hb hby at_62) rfl rfl (l' := (own_AIIIIIIIIUR p0 p1 p2 p3 v6 v14 v21 v27 r59)) rfl ?_
          show own_S p e below T59 (mkF m 64 (own_AIIIIIIIIUR p0 p1 p2 p3 v6 v14 v21 v27 r59) []) _
          refine XS.aload X59.here hx rfl (hb hby at_64) rfl rfl ?_
          show own_S p e below T59 (mkF m 66 (own_AIIIIIIIIUR p0 p1 p2 p3 v6 v14 v21 v27 r59) [(.ref r59)]) _
          refine XS.iloadN X59.here hx rfl (hb hby at_66) rfl ?_
          show own_S p e below T59 (mkF m 67 (own_AIIIIIIIIUR p0 p1 p2 p3 v6 v14 v21 v27 r59) [(.int p1), (.ref r59)]) _
          refine X59.ldcInt hx hown (mvT hZ (hw _ (List.mem_of_getElem? (i := 84) rfl))) (g := (mkF m 67 (own_AIIIIIIIIUR p0 p1 p2 p3 v6 v14 v21 v27 r59) [(.int p1), (.ref r59)])) rfl (hb hby at_67) _ ?_
          show own_S p e below T59 (mkF m 69 (own_AIIIIIIIIUR p0 p1 p2 p3 v6 v14 v21 v27 r59) [(.int (2147483647 : Int32)), (.int p1), (.ref r59)]) _
          refine XS.iand X59.here hx rfl (hb hby at_69) rfl ?_
          show own_S p e below T59 (mkF m 70 (own_AIIIIIIIIUR p0 p1 p2 p3 v6 v14 v21 v27 r59) [(.int (p1 &&& (2147483647 : Int32))), (.ref r59)]) _
          refine XS.aload X59.here hx rfl (hb hby at_70) rfl rfl ?_
          exact k
        refine own_by sg72 ?_
        obtain ⟨clw, Arw, qaw, Saw, Naw, Haw, Gaw⟩ := id An59
        obtain ⟨j76, hj76⟩ : ∃ z : Int32, z = ((p1 &&& (2147483647 : Int32)) % (6 : Int32)) := ⟨_, rfl⟩
        have sg76 : ∀ t, own_S p e below T59 (mkF m 76 (own_AIIIIIIIIUR p0 p1 p2 p3 v6 v14 v21 v27 r59) [(.int v6), (.int j76), (.ref r59)]) t → own_S p e below T59 (mkF m 72 (own_AIIIIIIIIUR p0 p1 p2 p3 v6 v14 v21 v27 r59) [(.ref r59), (.int (p1 &&& (2147483647 : Int32))), (.ref r59)]) t := by
          intro t k
          rw [hj76] at k
          show own_S p e below T59 (mkF m 72 (own_AIIIIIIIIUR p0 p1 p2 p3 v6 v14 v21 v27 r59) [(.ref r59), (.int (p1 &&& (2147483647 : Int32))), (.ref r59)]) _
          refine X59.arraylength hx (by exact Arw.1) (State.isArrayOf_alike hZ.alike Arw.2.1) (g := (mkF m 72 (own_AIIIIIIIIUR p0 p1 p2 p3 v6 v14 v21 v27 r59) [(.ref r59), (.int (p1 &&& (2147483647 : Int32))), (.ref r59)])) rfl rfl (hb hby at_72) _ ?_
          rw [len_of Saw Naw]
          show own_S p e below T59 (mkF m 73 (own_AIIIIIIIIUR p0 p1 p2 p3 v6 v14 v21 v27 r59) [(.int (6 : Int32)), (.int (p1 &&& (2147483647 : Int32))), (.ref r59)]) _
          refine iremM X59 hx rfl (hb hby at_73) rfl (by decide) ?_
          show own_S p e below T59 (mkF m 74 (own_AIIIIIIIIUR p0 p1 p2 p3 v6 v14 v21 v27 r59) [(.int ((p1 &&& (2147483647 : Int32)) % (6 : Int32))), (.ref r59)]) _
          refine XS.iload X59.here hx rfl (hb hby at_74) rfl ?_
          exact k
        refine own_by sg76 ?_
        obtain ⟨cl76, Ar76, qa76, Sa76, Na76, Ha76, Ga76⟩ := id An59
        have jp76 : ¬ j76 < 0 ∧ j76 < (6 : Int32) := (by rw [hj76]; exact own_p6 _)
        obtain ⟨T76, h76, X76, e76, W76, st76⟩ := stC X59 hx hZ rfl Ar76 (j := j76) (inb_of Sa76 jp76) (g := (mkF m 76 (own_AIIIIIIIIUR p0 p1 p2 p3 v6 v14 v21 v27 r59) [(.int v6), (.int j76), (.ref r59)])) rfl rfl (hb hby at_76)
        have V76 : Arv Z h76 r59 kc59 .char (6 : Int32) (((own_word v21).set j76.toNatClampNeg v6).map Value.int) (.int (0 : Int32)) := by
          have q := Arv.set Ar76 qa76 Sa76 Na76 Ha76 Ga76 (fits_nar_char _) W76 j76.toNatClampNeg rfl (by rw [List.length_map, ln59]; exact own_clamp jp76 (by decide))
          rw [own_narc hk_v6] at q
          rw [List.map_set]; exact q
        have ln76 : ((own_word v21).set j76.toNatClampNeg v6).length = 6 := by rw [List.length_set]; exact ln59
        have hp76 : ∀ c ∈ ((own_word v21).set j76.toNatClampNeg v6), ¬ c < 0 ∧ ¬ (255 : Int32) < c := own_hpset hp59 hk_v6
        have K76 : Keep h0 h76 [] := K59.wr W76 (Or.inr sz_r59)
        have Z76 : n0 ≤ h76.size := Nat.le_trans Z59 (Keep.of_wr W76).1
        have CC76 := CHr.wr W76 (Safe.arv hZ.alike An59 (by decide)) CC59.1
        have CR76 := CR59.trans CC76
        have N76 := Fr.snoc X76 N59 g_r59
        refine own_by st76 ?_
        obtain ⟨T77, h77, X77, e77, E77, A77, D77, -, st77⟩ := newO X76 hx hZ hown (hw _ (List.mem_of_getElem? (i := 0) rfl)) (hw _ (List.mem_of_getElem? (i := 1) rfl)) (hw _ (List.mem_of_getElem? (i := 2) rfl)) e76 (g := (mkF m 77 (own_AIIIIIIIIUR p0 p1 p2 p3 v6 v14 v21 v27 r59) [])) rfl (hb hby at_77) (by decide) (by decide)
        obtain ⟨b77, g77⟩ : ∃ z, z = h76.size := ⟨_, rfl⟩
        rw [← g77] at A77 D77 st77
        have ne_r59_b77 : r59 ≠ b77 := Nat.ne_of_lt (Nat.lt_of_lt_of_le V76.lt (Nat.le_of_eq g77.symm))
        have g_b77 : n0 ≤ b77 := Nat.le_trans Z76 (Nat.le_of_eq g77.symm)
        have sz_b77 : h0.size ≤ b77 := Nat.le_trans K76.1 (Nat.le_of_eq g77.symm)
        have K77 := K76.ext E77
        have Z77 : n0 ≤ h77.size := Nat.le_trans Z76 E77.1
        have CC77 := CHr.ext E77 CC76.1
        have CR77 := CR76.trans CC77
        have F_coder_b77 : Fld Z h77 b77 "java/lang/String" "coder" "B" (.int (0 : Int32)) := D77 (Or.inr (hw _ (List.mem_of_getElem? (i := 31) rfl))) (ty := .byte) (by decide)
        have F_value_b77 : Fld Z h77 b77 "java/lang/String" "value" "[B" .null := D77 (Or.inr (hw _ (List.mem_of_getElem? (i := 33) rfl))) (ty := (.array .byte)) (by decide)
        refine own_by st77 ?_
        have sg83 : ∀ t, own_S p e below T77 (mkF m 83 (own_AIIIIIIIIUR p0 p1 p2 p3 v6 v14 v21 v27 r59) [(.ref r59), (.ref b77), (.ref b77)]) t → own_S p e below T77 (mkF m 80 (own_AIIIIIIIIUR p0 p1 p2 p3 v6 v14 v21 v27 r59) [(.ref b77)]) t := by
          intro t k
          show own_S p e below T77 (mkF m 80 (own_AIIIIIIIIUR p0 p1 p2 p3 v6 v14 v21 v27 r59) [(.ref b77)]) _
          refine XS.dup X77.here hx rfl (hb hby at_80) rfl rfl ?_
          show own_S p e below T77 (mkF m 81 (own_AIIIIIIIIUR p0 p1 p2 p3 v6 v14 v21 v27 r59) [(.ref b77), (.ref b77)]) _
          refine XS.aload X77.here hx rfl (hb hby at_81) rfl rfl ?_
          exact k
        refine own_by sg83 ?_
        obtain ⟨_, _, ⟨T83, L83, k83, n83⟩, -, X83, ⟨Lc83, hQ83, l83, y83, z83⟩, st83⟩ := X77.specialBack hx (y := (⟨"java/lang/String", "<init>", "([C)V"⟩ : MethodName)) rfl hown (mvT hZ (hw _ (List.mem_of_getElem? (i := 8) rfl))) (mvT hZ (hw _ (List.mem_of_getElem? (i := 9) rfl))) (mvT hZ (hw _ (List.mem_of_getElem? (i := 10) rfl))) (by decide) (StrChars.Road.backV (W := 1) hZ hws (kI := 4) (hw _ (List.mem_of_getElem? (i := 1) rfl)) (cs := ((own_word v21).set j76.toNatClampNeg v6)) (bs := ((own_word v21).set j76.toNatClampNeg v6).map (fun c => c.toInt8.toInt32)) (n := 6) g_b77 Z77 A77 F_value_b77 F_coder_b77 (V76.ext E77) (O2.ext (((O.keep Kq59 all0).wr W76 g_r59).ext E77).2) P5 ln76 rfl (by decide) (by decide) hp76 rfl (by decide) (by decide)) (g := (mkF m 83 (own_AIIIIIIIIUR p0 p1 p2 p3 v6 v14 v21 v27 r59) [(.ref r59), (.ref b77), (.ref b77)])) rfl (by rw [hml]; rfl) (Steps.refl _) (a := b77) (argsL := [(.ref r59)]) (rest := [(.ref b77)]) (lenOf pd_0_1 rfl) rfl (by show 2 * 0 + _ ≤ _; exact Nat.le_of_eq rfl) (hb hby at_83) (fun _ _ => ⟨rfl, e77, (by decide : 2 + 1 ≤ _), (by decide : 15 + 6 ≤ _)⟩)
        dsimp only [Pt.U, Pt.locs, Pt.cells, Pt.slots] at X83 l83 y83 z83 st83 hQ83
        subst l83 y83 z83
        obtain ⟨rfl, N83q, Kq83, Eq83, Cq83, t83, kb83, u183, u283, u383, Vq83, Aq83⟩ := hQ83
        have N83 := Fr.app N76 N83q
        have Sq83 : own_Str Z T83.heap b77 ((own_word v21).set j76.toNatClampNeg v6) := ⟨t83, kb83, 0, _, _, Eq83, Vq83, Cq83, Aq83, StrChars.Road.codOf (n := 6) ln76 (fun x hx => (hp76 x hx).2), own_up _ hp76, by rw [ln76]; decide⟩
        have fc := ((V76.ext E77).keep Kq83 (fun h => ne_r59_b77 (List.mem_singleton.mp h)))
        have K83 : Keep h0 T83.heap [] := K77.trans Kq83 (fun x hx => by cases List.mem_singleton.mp hx; exact Or.inr sz_b77)
        have Z83 : n0 ≤ T83.heap.size := Nat.le_trans Z77 Kq83.1
        have CC83 := CHr.keep Kq83 (sfS (own_safe0 hZ.alike A77 F_value_b77 (hw _ (List.mem_of_getElem? (i := 1) rfl))) sf0) CC77.1
        have CR83 := CR77.trans CC83
        refine own_by (fun t k => st83.trans k) ?_
        have sg213 : ∀ t, own_S p e below T83 (mkF m 213 (own_AIIIIIIIIRR p0 p1 p2 p3 v6 v14 v21 v27 b77 r59) [(.ref b77)]) t → own_S p e below T83 (mkF m 86 (own_AIIIIIIIIUR p0 p1 p2 p3 v6 v14 v21 v27 r59) [(.ref b77)]) t := by
          intro t k
          show own_S p e below T83 (mkF m 86 (own_AIIIIIIIIUR p0 p1 p2 p3 v6 v14 v21 v27 r59) [(.ref b77)]) _
          refine XS.astore X83.here hx rfl (hb hby at_86) rfl rfl (l' := (own_AIIIIIIIIRR p0 p1 p2 p3 v6 v14 v21 v27 b77 r59)) rfl ?_
          show own_S p e below T83 (mkF m 88 (own_AIIIIIIIIRR p0 p1 p2 p3 v6 v14 v21 v27 b77 r59) []) _
          refine XS.goto X83.here hx rfl (pc0 := 88) (pc' := 211) rfl (hb hby at_88) (by decide) (by decide) ?_
          show own_S p e below T83 (mkF m 211 (own_AIIIIIIIIRR p0 p1 p2 p3 v6 v14 v21 v27 b77 r59) []) _
          refine XS.aload X83.here hx rfl (hb hby at_211) rfl rfl ?_
          exact k
        refine own_by sg213 ?_
        obtain ⟨_, _, ⟨T213, L213, k213, n213⟩, -, X213, ⟨Lc213, hQ213, l213, y213, z213⟩, st213⟩ := Jvm.LawKit.callS X83 hx (y := (⟨"com/example/spojka/spojka/AutowireMode", "named", "(Ljava/lang/String;)Lcom/example/spojka/spojka/AutowireMode;"⟩ : MethodName)) hown (mvT hZ (hw _ (List.mem_of_getElem? (i := 34) rfl))) (mvT hZ (hw _ (List.mem_of_getElem? (i := 35) rfl))) (mvT hZ (hw _ (List.mem_of_getElem? (i := 36) rfl))) (mvT hZ (hw _ (List.mem_of_getElem? (i := 37) rfl))) (by decide) (backOf (W := 0) (rm8 l Z a0 hw [] b77 ((own_word v21).set j76.toNatClampNeg v6) wV cl wNO wBY_NAME wBY_TYPE wCONSTRUCTOR sNO sBY_NAME sBY_TYPE sCONSTRUCTOR gz T83.heap n0 Z83 ((((O.keep Kq59 all0).wr W76 g_r59).ext E77).keep Kq83 (allS g_b77 all0)) O2 P5 S_V Ar_V E_V FC hsz hat0 hat1 hat2 hat3 FV_NO FV_BY_NAME FV_BY_TYPE FV_CONSTRUCTOR EX_NO EX_BY_NAME EX_BY_TYPE EX_CONSTRUCTOR Str_NO Str_BY_NAME Str_BY_TYPE Str_CONSTRUCTOR Sq83) hZ (hw _ (List.mem_of_getElem? (i := 37) rfl)) (hw _ (List.mem_of_getElem? (i := 36) rfl)) (by decide) (by decide)) (g := (mkF m 213 (own_AIIIIIIIIRR p0 p1 p2 p3 v6 v14 v21 v27 b77 r59) [(.ref b77)])) rfl (by rw [hml]; rfl) (argsL := [(.ref b77)]) (rest := []) (lenOf pd_0_2 rfl) rfl (by show 2 * 0 + _ ≤ _; exact Nat.le_of_eq rfl) (hb hby at_213) (fun _ _ => ⟨rfl, rfl, (by decide : 3 + 1 ≤ _), (by decide : 21 + 4 ≤ _)⟩)
        dsimp only [Pt.U, Pt.locs, Pt.cells, Pt.slots] at X213 l213 y213 z213 st213 hQ213
        subst l213 y213 z213
        obtain ⟨rfl, N213q, Kq213⟩ := hQ213
        have N213 := Fr.app N83 N213q
        have K213 : Keep h0 T213.heap [] := K83.trans Kq213 (fun x hx => nomatch hx)
        have Z213 : n0 ≤ T213.heap.size := Nat.le_trans Z83 Kq213.1
        have CC213 := CHr.keep Kq213 sf0 CC83.1
        have CR213 := CR83.trans CC213
        obtain ⟨g213, hg213⟩ : ∃ z : Value, z = (if ([(110 : Int32), (111 : Int32)] : List Int32) = ((own_word v21).set j76.toNatClampNeg v6) then Value.ref wNO else (if ([(98 : Int32), (121 : Int32), (78 : Int32), (97 : Int32), (109 : Int32), (101 : Int32)] : List Int32) = ((own_word v21).set j76.toNatClampNeg v6) then Value.ref wBY_NAME else (if ([(98 : Int32), (121 : Int32), (84 : Int32), (121 : Int32), (112 : Int32), (101 : Int32)] : List Int32) = ((own_word v21).set j76.toNatClampNeg v6) then Value.ref wBY_TYPE else (if ([(99 : Int32), (111 : Int32), (110 : Int32), (115 : Int32), (116 : Int32), (114 : Int32), (117 : Int32), (99 : Int32), (116 : Int32), (111 : Int32), (114 : Int32)] : List Int32) = ((own_word v21).set j76.toNatClampNeg v6) then Value.ref wCONSTRUCTOR else Value.null)))) := ⟨_, rfl⟩
        rw [← hg213] at st213
        have hgr213 : g213.isRef = true := by rw [hg213]; repeat' (first | rfl | (refine own_isr rfl ?_))
        refine own_by st213 ?_
        have sg222 : ∀ t, own_S p e below T213 (mkF m 222 (own_AIIIIIIIIRV p0 p1 p2 p3 v6 v14 v21 v27 b77 g213) [(.ref b77), g213]) t → own_S p e below T213 (mkF m 216 (own_AIIIIIIIIRR p0 p1 p2 p3 v6 v14 v21 v27 b77 r59) [g213]) t := by
          intro t k
          show own_S p e below T213 (mkF m 216 (own_AIIIIIIIIRR p0 p1 p2 p3 v6 v14 v21 v27 b77 r59) [g213]) _
          refine XS.astore X213.here hx rfl (hb hby at_216) rfl hgr213 (l' := (own_AIIIIIIIIRV p0 p1 p2 p3 v6 v14 v21 v27 b77 g213)) (by simp [storeLocals, storeSelf, setAt, own_cat1 hgr213, own_catr, own_catn]) ?_
          show own_S p e below T213 (mkF m 218 (own_AIIIIIIIIRV p0 p1 p2 p3 v6 v14 v21 v27 b77 g213) []) _
          refine XS.aload X213.here hx rfl (hb hby at_218) rfl hgr213 ?_
          show own_S p e below T213 (mkF m 220 (own_AIIIIIIIIRV p0 p1 p2 p3 v6 v14 v21 v27 b77 g213) [g213]) _
          refine XS.aload X213.here hx rfl (hb hby at_220) rfl rfl ?_
          exact k
        refine own_by sg222 ?_
        obtain ⟨_, _, ⟨T222, L222, k222, n222⟩, -, Xc222, hSc222, hgc222, ⟨Lc222, hQ222, l222, y222, z222, hC222⟩, st222⟩ := callSS X213 hx (y := (⟨"com/example/spojka/spojka/AutowireModeNamedPinLaw", "expected", "(Ljava/lang/String;)Lcom/example/spojka/spojka/AutowireMode;"⟩ : MethodName)) hown (mvT hZ (hw _ (List.mem_of_getElem? (i := 69) rfl))) (mvT hZ (hw _ (List.mem_of_getElem? (i := 70) rfl))) (mvT hZ (hw _ (List.mem_of_getElem? (i := 5) rfl))) (mvT hZ (hw _ (List.mem_of_getElem? (i := 71) rfl))) (by decide) (backOfSH (W := 1) (rm12 l Z a0 hw [] b77 ((own_word v21).set j76.toNatClampNeg v6) wNO wBY_NAME wBY_TYPE wCONSTRUCTOR gz T213.heap n0 Z213 (((((O.keep Kq59 all0).wr W76 g_r59).ext E77).keep Kq83 (allS g_b77 all0)).keep Kq213 all0) O2 P5 (Sq83.ext (own_kx Kq213)) S_NO S_BY_NAME S_BY_TYPE S_CONSTRUCTOR) hZ (hw _ (List.mem_of_getElem? (i := 71) rfl)) (hw _ (List.mem_of_getElem? (i := 5) rfl)) (by decide) (by decide) hEL CC213.1) (g := (mkF m 222 (own_AIIIIIIIIRV p0 p1 p2 p3 v6 v14 v21 v27 b77 g213) [(.ref b77), g213])) rfl (by rw [hml]; rfl) (argsL := [(.ref b77)]) (rest := [g213]) (lenOf pd_0_2 rfl) rfl (by show 2 * 0 + (List.map (fun v => Value.category v) [g213]).sum ≤ 1; simp [own_cat1 hgr213, own_catr, own_catn]) (hb hby at_222) (fun _ _ => ⟨rfl, rfl, (by decide : 4 + 8 ≤ _), (by decide : 25 + 116 ≤ _)⟩)
        dsimp only [Pt.U, Pt.locs, Pt.cells, Pt.slots] at Xc222 hSc222 hgc222
        obtain ⟨X222, hS222, hZ222, hown222⟩ := rebS hS0 (Nat.le_trans (Nat.le_trans (Nat.le_trans (Nat.le_trans (Nat.le_trans (Nat.zero_le _) Kq59.1) (Keep.of_wr W76).1) E77.1) Kq83.1) Kq213.1) Xc222 hSc222 hgc222 hZ hown
        dsimp only [Pt.U, Pt.locs, Pt.cells, Pt.slots] at X222 l222 y222 z222 st222 hQ222
        subst l222 y222 z222
        obtain ⟨rfl, N222q, Kq222⟩ := hQ222
        have N222 := Fr.app N213 N222q
        have fc_2 := ((fc.keep Kq213 List.not_mem_nil).keep Kq222 List.not_mem_nil)
        have K222 : Keep h0 T222.heap [] := K213.trans Kq222 (fun x hx => nomatch hx)
        have Z222 : n0 ≤ T222.heap.size := Nat.le_trans Z213 Kq222.1
        rw [← hg213] at st222
        have CR222 := CR213.trans hC222
        refine own_by (fun t k => st222.trans k) ?_
        have sg233 : ∀ t, own_S p e below T222 (mkF m 233 (own_AIIIIIIIIRV p0 p1 p2 p3 v6 v14 v21 v27 b77 g213) [(.int (1 : Int32))]) t → own_S p e below T222 (mkF m 225 (own_AIIIIIIIIRV p0 p1 p2 p3 v6 v14 v21 v27 b77 g213) [g213, g213]) t := by
          intro t k
          show own_S p e below T222 (mkF m 225 (own_AIIIIIIIIRV p0 p1 p2 p3 v6 v14 v21 v27 b77 g213) [g213, g213]) _
          refine Jvm.RoadKit.acmp (g := (mkF m 225 (own_AIIIIIIIIRV p0 p1 p2 p3 v6 v14 v21 v27 b77 g213) [g213, g213])) X222 hx rfl hgr213 hgr213 (pc0 := 225) (pc' := 228) (same := true) rfl (hb hby at_225) rfl (decide_eq_true (rfl : (g213 : Value) = g213)) (by decide) (by decide) ?_
          show own_S p e below T222 (mkF m 228 (own_AIIIIIIIIRV p0 p1 p2 p3 v6 v14 v21 v27 b77 g213) []) _
          refine XS.iconst X222.here hx rfl (hb hby at_228) ?_
          show own_S p e below T222 (mkF m 229 (own_AIIIIIIIIRV p0 p1 p2 p3 v6 v14 v21 v27 b77 g213) [(.int (1 : Int32))]) _
          refine XS.goto X222.here hx rfl (pc0 := 229) (pc' := 233) rfl (hb hby at_229) (by decide) (by decide) ?_
          exact k
        refine own_by sg233 ?_
        obtain ⟨fs, hr, hrun, hended, hW⟩ := X222.leaveW hS222 (Nat.le_refl _) (v := some (.int (1 : Int32))) (fun h => by rw [Bd.returns] at h; cases h)
        refine ⟨_, _, ?_, hrun, hended, _, _, rfl, ?_, (by rw [hh]; show CHr Z consts_1 s.vm h0 T222.vm T222.heap; exact CR222.trans (CHv.at X222 hZ222 hEL hC222.1)), hW.1, hW.2.1, hW.2.2.1, hW.2.2.2.mono (by decide) (by decide)⟩
        · exact retN X222 hx (t := .boolean) Bd.returns (by simp) (hb hby at_233) hr
        · show Q0 Z p0 p1 p2 p3 wV cl wNO wBY_NAME wBY_TYPE wCONSTRUCTOR sNO sBY_NAME sBY_TYPE sCONSTRUCTOR gz h0 n0 _ T222.heap _
          exact ⟨rfl, N222⟩
      · have sg59 : ∀ t, own_S p e below s₁ (mkF m 59 (own_AIIIIIIIIUU p0 p1 p2 p3 v6 v14 v21 v27) [(.int v21)]) t → own_S p e below s₁ (mkF m 57 (own_AIIIIIIIIUU p0 p1 p2 p3 v6 v14 v21 v27) []) t := by
          intro t k
          show own_S p e below s₁ (mkF m 57 (own_AIIIIIIIIUU p0 p1 p2 p3 v6 v14 v21 v27) []) _
          refine XS.iload X0.here hx rfl (hb hby at_57) rfl ?_
          exact k
        refine own_by sg59 ?_
        obtain ⟨_, _, ⟨T59, L59, k59, n59⟩, -, X59, ⟨Lc59, hQ59, l59, y59, z59⟩, st59⟩ := Jvm.LawKit.callS X0 hx (y := (⟨"com/example/spojka/spojka/AutowireModeNamedPinLaw", "word", "(I)[C"⟩ : MethodName)) hown (mvT hZ (hw _ (List.mem_of_getElem? (i := 3) rfl))) (mvT hZ (hw _ (List.mem_of_getElem? (i := 4) rfl))) (mvT hZ (hw _ (List.mem_of_getElem? (i := 5) rfl))) (mvT hZ (hw _ (List.mem_of_getElem? (i := 6) rfl))) (by decide) (backOf (W := 0) (rm1 l Z a0 hw [] v21 h0 n0 Z0 ) hZ (hw _ (List.mem_of_getElem? (i := 6) rfl)) (hw _ (List.mem_of_getElem? (i := 5) rfl)) (by decide) (by decide)) (g := (mkF m 59 (own_AIIIIIIIIUU p0 p1 p2 p3 v6 v14 v21 v27) [(.int v21)])) rfl (by rw [hml]; rfl) (argsL := [(.int v21)]) (rest := []) (lenOf pd_0_0 rfl) rfl (by show 2 * 0 + _ ≤ _; exact Nat.le_of_eq rfl) (hb hby at_59) (fun _ _ => ⟨rfl, e0, (by decide : 0 + 1 ≤ _), (by decide : 0 + 11 ≤ _)⟩)
        dsimp only [Pt.U, Pt.locs, Pt.cells, Pt.slots] at X59 l59 y59 z59 st59 hQ59
        subst l59 y59 z59
        obtain ⟨r59, kc59, rfl, ge59, N59q, Kq59, Aq59⟩ := hQ59
        have N59 := Fr.app N0 N59q
        have ln59 : (own_word v21).length = 11 := (by rw [hi3]; rfl)
        rw [ln59] at Aq59
        have An59 : Arv Z T59.heap r59 kc59 .char (11 : Int32) ((own_word v21).map Value.int) (.int (0 : Int32)) := Aq59
        have hp59 : ∀ c ∈ (own_word v21), ¬ c < 0 ∧ ¬ (255 : Int32) < c := own_word_hp _
        have g_r59 : n0 ≤ r59 := Nat.le_trans Z0 ge59
        have sz_r59 : h0.size ≤ r59 := Nat.le_trans K0.1 ge59
        have K59 : Keep h0 T59.heap [] := K0.trans Kq59 (fun x hx => nomatch hx)
        have Z59 : n0 ≤ T59.heap.size := Nat.le_trans Z0 Kq59.1
        have CC59 := CHr.keep Kq59 sf0 hH0
        have CR59 := (CHr.refl hH0).trans CC59
        refine own_by st59 ?_
        have sg72 : ∀ t, own_S p e below T59 (mkF m 72 (own_AIIIIIIIIUR p0 p1 p2 p3 v6 v14 v21 v27 r59) [(.ref r59), (.int (p1 &&& (2147483647 : Int32))), (.ref r59)]) t → own_S p e below T59 (mkF m 62 (own_AIIIIIIIIUU p0 p1 p2 p3 v6 v14 v21 v27) [(.ref r59)]) t := by
          intro t k
          show own_S p e below T59 (mkF m 62 (own_AIIIIIIIIUU p0 p1 p2 p3 v6 v14 v21 v27) [(.ref r59)]) _
          refine XS.astore X59.here hx rfl (hb hby at_62) rfl rfl (l' := (own_AIIIIIIIIUR p0 p1 p2 p3 v6 v14 v21 v27 r59)) rfl ?_
          show own_S p e below T59 (mkF m 64 (own_AIIIIIIIIUR p0 p1 p2 p3 v6 v14 v21 v27 r59) []) _
          refine XS.aload X59.here hx rfl (hb hby at_64) rfl rfl ?_
          show own_S p e below T59 (mkF m 66 (own_AIIIIIIIIUR p0 p1 p2 p3 v6 v14 v21 v27 r59) [(.ref r59)]) _
          refine XS.iloadN X59.here hx rfl (hb hby at_66) rfl ?_
          show own_S p e below T59 (mkF m 67 (own_AIIIIIIIIUR p0 p1 p2 p3 v6 v14 v21 v27 r59) [(.int p1), (.ref r59)]) _
          refine X59.ldcInt hx hown (mvT hZ (hw _ (List.mem_of_getElem? (i := 84) rfl))) (g := (mkF m 67 (own_AIIIIIIIIUR p0 p1 p2 p3 v6 v14 v21 v27 r59) [(.int p1), (.ref r59)])) rfl (hb hby at_67) _ ?_
          show own_S p e below T59 (mkF m 69 (own_AIIIIIIIIUR p0 p1 p2 p3 v6 v14 v21 v27 r59) [(.int (2147483647 : Int32)), (.int p1), (.ref r59)]) _
          refine XS.iand X59.here hx rfl (hb hby at_69) rfl ?_
          show own_S p e below T59 (mkF m 70 (own_AIIIIIIIIUR p0 p1 p2 p3 v6 v14 v21 v27 r59) [(.int (p1 &&& (2147483647 : Int32))), (.ref r59)]) _
          refine XS.aload X59.here hx rfl (hb hby at_70) rfl rfl ?_
          exact k
        refine own_by sg72 ?_
        obtain ⟨clw, Arw, qaw, Saw, Naw, Haw, Gaw⟩ := id An59
        obtain ⟨j76, hj76⟩ : ∃ z : Int32, z = ((p1 &&& (2147483647 : Int32)) % (11 : Int32)) := ⟨_, rfl⟩
        have sg76 : ∀ t, own_S p e below T59 (mkF m 76 (own_AIIIIIIIIUR p0 p1 p2 p3 v6 v14 v21 v27 r59) [(.int v6), (.int j76), (.ref r59)]) t → own_S p e below T59 (mkF m 72 (own_AIIIIIIIIUR p0 p1 p2 p3 v6 v14 v21 v27 r59) [(.ref r59), (.int (p1 &&& (2147483647 : Int32))), (.ref r59)]) t := by
          intro t k
          rw [hj76] at k
          show own_S p e below T59 (mkF m 72 (own_AIIIIIIIIUR p0 p1 p2 p3 v6 v14 v21 v27 r59) [(.ref r59), (.int (p1 &&& (2147483647 : Int32))), (.ref r59)]) _
          refine X59.arraylength hx (by exact Arw.1) (State.isArrayOf_alike hZ.alike Arw.2.1) (g := (mkF m 72 (own_AIIIIIIIIUR p0 p1 p2 p3 v6 v14 v21 v27 r59) [(.ref r59), (.int (p1 &&& (2147483647 : Int32))), (.ref r59)])) rfl rfl (hb hby at_72) _ ?_
          rw [len_of Saw Naw]
          show own_S p e below T59 (mkF m 73 (own_AIIIIIIIIUR p0 p1 p2 p3 v6 v14 v21 v27 r59) [(.int (11 : Int32)), (.int (p1 &&& (2147483647 : Int32))), (.ref r59)]) _
          refine iremM X59 hx rfl (hb hby at_73) rfl (by decide) ?_
          show own_S p e below T59 (mkF m 74 (own_AIIIIIIIIUR p0 p1 p2 p3 v6 v14 v21 v27 r59) [(.int ((p1 &&& (2147483647 : Int32)) % (11 : Int32))), (.ref r59)]) _
          refine XS.iload X59.here hx rfl (hb hby at_74) rfl ?_
          exact k
        refine own_by sg76 ?_
        obtain ⟨cl76, Ar76, qa76, Sa76, Na76, Ha76, Ga76⟩ := id An59
        have jp76 : ¬ j76 < 0 ∧ j76 < (11 : Int32) := (by rw [hj76]; exact own_p11 _)
        obtain ⟨T76, h76, X76, e76, W76, st76⟩ := stC X59 hx hZ rfl Ar76 (j := j76) (inb_of Sa76 jp76) (g := (mkF m 76 (own_AIIIIIIIIUR p0 p1 p2 p3 v6 v14 v21 v27 r59) [(.int v6), (.int j76), (.ref r59)])) rfl rfl (hb hby at_76)
        have V76 : Arv Z h76 r59 kc59 .char (11 : Int32) (((own_word v21).set j76.toNatClampNeg v6).map Value.int) (.int (0 : Int32)) := by
          have q := Arv.set Ar76 qa76 Sa76 Na76 Ha76 Ga76 (fits_nar_char _) W76 j76.toNatClampNeg rfl (by rw [List.length_map, ln59]; exact own_clamp jp76 (by decide))
          rw [own_narc hk_v6] at q
          rw [List.map_set]; exact q
        have ln76 : ((own_word v21).set j76.toNatClampNeg v6).length = 11 := by rw [List.length_set]; exact ln59
        have hp76 : ∀ c ∈ ((own_word v21).set j76.toNatClampNeg v6), ¬ c < 0 ∧ ¬ (255 : Int32) < c := own_hpset hp59 hk_v6
        have K76 : Keep h0 h76 [] := K59.wr W76 (Or.inr sz_r59)
        have Z76 : n0 ≤ h76.size := Nat.le_trans Z59 (Keep.of_wr W76).1
        have CC76 := CHr.wr W76 (Safe.arv hZ.alike An59 (by decide)) CC59.1
        have CR76 := CR59.trans CC76
        have N76 := Fr.snoc X76 N59 g_r59
        refine own_by st76 ?_
        obtain ⟨T77, h77, X77, e77, E77, A77, D77, -, st77⟩ := newO X76 hx hZ hown (hw _ (List.mem_of_getElem? (i := 0) rfl)) (hw _ (List.mem_of_getElem? (i := 1) rfl)) (hw _ (List.mem_of_getElem? (i := 2) rfl)) e76 (g := (mkF m 77 (own_AIIIIIIIIUR p0 p1 p2 p3 v6 v14 v21 v27 r59) [])) rfl (hb hby at_77) (by decide) (by decide)
        obtain ⟨b77, g77⟩ : ∃ z, z = h76.size := ⟨_, rfl⟩
        rw [← g77] at A77 D77 st77
        have ne_r59_b77 : r59 ≠ b77 := Nat.ne_of_lt (Nat.lt_of_lt_of_le V76.lt (Nat.le_of_eq g77.symm))
        have g_b77 : n0 ≤ b77 := Nat.le_trans Z76 (Nat.le_of_eq g77.symm)
        have sz_b77 : h0.size ≤ b77 := Nat.le_trans K76.1 (Nat.le_of_eq g77.symm)
        have K77 := K76.ext E77
        have Z77 : n0 ≤ h77.size := Nat.le_trans Z76 E77.1
        have CC77 := CHr.ext E77 CC76.1
        have CR77 := CR76.trans CC77
        have F_coder_b77 : Fld Z h77 b77 "java/lang/String" "coder" "B" (.int (0 : Int32)) := D77 (Or.inr (hw _ (List.mem_of_getElem? (i := 31) rfl))) (ty := .byte) (by decide)
        have F_value_b77 : Fld Z h77 b77 "java/lang/String" "value" "[B" .null := D77 (Or.inr (hw _ (List.mem_of_getElem? (i := 33) rfl))) (ty := (.array .byte)) (by decide)
        refine own_by st77 ?_
        have sg83 : ∀ t, own_S p e below T77 (mkF m 83 (own_AIIIIIIIIUR p0 p1 p2 p3 v6 v14 v21 v27 r59) [(.ref r59), (.ref b77), (.ref b77)]) t → own_S p e below T77 (mkF m 80 (own_AIIIIIIIIUR p0 p1 p2 p3 v6 v14 v21 v27 r59) [(.ref b77)]) t := by
          intro t k
          show own_S p e below T77 (mkF m 80 (own_AIIIIIIIIUR p0 p1 p2 p3 v6 v14 v21 v27 r59) [(.ref b77)]) _
          refine XS.dup X77.here hx rfl (hb hby at_80) rfl rfl ?_
          show own_S p e below T77 (mkF m 81 (own_AIIIIIIIIUR p0 p1 p2 p3 v6 v14 v21 v27 r59) [(.ref b77), (.ref b77)]) _
          refine XS.aload X77.here hx rfl (hb hby at_81) rfl rfl ?_
          exact k
        refine own_by sg83 ?_
        obtain ⟨_, _, ⟨T83, L83, k83, n83⟩, -, X83, ⟨Lc83, hQ83, l83, y83, z83⟩, st83⟩ := X77.specialBack hx (y := (⟨"java/lang/String", "<init>", "([C)V"⟩ : MethodName)) rfl hown (mvT hZ (hw _ (List.mem_of_getElem? (i := 8) rfl))) (mvT hZ (hw _ (List.mem_of_getElem? (i := 9) rfl))) (mvT hZ (hw _ (List.mem_of_getElem? (i := 10) rfl))) (by decide) (StrChars.Road.backV (W := 1) hZ hws (kI := 4) (hw _ (List.mem_of_getElem? (i := 1) rfl)) (cs := ((own_word v21).set j76.toNatClampNeg v6)) (bs := ((own_word v21).set j76.toNatClampNeg v6).map (fun c => c.toInt8.toInt32)) (n := 11) g_b77 Z77 A77 F_value_b77 F_coder_b77 (V76.ext E77) (O2.ext (((O.keep Kq59 all0).wr W76 g_r59).ext E77).2) P5 ln76 rfl (by decide) (by decide) hp76 rfl (by decide) (by decide)) (g := (mkF m 83 (own_AIIIIIIIIUR p0 p1 p2 p3 v6 v14 v21 v27 r59) [(.ref r59), (.ref b77), (.ref b77)])) rfl (by rw [hml]; rfl) (Steps.refl _) (a := b77) (argsL := [(.ref r59)]) (rest := [(.ref b77)]) (lenOf pd_0_1 rfl) rfl (by show 2 * 0 + _ ≤ _; exact Nat.le_of_eq rfl) (hb hby at_83) (fun _ _ => ⟨rfl, e77, (by decide : 2 + 1 ≤ _), (by decide : 15 + 11 ≤ _)⟩)
        dsimp only [Pt.U, Pt.locs, Pt.cells, Pt.slots] at X83 l83 y83 z83 st83 hQ83
        subst l83 y83 z83
        obtain ⟨rfl, N83q, Kq83, Eq83, Cq83, t83, kb83, u183, u283, u383, Vq83, Aq83⟩ := hQ83
        have N83 := Fr.app N76 N83q
        have Sq83 : own_Str Z T83.heap b77 ((own_word v21).set j76.toNatClampNeg v6) := ⟨t83, kb83, 0, _, _, Eq83, Vq83, Cq83, Aq83, StrChars.Road.codOf (n := 11) ln76 (fun x hx => (hp76 x hx).2), own_up _ hp76, by rw [ln76]; decide⟩
        have fc := ((V76.ext E77).keep Kq83 (fun h => ne_r59_b77 (List.mem_singleton.mp h)))
        have K83 : Keep h0 T83.heap [] := K77.trans Kq83 (fun x hx => by cases List.mem_singleton.mp hx; exact Or.inr sz_b77)
        have Z83 : n0 ≤ T83.heap.size := Nat.le_trans Z77 Kq83.1
        have CC83 := CHr.keep Kq83 (sfS (own_safe0 hZ.alike A77 F_value_b77 (hw _ (List.mem_of_getElem? (i := 1) rfl))) sf0) CC77.1
        have CR83 := CR77.trans CC83
        refine own_by (fun t k => st83.trans k) ?_
        have sg213 : ∀ t, own_S p e below T83 (mkF m 213 (own_AIIIIIIIIRR p0 p1 p2 p3 v6 v14 v21 v27 b77 r59) [(.ref b77)]) t → own_S p e below T83 (mkF m 86 (own_AIIIIIIIIUR p0 p1 p2 p3 v6 v14 v21 v27 r59) [(.ref b77)]) t := by
          intro t k
          show own_S p e below T83 (mkF m 86 (own_AIIIIIIIIUR p0 p1 p2 p3 v6 v14 v21 v27 r59) [(.ref b77)]) _
          refine XS.astore X83.here hx rfl (hb hby at_86) rfl rfl (l' := (own_AIIIIIIIIRR p0 p1 p2 p3 v6 v14 v21 v27 b77 r59)) rfl ?_
          show own_S p e below T83 (mkF m 88 (own_AIIIIIIIIRR p0 p1 p2 p3 v6 v14 v21 v27 b77 r59) []) _
          refine XS.goto X83.here hx rfl (pc0 := 88) (pc' := 211) rfl (hb hby at_88) (by decide) (by decide) ?_
          show own_S p e below T83 (mkF m 211 (own_AIIIIIIIIRR p0 p1 p2 p3 v6 v14 v21 v27 b77 r59) []) _
          refine XS.aload X83.here hx rfl (hb hby at_211) rfl rfl ?_
          exact k
        refine own_by sg213 ?_
        obtain ⟨_, _, ⟨T213, L213, k213, n213⟩, -, X213, ⟨Lc213, hQ213, l213, y213, z213⟩, st213⟩ := Jvm.LawKit.callS X83 hx (y := (⟨"com/example/spojka/spojka/AutowireMode", "named", "(Ljava/lang/String;)Lcom/example/spojka/spojka/AutowireMode;"⟩ : MethodName)) hown (mvT hZ (hw _ (List.mem_of_getElem? (i := 34) rfl))) (mvT hZ (hw _ (List.mem_of_getElem? (i := 35) rfl))) (mvT hZ (hw _ (List.mem_of_getElem? (i := 36) rfl))) (mvT hZ (hw _ (List.mem_of_getElem? (i := 37) rfl))) (by decide) (backOf (W := 0) (rm8 l Z a0 hw [] b77 ((own_word v21).set j76.toNatClampNeg v6) wV cl wNO wBY_NAME wBY_TYPE wCONSTRUCTOR sNO sBY_NAME sBY_TYPE sCONSTRUCTOR gz T83.heap n0 Z83 ((((O.keep Kq59 all0).wr W76 g_r59).ext E77).keep Kq83 (allS g_b77 all0)) O2 P5 S_V Ar_V E_V FC hsz hat0 hat1 hat2 hat3 FV_NO FV_BY_NAME FV_BY_TYPE FV_CONSTRUCTOR EX_NO EX_BY_NAME EX_BY_TYPE EX_CONSTRUCTOR Str_NO Str_BY_NAME Str_BY_TYPE Str_CONSTRUCTOR Sq83) hZ (hw _ (List.mem_of_getElem? (i := 37) rfl)) (hw _ (List.mem_of_getElem? (i := 36) rfl)) (by decide) (by decide)) (g := (mkF m 213 (own_AIIIIIIIIRR p0 p1 p2 p3 v6 v14 v21 v27 b77 r59) [(.ref b77)])) rfl (by rw [hml]; rfl) (argsL := [(.ref b77)]) (rest := []) (lenOf pd_0_2 rfl) rfl (by show 2 * 0 + _ ≤ _; exact Nat.le_of_eq rfl) (hb hby at_213) (fun _ _ => ⟨rfl, rfl, (by decide : 3 + 1 ≤ _), (by decide : 26 + 4 ≤ _)⟩)
        dsimp only [Pt.U, Pt.locs, Pt.cells, Pt.slots] at X213 l213 y213 z213 st213 hQ213
        subst l213 y213 z213
        obtain ⟨rfl, N213q, Kq213⟩ := hQ213
        have N213 := Fr.app N83 N213q
        have K213 : Keep h0 T213.heap [] := K83.trans Kq213 (fun x hx => nomatch hx)
        have Z213 : n0 ≤ T213.heap.size := Nat.le_trans Z83 Kq213.1
        have CC213 := CHr.keep Kq213 sf0 CC83.1
        have CR213 := CR83.trans CC213
        obtain ⟨g213, hg213⟩ : ∃ z : Value, z = (if ([(110 : Int32), (111 : Int32)] : List Int32) = ((own_word v21).set j76.toNatClampNeg v6) then Value.ref wNO else (if ([(98 : Int32), (121 : Int32), (78 : Int32), (97 : Int32), (109 : Int32), (101 : Int32)] : List Int32) = ((own_word v21).set j76.toNatClampNeg v6) then Value.ref wBY_NAME else (if ([(98 : Int32), (121 : Int32), (84 : Int32), (121 : Int32), (112 : Int32), (101 : Int32)] : List Int32) = ((own_word v21).set j76.toNatClampNeg v6) then Value.ref wBY_TYPE else (if ([(99 : Int32), (111 : Int32), (110 : Int32), (115 : Int32), (116 : Int32), (114 : Int32), (117 : Int32), (99 : Int32), (116 : Int32), (111 : Int32), (114 : Int32)] : List Int32) = ((own_word v21).set j76.toNatClampNeg v6) then Value.ref wCONSTRUCTOR else Value.null)))) := ⟨_, rfl⟩
        rw [← hg213] at st213
        have hgr213 : g213.isRef = true := by rw [hg213]; repeat' (first | rfl | (refine own_isr rfl ?_))
        refine own_by st213 ?_
        have sg222 : ∀ t, own_S p e below T213 (mkF m 222 (own_AIIIIIIIIRV p0 p1 p2 p3 v6 v14 v21 v27 b77 g213) [(.ref b77), g213]) t → own_S p e below T213 (mkF m 216 (own_AIIIIIIIIRR p0 p1 p2 p3 v6 v14 v21 v27 b77 r59) [g213]) t := by
          intro t k
          show own_S p e below T213 (mkF m 216 (own_AIIIIIIIIRR p0 p1 p2 p3 v6 v14 v21 v27 b77 r59) [g213]) _
          refine XS.astore X213.here hx rfl (hb hby at_216) rfl hgr213 (l' := (own_AIIIIIIIIRV p0 p1 p2 p3 v6 v14 v21 v27 b77 g213)) (by simp [storeLocals, storeSelf, setAt, own_cat1 hgr213, own_catr, own_catn]) ?_
          show own_S p e below T213 (mkF m 218 (own_AIIIIIIIIRV p0 p1 p2 p3 v6 v14 v21 v27 b77 g213) []) _
          refine XS.aload X213.here hx rfl (hb hby at_218) rfl hgr213 ?_
          show own_S p e below T213 (mkF m 220 (own_AIIIIIIIIRV p0 p1 p2 p3 v6 v14 v21 v27 b77 g213) [g213]) _
          refine XS.aload X213.here hx rfl (hb hby at_220) rfl rfl ?_
          exact k
        refine own_by sg222 ?_
        obtain ⟨_, _, ⟨T222, L222, k222, n222⟩, -, Xc222, hSc222, hgc222, ⟨Lc222, hQ222, l222, y222, z222, hC222⟩, st222⟩ := callSS X213 hx (y := (⟨"com/example/spojka/spojka/AutowireModeNamedPinLaw", "expected", "(Ljava/lang/String;)Lcom/example/spojka/spojka/AutowireMode;"⟩ : MethodName)) hown (mvT hZ (hw _ (List.mem_of_getElem? (i := 69) rfl))) (mvT hZ (hw _ (List.mem_of_getElem? (i := 70) rfl))) (mvT hZ (hw _ (List.mem_of_getElem? (i := 5) rfl))) (mvT hZ (hw _ (List.mem_of_getElem? (i := 71) rfl))) (by decide) (backOfSH (W := 1) (rm12 l Z a0 hw [] b77 ((own_word v21).set j76.toNatClampNeg v6) wNO wBY_NAME wBY_TYPE wCONSTRUCTOR gz T213.heap n0 Z213 (((((O.keep Kq59 all0).wr W76 g_r59).ext E77).keep Kq83 (allS g_b77 all0)).keep Kq213 all0) O2 P5 (Sq83.ext (own_kx Kq213)) S_NO S_BY_NAME S_BY_TYPE S_CONSTRUCTOR) hZ (hw _ (List.mem_of_getElem? (i := 71) rfl)) (hw _ (List.mem_of_getElem? (i := 5) rfl)) (by decide) (by decide) hEL CC213.1) (g := (mkF m 222 (own_AIIIIIIIIRV p0 p1 p2 p3 v6 v14 v21 v27 b77 g213) [(.ref b77), g213])) rfl (by rw [hml]; rfl) (argsL := [(.ref b77)]) (rest := [g213]) (lenOf pd_0_2 rfl) rfl (by show 2 * 0 + (List.map (fun v => Value.category v) [g213]).sum ≤ 1; simp [own_cat1 hgr213, own_catr, own_catn]) (hb hby at_222) (fun _ _ => ⟨rfl, rfl, (by decide : 4 + 8 ≤ _), (by decide : 30 + 116 ≤ _)⟩)
        dsimp only [Pt.U, Pt.locs, Pt.cells, Pt.slots] at Xc222 hSc222 hgc222
        obtain ⟨X222, hS222, hZ222, hown222⟩ := rebS hS0 (Nat.le_trans (Nat.le_trans (Nat.le_trans (Nat.le_trans (Nat.le_trans (Nat.zero_le _) Kq59.1) (Keep.of_wr W76).1) E77.1) Kq83.1) Kq213.1) Xc222 hSc222 hgc222 hZ hown
        dsimp only [Pt.U, Pt.locs, Pt.cells, Pt.slots] at X222 l222 y222 z222 st222 hQ222
        subst l222 y222 z222
        obtain ⟨rfl, N222q, Kq222⟩ := hQ222
        have N222 := Fr.app N213 N222q
        have fc_2 := ((fc.keep Kq213 List.not_mem_nil).keep Kq222 List.not_mem_nil)
        have K222 : Keep h0 T222.heap [] := K213.trans Kq222 (fun x hx => nomatch hx)
        have Z222 : n0 ≤ T222.heap.size := Nat.le_trans Z213 Kq222.1
        rw [← hg213] at st222
        have CR222 := CR213.trans hC222
        refine own_by (fun t k => st222.trans k) ?_
        have sg233 : ∀ t, own_S p e below T222 (mkF m 233 (own_AIIIIIIIIRV p0 p1 p2 p3 v6 v14 v21 v27 b77 g213) [(.int (1 : Int32))]) t → own_S p e below T222 (mkF m 225 (own_AIIIIIIIIRV p0 p1 p2 p3 v6 v14 v21 v27 b77 g213) [g213, g213]) t := by
          intro t k
          show own_S p e below T222 (mkF m 225 (own_AIIIIIIIIRV p0 p1 p2 p3 v6 v14 v21 v27 b77 g213) [g213, g213]) _
          refine Jvm.RoadKit.acmp (g := (mkF m 225 (own_AIIIIIIIIRV p0 p1 p2 p3 v6 v14 v21 v27 b77 g213) [g213, g213])) X222 hx rfl hgr213 hgr213 (pc0 := 225) (pc' := 228) (same := true) rfl (hb hby at_225) rfl (decide_eq_true (rfl : (g213 : Value) = g213)) (by decide) (by decide) ?_
          show own_S p e below T222 (mkF m 228 (own_AIIIIIIIIRV p0 p1 p2 p3 v6 v14 v21 v27 b77 g213) []) _
          refine XS.iconst X222.here hx rfl (hb hby at_228) ?_
          show own_S p e below T222 (mkF m 229 (own_AIIIIIIIIRV p0 p1 p2 p3 v6 v14 v21 v27 b77 g213) [(.int (1 : Int32))]) _
          refine XS.goto X222.here hx rfl (pc0 := 229) (pc' := 233) rfl (hb hby at_229) (by decide) (by decide) ?_
          exact k
        refine own_by sg233 ?_
        obtain ⟨fs, hr, hrun, hended, hW⟩ := X222.leaveW hS222 (Nat.le_refl _) (v := some (.int (1 : Int32))) (fun h => by rw [Bd.returns] at h; cases h)
        refine ⟨_, _, ?_, hrun, hended, _, _, rfl, ?_, (by rw [hh]; show CHr Z consts_1 s.vm h0 T222.vm T222.heap; exact CR222.trans (CHv.at X222 hZ222 hEL hC222.1)), hW.1, hW.2.1, hW.2.2.1, hW.2.2.2.mono (by decide) (by decide)⟩
        · exact retN X222 hx (t := .boolean) Bd.returns (by simp) (hb hby at_233) hr
        · show Q0 Z p0 p1 p2 p3 wV cl wNO wBY_NAME wBY_TYPE wCONSTRUCTOR sNO sBY_NAME sBY_TYPE sCONSTRUCTOR gz h0 n0 _ T222.heap _
          exact ⟨rfl, N222⟩
    · have sg94 : ∀ t, own_S p e below s₁ (mkF m 94 (own_AIIIIIIIIUU p0 p1 p2 p3 v6 v14 v21 v27) [(.int (2 : Int32)), (.int v27)]) t → own_S p e below s₁ (mkF m 54 (own_AIIIIIIIIUU p0 p1 p2 p3 v6 v14 v21 v27) [(.int (1 : Int32)), (.int v27)]) t := by
        intro t k
        show own_S p e below s₁ (mkF m 54 (own_AIIIIIIIIUU p0 p1 p2 p3 v6 v14 v21 v27) [(.int (1 : Int32)), (.int v27)]) _
        refine XS.icmpYes X0.here hx rfl (pc0 := 54) (pc' := 91) rfl (hb hby at_54) rfl (feq hc54).2 (by decide) (by decide) ?_
        show own_S p e below s₁ (mkF m 91 (own_AIIIIIIIIUU p0 p1 p2 p3 v6 v14 v21 v27) []) _
        refine XS.iload X0.here hx rfl (hb hby at_91) rfl ?_
        show own_S p e below s₁ (mkF m 93 (own_AIIIIIIIIUU p0 p1 p2 p3 v6 v14 v21 v27) [(.int v27)]) _
        refine XS.iconst X0.here hx rfl (hb hby at_93) ?_
        exact k
      refine own_by sg94 ?_
      by_cases hc94 : v27 = (2 : Int32)
      · have sg97 : ∀ t, own_S p e below s₁ (mkF m 97 (own_AIIIIIIIIUU p0 p1 p2 p3 v6 v14 v21 v27) []) t → own_S p e below s₁ (mkF m 94 (own_AIIIIIIIIUU p0 p1 p2 p3 v6 v14 v21 v27) [(.int (2 : Int32)), (.int v27)]) t := by
          intro t k
          show own_S p e below s₁ (mkF m 94 (own_AIIIIIIIIUU p0 p1 p2 p3 v6 v14 v21 v27) [(.int (2 : Int32)), (.int v27)]) _
          refine XS.icmpNo X0.here hx rfl (hb hby at_94) rfl (teq hc94).2 ?_
          exact k
        refine own_by sg97 ?_
        obtain ⟨T97, h97, X97, e97, E97, A97, D97, -, st97⟩ := newO X0 hx hZ hown (hw _ (List.mem_of_getElem? (i := 0) rfl)) (hw _ (List.mem_of_getElem? (i := 1) rfl)) (hw _ (List.mem_of_getElem? (i := 2) rfl)) e0 (g := (mkF m 97 (own_AIIIIIIIIUU p0 p1 p2 p3 v6 v14 v21 v27) [])) rfl (hb hby at_97) (by decide) (by decide)
        obtain ⟨b97, g97⟩ : ∃ z, z = h0.size := ⟨_, rfl⟩
        rw [← g97] at A97 D97 st97
        have g_b97 : n0 ≤ b97 := Nat.le_trans Z0 (Nat.le_of_eq g97.symm)
        have sz_b97 : h0.size ≤ b97 := Nat.le_trans K0.1 (Nat.le_of_eq g97.symm)
        have K97 := K0.ext E97
        have Z97 : n0 ≤ h97.size := Nat.le_trans Z0 E97.1
        have CC97 := CHr.ext E97 hH0
        have CR97 := (CHr.refl hH0).trans CC97
        have F_coder_b97 : Fld Z h97 b97 "java/lang/String" "coder" "B" (.int (0 : Int32)) := D97 (Or.inr (hw _ (List.mem_of_getElem? (i := 31) rfl))) (ty := .byte) (by decide)
        have F_value_b97 : Fld Z h97 b97 "java/lang/String" "value" "[B" .null := D97 (Or.inr (hw _ (List.mem_of_getElem? (i := 33) rfl))) (ty := (.array .byte)) (by decide)
        refine own_by st97 ?_
        have sg101 : ∀ t, own_S p e below T97 (mkF m 101 (own_AIIIIIIIIUU p0 p1 p2 p3 v6 v14 v21 v27) [(.ref b97), (.ref b97)]) t → own_S p e below T97 (mkF m 100 (own_AIIIIIIIIUU p0 p1 p2 p3 v6 v14 v21 v27) [(.ref b97)]) t := by
          intro t k
          show own_S p e below T97 (mkF m 100 (own_AIIIIIIIIUU p0 p1 p2 p3 v6 v14 v21 v27) [(.ref b97)]) _
          refine XS.dup X97.here hx rfl (hb hby at_100) rfl rfl ?_
          exact k
        refine own_by sg101 ?_
        rcases (by rw [hv21]; exact own_and3 _ : v21 = 0 ∨ v21 = 1 ∨ v21 = 2 ∨ v21 = 3) with hi0 | hi1 | hi2 | hi3
        · have sg103 : ∀ t, own_S p e below T97 (mkF m 103 (own_AIIIIIIIIUU p0 p1 p2 p3 v6 v14 v21 v27) [(.int v21), (.ref b97), (.ref b97)]) t → own_S p e below T97 (mkF m 101 (own_AIIIIIIIIUU p0 p1 p2 p3 v6 v14 v21 v27) [(.ref b97), (.ref b97)]) t := by
            intro t k
            show own_S p e below T97 (mkF m 101 (own_AIIIIIIIIUU p0 p1 p2 p3 v6 v14 v21 v27) [(.ref b97), (.ref b97)]) _
            refine XS.iload X97.here hx rfl (hb hby at_101) rfl ?_
            exact k
          refine own_by sg103 ?_
          obtain ⟨_, _, ⟨T103, L103, k103, n103⟩, -, X103, ⟨Lc103, hQ103, l103, y103, z103⟩, st103⟩ := Jvm.LawKit.callS X97 hx (y := (⟨"com/example/spojka/spojka/AutowireModeNamedPinLaw", "shorter", "(I)[C"⟩ : MethodName)) hown (mvT hZ (hw _ (List.mem_of_getElem? (i := 81) rfl))) (mvT hZ (hw _ (List.mem_of_getElem? (i := 82) rfl))) (mvT hZ (hw _ (List.mem_of_getElem? (i := 5) rfl))) (mvT hZ (hw _ (List.mem_of_getElem? (i := 83) rfl))) (by decide) (backOf (W := 2) (rm13 l Z a0 hw [] v21 h97 n0 Z97 ) hZ (hw _ (List.mem_of_getElem? (i := 83) rfl)) (hw _ (List.mem_of_getElem? (i := 5) rfl)) (by decide) (by decide)) (g := (mkF m 103 (own_AIIIIIIIIUU p0 p1 p2 p3 v6 v14 v21 v27) [(.int v21), (.ref b97), (.ref b97)])) rfl (by rw [hml]; rfl) (argsL := [(.int v21)]) (rest := [(.ref b97), (.ref b97)]) (lenOf pd_0_0 rfl) rfl (by show 2 * 0 + _ ≤ _; exact Nat.le_of_eq rfl) (hb hby at_103) (fun _ _ => ⟨rfl, e97, (by decide : 1 + 1 ≤ _), (by decide : 4 + 10 ≤ _)⟩)
          dsimp only [Pt.U, Pt.locs, Pt.cells, Pt.slots] at X103 l103 y103 z103 st103 hQ103
          subst l103 y103 z103
          obtain ⟨r103, kc103, rfl, ge103, N103q, Kq103, Aq103⟩ := hQ103
          have N103 := Fr.app N0 N103q
          have ln103 : (own_shorter v21).length = 1 := (by rw [hi0]; rfl)
          rw [ln103] at Aq103
          have An103 : Arv Z T103.heap r103 kc103 .char (1 : Int32) ((own_shorter v21).map Value.int) (.int (0 : Int32)) := Aq103
          have hp103 : ∀ c ∈ (own_shorter v21), ¬ c < 0 ∧ ¬ (255 : Int32) < c := own_shorter_hp _
          have ne_b97_r103 : b97 ≠ r103 := Nat.ne_of_lt (Nat.lt_of_lt_of_le A97.lt ge103)
          have g_r103 : n0 ≤ r103 := Nat.le_trans Z97 ge103
          have sz_r103 : h0.size ≤ r103 := Nat.le_trans K97.1 ge103
          have K103 : Keep h0 T103.heap [] := K97.trans Kq103 (fun x hx => nomatch hx)
          have Z103 : n0 ≤ T103.heap.size := Nat.le_trans Z97 Kq103.1
          have CC103 := CHr.keep Kq103 sf0 CC97.1
          have CR103 := CR97.trans CC103
          refine own_by st103 ?_
          obtain ⟨_, _, ⟨T106, L106, k106, n106⟩, -, X106, ⟨Lc106, hQ106, l106, y106, z106⟩, st106⟩ := X103.specialBack hx (y := (⟨"java/lang/String", "<init>", "([C)V"⟩ : MethodName)) rfl hown (mvT hZ (hw _ (List.mem_of_getElem? (i := 8) rfl))) (mvT hZ (hw _ (List.mem_of_getElem? (i := 9) rfl))) (mvT hZ (hw _ (List.mem_of_getElem? (i := 10) rfl))) (by decide) (StrChars.Road.backV (W := 1) hZ hws (kI := 4) (hw _ (List.mem_of_getElem? (i := 1) rfl)) (cs := (own_shorter v21)) (bs := (own_shorter v21).map (fun c => c.toInt8.toInt32)) (n := 1) g_b97 Z103 (A97.keep Kq103) (F_value_b97.keep Kq103 List.not_mem_nil) (F_coder_b97.keep Kq103 List.not_mem_nil) An103 (O2.ext ((O.ext E97).keep Kq103 all0).2) P5 ln103 rfl (by decide) (by decide) hp103 rfl (by decide) (by decide)) (g := (mkF m 106 (own_AIIIIIIIIUU p0 p1 p2 p3 v6 v14 v21 v27) [(.ref r103), (.ref b97), (.ref b97)])) rfl (by rw [hml]; rfl) (Steps.refl _) (a := b97) (argsL := [(.ref r103)]) (rest := [(.ref b97)]) (lenOf pd_0_1 rfl) rfl (by show 2 * 0 + _ ≤ _; exact Nat.le_of_eq rfl) (hb hby at_106) (fun _ _ => ⟨rfl, rfl, (by decide : 2 + 1 ≤ _), (by decide : 14 + 1 ≤ _)⟩)
          dsimp only [Pt.U, Pt.locs, Pt.cells, Pt.slots] at X106 l106 y106 z106 st106 hQ106
          subst l106 y106 z106
          obtain ⟨rfl, N106q, Kq106, Eq106, Cq106, t106, kb106, u1106, u2106, u3106, Vq106, Aq106⟩ := hQ106
          have N106 := Fr.app N103 N106q
          have Sq106 : own_Str Z T106.heap b97 (own_shorter v21) := ⟨t106, kb106, 0, _, _, Eq106, Vq106, Cq106, Aq106, StrChars.Road.codOf (n := 1) ln103 (fun x hx => (hp103 x hx).2), own_up _ hp103, by rw [ln103]; decide⟩
          have fc := (An103.keep Kq106 (fun h => (Ne.symm ne_b97_r103) (List.mem_singleton.mp h)))
          have K106 : Keep h0 T106.heap [] := K103.trans Kq106 (fun x hx => by cases List.mem_singleton.mp hx; exact Or.inr sz_b97)
          have Z106 : n0 ≤ T106.heap.size := Nat.le_trans Z103 Kq106.1
          have CC106 := CHr.keep Kq106 (sfS (own_safe0 hZ.alike (A97.keep Kq103) (F_value_b97.keep Kq103 List.not_mem_nil) (hw _ (List.mem_of_getElem? (i := 1) rfl))) sf0) CC103.1
          have CR106 := CR103.trans CC106
          refine own_by (fun t k => st106.trans k) ?_
          have sg213 : ∀ t, own_S p e below T106 (mkF m 213 (own_AIIIIIIIIRU p0 p1 p2 p3 v6 v14 v21 v27 b97) [(.ref b97)]) t → own_S p e below T106 (mkF m 109 (own_AIIIIIIIIUU p0 p1 p2 p3 v6 v14 v21 v27) [(.ref b97)]) t := by
            intro t k
            show own_S p e below T106 (mkF m 109 (own_AIIIIIIIIUU p0 p1 p2 p3 v6 v14 v21 v27) [(.ref b97)]) _
            refine XS.astore X106.here hx rfl (hb hby at_109) rfl rfl (l' := (own_AIIIIIIIIRU p0 p1 p2 p3 v6 v14 v21 v27 b97)) rfl ?_
            show own_S p e below T106 (mkF m 111 (own_AIIIIIIIIRU p0 p1 p2 p3 v6 v14 v21 v27 b97) []) _
            refine XS.goto X106.here hx rfl (pc0 := 111) (pc' := 211) rfl (hb hby at_111) (by decide) (by decide) ?_
            show own_S p e below T106 (mkF m 211 (own_AIIIIIIIIRU p0 p1 p2 p3 v6 v14 v21 v27 b97) []) _
            refine XS.aload X106.here hx rfl (hb hby at_211) rfl rfl ?_
            exact k
          refine own_by sg213 ?_
          obtain ⟨_, _, ⟨T213, L213, k213, n213⟩, -, X213, ⟨Lc213, hQ213, l213, y213, z213⟩, st213⟩ := Jvm.LawKit.callS X106 hx (y := (⟨"com/example/spojka/spojka/AutowireMode", "named", "(Ljava/lang/String;)Lcom/example/spojka/spojka/AutowireMode;"⟩ : MethodName)) hown (mvT hZ (hw _ (List.mem_of_getElem? (i := 34) rfl))) (mvT hZ (hw _ (List.mem_of_getElem? (i := 35) rfl))) (mvT hZ (hw _ (List.mem_of_getElem? (i := 36) rfl))) (mvT hZ (hw _ (List.mem_of_getElem? (i := 37) rfl))) (by decide) (backOf (W := 0) (rm8 l Z a0 hw [] b97 (own_shorter v21) wV cl wNO wBY_NAME wBY_TYPE wCONSTRUCTOR sNO sBY_NAME sBY_TYPE sCONSTRUCTOR gz T106.heap n0 Z106 (((O.ext E97).keep Kq103 all0).keep Kq106 (allS g_b97 all0)) O2 P5 S_V Ar_V E_V FC hsz hat0 hat1 hat2 hat3 FV_NO FV_BY_NAME FV_BY_TYPE FV_CONSTRUCTOR EX_NO EX_BY_NAME EX_BY_TYPE EX_CONSTRUCTOR Str_NO Str_BY_NAME Str_BY_TYPE Str_CONSTRUCTOR Sq106) hZ (hw _ (List.mem_of_getElem? (i := 37) rfl)) (hw _ (List.mem_of_getElem? (i := 36) rfl)) (by decide) (by decide)) (g := (mkF m 213 (own_AIIIIIIIIRU p0 p1 p2 p3 v6 v14 v21 v27 b97) [(.ref b97)])) rfl (by rw [hml]; rfl) (argsL := [(.ref b97)]) (rest := []) (lenOf pd_0_2 rfl) rfl (by show 2 * 0 + _ ≤ _; exact Nat.le_of_eq rfl) (hb hby at_213) (fun _ _ => ⟨rfl, rfl, (by decide : 3 + 1 ≤ _), (by decide : 15 + 4 ≤ _)⟩)
          dsimp only [Pt.U, Pt.locs, Pt.cells, Pt.slots] at X213 l213 y213 z213 st213 hQ213
          subst l213 y213 z213
          obtain ⟨rfl, N213q, Kq213⟩ := hQ213
          have N213 := Fr.app N106 N213q
          have K213 : Keep h0 T213.heap [] := K106.trans Kq213 (fun x hx => nomatch hx)
          have Z213 : n0 ≤ T213.heap.size := Nat.le_trans Z106 Kq213.1
          have CC213 := CHr.keep Kq213 sf0 CC106.1
          have CR213 := CR106.trans CC213
          obtain ⟨g213, hg213⟩ : ∃ z : Value, z = (if ([(110 : Int32), (111 : Int32)] : List Int32) = (own_shorter v21) then Value.ref wNO else (if ([(98 : Int32), (121 : Int32), (78 : Int32), (97 : Int32), (109 : Int32), (101 : Int32)] : List Int32) = (own_shorter v21) then Value.ref wBY_NAME else (if ([(98 : Int32), (121 : Int32), (84 : Int32), (121 : Int32), (112 : Int32), (101 : Int32)] : List Int32) = (own_shorter v21) then Value.ref wBY_TYPE else (if ([(99 : Int32), (111 : Int32), (110 : Int32), (115 : Int32), (116 : Int32), (114 : Int32), (117 : Int32), (99 : Int32), (116 : Int32), (111 : Int32), (114 : Int32)] : List Int32) = (own_shorter v21) then Value.ref wCONSTRUCTOR else Value.null)))) := ⟨_, rfl⟩
          rw [← hg213] at st213
          have hgr213 : g213.isRef = true := by rw [hg213]; repeat' (first | rfl | (refine own_isr rfl ?_))
          refine own_by st213 ?_
          have sg222 : ∀ t, own_S p e below T213 (mkF m 222 (own_AIIIIIIIIRV p0 p1 p2 p3 v6 v14 v21 v27 b97 g213) [(.ref b97), g213]) t → own_S p e below T213 (mkF m 216 (own_AIIIIIIIIRU p0 p1 p2 p3 v6 v14 v21 v27 b97) [g213]) t := by
            intro t k
            show own_S p e below T213 (mkF m 216 (own_AIIIIIIIIRU p0 p1 p2 p3 v6 v14 v21 v27 b97) [g213]) _
            refine XS.astore X213.here hx rfl (hb hby at_216) rfl hgr213 (l' := (own_AIIIIIIIIRV p0 p1 p2 p3 v6 v14 v21 v27 b97 g213)) (by simp [storeLocals, storeSelf, setAt, own_cat1 hgr213, own_catr, own_catn]) ?_
            show own_S p e below T213 (mkF m 218 (own_AIIIIIIIIRV p0 p1 p2 p3 v6 v14 v21 v27 b97 g213) []) _
            refine XS.aload X213.here hx rfl (hb hby at_218) rfl hgr213 ?_
            show own_S p e below T213 (mkF m 220 (own_AIIIIIIIIRV p0 p1 p2 p3 v6 v14 v21 v27 b97 g213) [g213]) _
            refine XS.aload X213.here hx rfl (hb hby at_220) rfl rfl ?_
            exact k
          refine own_by sg222 ?_
          obtain ⟨_, _, ⟨T222, L222, k222, n222⟩, -, Xc222, hSc222, hgc222, ⟨Lc222, hQ222, l222, y222, z222, hC222⟩, st222⟩ := callSS X213 hx (y := (⟨"com/example/spojka/spojka/AutowireModeNamedPinLaw", "expected", "(Ljava/lang/String;)Lcom/example/spojka/spojka/AutowireMode;"⟩ : MethodName)) hown (mvT hZ (hw _ (List.mem_of_getElem? (i := 69) rfl))) (mvT hZ (hw _ (List.mem_of_getElem? (i := 70) rfl))) (mvT hZ (hw _ (List.mem_of_getElem? (i := 5) rfl))) (mvT hZ (hw _ (List.mem_of_getElem? (i := 71) rfl))) (by decide) (backOfSH (W := 1) (rm12 l Z a0 hw [] b97 (own_shorter v21) wNO wBY_NAME wBY_TYPE wCONSTRUCTOR gz T213.heap n0 Z213 ((((O.ext E97).keep Kq103 all0).keep Kq106 (allS g_b97 all0)).keep Kq213 all0) O2 P5 (Sq106.ext (own_kx Kq213)) S_NO S_BY_NAME S_BY_TYPE S_CONSTRUCTOR) hZ (hw _ (List.mem_of_getElem? (i := 71) rfl)) (hw _ (List.mem_of_getElem? (i := 5) rfl)) (by decide) (by decide) hEL CC213.1) (g := (mkF m 222 (own_AIIIIIIIIRV p0 p1 p2 p3 v6 v14 v21 v27 b97 g213) [(.ref b97), g213])) rfl (by rw [hml]; rfl) (argsL := [(.ref b97)]) (rest := [g213]) (lenOf pd_0_2 rfl) rfl (by show 2 * 0 + (List.map (fun v => Value.category v) [g213]).sum ≤ 1; simp [own_cat1 hgr213, own_catr, own_catn]) (hb hby at_222) (fun _ _ => ⟨rfl, rfl, (by decide : 4 + 8 ≤ _), (by decide : 19 + 116 ≤ _)⟩)
          dsimp only [Pt.U, Pt.locs, Pt.cells, Pt.slots] at Xc222 hSc222 hgc222
          obtain ⟨X222, hS222, hZ222, hown222⟩ := rebS hS0 (Nat.le_trans (Nat.le_trans (Nat.le_trans (Nat.le_trans (Nat.zero_le _) E97.1) Kq103.1) Kq106.1) Kq213.1) Xc222 hSc222 hgc222 hZ hown
          dsimp only [Pt.U, Pt.locs, Pt.cells, Pt.slots] at X222 l222 y222 z222 st222 hQ222
          subst l222 y222 z222
          obtain ⟨rfl, N222q, Kq222⟩ := hQ222
          have N222 := Fr.app N213 N222q
          have fc_2 := ((fc.keep Kq213 List.not_mem_nil).keep Kq222 List.not_mem_nil)
          have K222 : Keep h0 T222.heap [] := K213.trans Kq222 (fun x hx => nomatch hx)
          have Z222 : n0 ≤ T222.heap.size := Nat.le_trans Z213 Kq222.1
          rw [← hg213] at st222
          have CR222 := CR213.trans hC222
          refine own_by (fun t k => st222.trans k) ?_
          have sg233 : ∀ t, own_S p e below T222 (mkF m 233 (own_AIIIIIIIIRV p0 p1 p2 p3 v6 v14 v21 v27 b97 g213) [(.int (1 : Int32))]) t → own_S p e below T222 (mkF m 225 (own_AIIIIIIIIRV p0 p1 p2 p3 v6 v14 v21 v27 b97 g213) [g213, g213]) t := by
            intro t k
            show own_S p e below T222 (mkF m 225 (own_AIIIIIIIIRV p0 p1 p2 p3 v6 v14 v21 v27 b97 g213) [g213, g213]) _
            refine Jvm.RoadKit.acmp (g := (mkF m 225 (own_AIIIIIIIIRV p0 p1 p2 p3 v6 v14 v21 v27 b97 g213) [g213, g213])) X222 hx rfl hgr213 hgr213 (pc0 := 225) (pc' := 228) (same := true) rfl (hb hby at_225) rfl (decide_eq_true (rfl : (g213 : Value) = g213)) (by decide) (by decide) ?_
            show own_S p e below T222 (mkF m 228 (own_AIIIIIIIIRV p0 p1 p2 p3 v6 v14 v21 v27 b97 g213) []) _
            refine XS.iconst X222.here hx rfl (hb hby at_228) ?_
            show own_S p e below T222 (mkF m 229 (own_AIIIIIIIIRV p0 p1 p2 p3 v6 v14 v21 v27 b97 g213) [(.int (1 : Int32))]) _
            refine XS.goto X222.here hx rfl (pc0 := 229) (pc' := 233) rfl (hb hby at_229) (by decide) (by decide) ?_
            exact k
          refine own_by sg233 ?_
          obtain ⟨fs, hr, hrun, hended, hW⟩ := X222.leaveW hS222 (Nat.le_refl _) (v := some (.int (1 : Int32))) (fun h => by rw [Bd.returns] at h; cases h)
          refine ⟨_, _, ?_, hrun, hended, _, _, rfl, ?_, (by rw [hh]; show CHr Z consts_1 s.vm h0 T222.vm T222.heap; exact CR222.trans (CHv.at X222 hZ222 hEL hC222.1)), hW.1, hW.2.1, hW.2.2.1, hW.2.2.2.mono (by decide) (by decide)⟩
          · exact retN X222 hx (t := .boolean) Bd.returns (by simp) (hb hby at_233) hr
          · show Q0 Z p0 p1 p2 p3 wV cl wNO wBY_NAME wBY_TYPE wCONSTRUCTOR sNO sBY_NAME sBY_TYPE sCONSTRUCTOR gz h0 n0 _ T222.heap _
            exact ⟨rfl, N222⟩
        · have sg103 : ∀ t, own_S p e below T97 (mkF m 103 (own_AIIIIIIIIUU p0 p1 p2 p3 v6 v14 v21 v27) [(.int v21), (.ref b97), (.ref b97)]) t → own_S p e below T97 (mkF m 101 (own_AIIIIIIIIUU p0 p1 p2 p3 v6 v14 v21 v27) [(.ref b97), (.ref b97)]) t := by
            intro t k
            show own_S p e below T97 (mkF m 101 (own_AIIIIIIIIUU p0 p1 p2 p3 v6 v14 v21 v27) [(.ref b97), (.ref b97)]) _
            refine XS.iload X97.here hx rfl (hb hby at_101) rfl ?_
            exact k
          refine own_by sg103 ?_
          obtain ⟨_, _, ⟨T103, L103, k103, n103⟩, -, X103, ⟨Lc103, hQ103, l103, y103, z103⟩, st103⟩ := Jvm.LawKit.callS X97 hx (y := (⟨"com/example/spojka/spojka/AutowireModeNamedPinLaw", "shorter", "(I)[C"⟩ : MethodName)) hown (mvT hZ (hw _ (List.mem_of_getElem? (i := 81) rfl))) (mvT hZ (hw _ (List.mem_of_getElem? (i := 82) rfl))) (mvT hZ (hw _ (List.mem_of_getElem? (i := 5) rfl))) (mvT hZ (hw _ (List.mem_of_getElem? (i := 83) rfl))) (by decide) (backOf (W := 2) (rm13 l Z a0 hw [] v21 h97 n0 Z97 ) hZ (hw _ (List.mem_of_getElem? (i := 83) rfl)) (hw _ (List.mem_of_getElem? (i := 5) rfl)) (by decide) (by decide)) (g := (mkF m 103 (own_AIIIIIIIIUU p0 p1 p2 p3 v6 v14 v21 v27) [(.int v21), (.ref b97), (.ref b97)])) rfl (by rw [hml]; rfl) (argsL := [(.int v21)]) (rest := [(.ref b97), (.ref b97)]) (lenOf pd_0_0 rfl) rfl (by show 2 * 0 + _ ≤ _; exact Nat.le_of_eq rfl) (hb hby at_103) (fun _ _ => ⟨rfl, e97, (by decide : 1 + 1 ≤ _), (by decide : 4 + 10 ≤ _)⟩)
          dsimp only [Pt.U, Pt.locs, Pt.cells, Pt.slots] at X103 l103 y103 z103 st103 hQ103
          subst l103 y103 z103
          obtain ⟨r103, kc103, rfl, ge103, N103q, Kq103, Aq103⟩ := hQ103
          have N103 := Fr.app N0 N103q
          have ln103 : (own_shorter v21).length = 5 := (by rw [hi1]; rfl)
          rw [ln103] at Aq103
          have An103 : Arv Z T103.heap r103 kc103 .char (5 : Int32) ((own_shorter v21).map Value.int) (.int (0 : Int32)) := Aq103
          have hp103 : ∀ c ∈ (own_shorter v21), ¬ c < 0 ∧ ¬ (255 : Int32) < c := own_shorter_hp _
          have ne_b97_r103 : b97 ≠ r103 := Nat.ne_of_lt (Nat.lt_of_lt_of_le A97.lt ge103)
          have g_r103 : n0 ≤ r103 := Nat.le_trans Z97 ge103
          have sz_r103 : h0.size ≤ r103 := Nat.le_trans K97.1 ge103
          have K103 : Keep h0 T103.heap [] := K97.trans Kq103 (fun x hx => nomatch hx)
          have Z103 : n0 ≤ T103.heap.size := Nat.le_trans Z97 Kq103.1
          have CC103 := CHr.keep Kq103 sf0 CC97.1
          have CR103 := CR97.trans CC103
          refine own_by st103 ?_
          obtain ⟨_, _, ⟨T106, L106, k106, n106⟩, -, X106, ⟨Lc106, hQ106, l106, y106, z106⟩, st106⟩ := X103.specialBack hx (y := (⟨"java/lang/String", "<init>", "([C)V"⟩ : MethodName)) rfl hown (mvT hZ (hw _ (List.mem_of_getElem? (i := 8) rfl))) (mvT hZ (hw _ (List.mem_of_getElem? (i := 9) rfl))) (mvT hZ (hw _ (List.mem_of_getElem? (i := 10) rfl))) (by decide) (StrChars.Road.backV (W := 1) hZ hws (kI := 4) (hw _ (List.mem_of_getElem? (i := 1) rfl)) (cs := (own_shorter v21)) (bs := (own_shorter v21).map (fun c => c.toInt8.toInt32)) (n := 5) g_b97 Z103 (A97.keep Kq103) (F_value_b97.keep Kq103 List.not_mem_nil) (F_coder_b97.keep Kq103 List.not_mem_nil) An103 (O2.ext ((O.ext E97).keep Kq103 all0).2) P5 ln103 rfl (by decide) (by decide) hp103 rfl (by decide) (by decide)) (g := (mkF m 106 (own_AIIIIIIIIUU p0 p1 p2 p3 v6 v14 v21 v27) [(.ref r103), (.ref b97), (.ref b97)])) rfl (by rw [hml]; rfl) (Steps.refl _) (a := b97) (argsL := [(.ref r103)]) (rest := [(.ref b97)]) (lenOf pd_0_1 rfl) rfl (by show 2 * 0 + _ ≤ _; exact Nat.le_of_eq rfl) (hb hby at_106) (fun _ _ => ⟨rfl, rfl, (by decide : 2 + 1 ≤ _), (by decide : 14 + 5 ≤ _)⟩)
          dsimp only [Pt.U, Pt.locs, Pt.cells, Pt.slots] at X106 l106 y106 z106 st106 hQ106
          subst l106 y106 z106
          obtain ⟨rfl, N106q, Kq106, Eq106, Cq106, t106, kb106, u1106, u2106, u3106, Vq106, Aq106⟩ := hQ106
          have N106 := Fr.app N103 N106q
          have Sq106 : own_Str Z T106.heap b97 (own_shorter v21) := ⟨t106, kb106, 0, _, _, Eq106, Vq106, Cq106, Aq106, StrChars.Road.codOf (n := 5) ln103 (fun x hx => (hp103 x hx).2), own_up _ hp103, by rw [ln103]; decide⟩
          have fc := (An103.keep Kq106 (fun h => (Ne.symm ne_b97_r103) (List.mem_singleton.mp h)))
          have K106 : Keep h0 T106.heap [] := K103.trans Kq106 (fun x hx => by cases List.mem_singleton.mp hx; exact Or.inr sz_b97)
          have Z106 : n0 ≤ T106.heap.size := Nat.le_trans Z103 Kq106.1
          have CC106 := CHr.keep Kq106 (sfS (own_safe0 hZ.alike (A97.keep Kq103) (F_value_b97.keep Kq103 List.not_mem_nil) (hw _ (List.mem_of_getElem? (i := 1) rfl))) sf0) CC103.1
          have CR106 := CR103.trans CC106
          refine own_by (fun t k => st106.trans k) ?_
          have sg213 : ∀ t, own_S p e below T106 (mkF m 213 (own_AIIIIIIIIRU p0 p1 p2 p3 v6 v14 v21 v27 b97) [(.ref b97)]) t → own_S p e below T106 (mkF m 109 (own_AIIIIIIIIUU p0 p1 p2 p3 v6 v14 v21 v27) [(.ref b97)]) t := by
            intro t k
            show own_S p e below T106 (mkF m 109 (own_AIIIIIIIIUU p0 p1 p2 p3 v6 v14 v21 v27) [(.ref b97)]) _
            refine XS.astore X106.here hx rfl (hb hby at_109) rfl rfl (l' := (own_AIIIIIIIIRU p0 p1 p2 p3 v6 v14 v21 v27 b97)) rfl ?_
            show own_S p e below T106 (mkF m 111 (own_AIIIIIIIIRU p0 p1 p2 p3 v6 v14 v21 v27 b97) []) _
            refine XS.goto X106.here hx rfl (pc0 := 111) (pc' := 211) rfl (hb hby at_111) (by decide) (by decide) ?_
            show own_S p e below T106 (mkF m 211 (own_AIIIIIIIIRU p0 p1 p2 p3 v6 v14 v21 v27 b97) []) _
            refine XS.aload X106.here hx rfl (hb hby at_211) rfl rfl ?_
            exact k
          refine own_by sg213 ?_
          obtain ⟨_, _, ⟨T213, L213, k213, n213⟩, -, X213, ⟨Lc213, hQ213, l213, y213, z213⟩, st213⟩ := Jvm.LawKit.callS X106 hx (y := (⟨"com/example/spojka/spojka/AutowireMode", "named", "(Ljava/lang/String;)Lcom/example/spojka/spojka/AutowireMode;"⟩ : MethodName)) hown (mvT hZ (hw _ (List.mem_of_getElem? (i := 34) rfl))) (mvT hZ (hw _ (List.mem_of_getElem? (i := 35) rfl))) (mvT hZ (hw _ (List.mem_of_getElem? (i := 36) rfl))) (mvT hZ (hw _ (List.mem_of_getElem? (i := 37) rfl))) (by decide) (backOf (W := 0) (rm8 l Z a0 hw [] b97 (own_shorter v21) wV cl wNO wBY_NAME wBY_TYPE wCONSTRUCTOR sNO sBY_NAME sBY_TYPE sCONSTRUCTOR gz T106.heap n0 Z106 (((O.ext E97).keep Kq103 all0).keep Kq106 (allS g_b97 all0)) O2 P5 S_V Ar_V E_V FC hsz hat0 hat1 hat2 hat3 FV_NO FV_BY_NAME FV_BY_TYPE FV_CONSTRUCTOR EX_NO EX_BY_NAME EX_BY_TYPE EX_CONSTRUCTOR Str_NO Str_BY_NAME Str_BY_TYPE Str_CONSTRUCTOR Sq106) hZ (hw _ (List.mem_of_getElem? (i := 37) rfl)) (hw _ (List.mem_of_getElem? (i := 36) rfl)) (by decide) (by decide)) (g := (mkF m 213 (own_AIIIIIIIIRU p0 p1 p2 p3 v6 v14 v21 v27 b97) [(.ref b97)])) rfl (by rw [hml]; rfl) (argsL := [(.ref b97)]) (rest := []) (lenOf pd_0_2 rfl) rfl (by show 2 * 0 + _ ≤ _; exact Nat.le_of_eq rfl) (hb hby at_213) (fun _ _ => ⟨rfl, rfl, (by decide : 3 + 1 ≤ _), (by decide : 19 + 4 ≤ _)⟩)
          dsimp only [Pt.U, Pt.locs, Pt.cells, Pt.slots] at X213 l213 y213 z213 st213 hQ213
          subst l213 y213 z213
          obtain ⟨rfl, N213q, Kq213⟩ := hQ213
          have N213 := Fr.app N106 N213q
          have K213 : Keep h0 T213.heap [] := K106.trans Kq213 (fun x hx => nomatch hx)
          have Z213 : n0 ≤ T213.heap.size := Nat.le_trans Z106 Kq213.1
          have CC213 := CHr.keep Kq213 sf0 CC106.1
          have CR213 := CR106.trans CC213
          obtain ⟨g213, hg213⟩ : ∃ z : Value, z = (if ([(110 : Int32), (111 : Int32)] : List Int32) = (own_shorter v21) then Value.ref wNO else (if ([(98 : Int32), (121 : Int32), (78 : Int32), (97 : Int32), (109 : Int32), (101 : Int32)] : List Int32) = (own_shorter v21) then Value.ref wBY_NAME else (if ([(98 : Int32), (121 : Int32), (84 : Int32), (121 : Int32), (112 : Int32), (101 : Int32)] : List Int32) = (own_shorter v21) then Value.ref wBY_TYPE else (if ([(99 : Int32), (111 : Int32), (110 : Int32), (115 : Int32), (116 : Int32), (114 : Int32), (117 : Int32), (99 : Int32), (116 : Int32), (111 : Int32), (114 : Int32)] : List Int32) = (own_shorter v21) then Value.ref wCONSTRUCTOR else Value.null)))) := ⟨_, rfl⟩
          rw [← hg213] at st213
          have hgr213 : g213.isRef = true := by rw [hg213]; repeat' (first | rfl | (refine own_isr rfl ?_))
          refine own_by st213 ?_
          have sg222 : ∀ t, own_S p e below T213 (mkF m 222 (own_AIIIIIIIIRV p0 p1 p2 p3 v6 v14 v21 v27 b97 g213) [(.ref b97), g213]) t → own_S p e below T213 (mkF m 216 (own_AIIIIIIIIRU p0 p1 p2 p3 v6 v14 v21 v27 b97) [g213]) t := by
            intro t k
            show own_S p e below T213 (mkF m 216 (own_AIIIIIIIIRU p0 p1 p2 p3 v6 v14 v21 v27 b97) [g213]) _
            refine XS.astore X213.here hx rfl (hb hby at_216) rfl hgr213 (l' := (own_AIIIIIIIIRV p0 p1 p2 p3 v6 v14 v21 v27 b97 g213)) (by simp [storeLocals, storeSelf, setAt, own_cat1 hgr213, own_catr, own_catn]) ?_
            show own_S p e below T213 (mkF m 218 (own_AIIIIIIIIRV p0 p1 p2 p3 v6 v14 v21 v27 b97 g213) []) _
            refine XS.aload X213.here hx rfl (hb hby at_218) rfl hgr213 ?_
            show own_S p e below T213 (mkF m 220 (own_AIIIIIIIIRV p0 p1 p2 p3 v6 v14 v21 v27 b97 g213) [g213]) _
            refine XS.aload X213.here hx rfl (hb hby at_220) rfl rfl ?_
            exact k
          refine own_by sg222 ?_
          obtain ⟨_, _, ⟨T222, L222, k222, n222⟩, -, Xc222, hSc222, hgc222, ⟨Lc222, hQ222, l222, y222, z222, hC222⟩, st222⟩ := callSS X213 hx (y := (⟨"com/example/spojka/spojka/AutowireModeNamedPinLaw", "expected", "(Ljava/lang/String;)Lcom/example/spojka/spojka/AutowireMode;"⟩ : MethodName)) hown (mvT hZ (hw _ (List.mem_of_getElem? (i := 69) rfl))) (mvT hZ (hw _ (List.mem_of_getElem? (i := 70) rfl))) (mvT hZ (hw _ (List.mem_of_getElem? (i := 5) rfl))) (mvT hZ (hw _ (List.mem_of_getElem? (i := 71) rfl))) (by decide) (backOfSH (W := 1) (rm12 l Z a0 hw [] b97 (own_shorter v21) wNO wBY_NAME wBY_TYPE wCONSTRUCTOR gz T213.heap n0 Z213 ((((O.ext E97).keep Kq103 all0).keep Kq106 (allS g_b97 all0)).keep Kq213 all0) O2 P5 (Sq106.ext (own_kx Kq213)) S_NO S_BY_NAME S_BY_TYPE S_CONSTRUCTOR) hZ (hw _ (List.mem_of_getElem? (i := 71) rfl)) (hw _ (List.mem_of_getElem? (i := 5) rfl)) (by decide) (by decide) hEL CC213.1) (g := (mkF m 222 (own_AIIIIIIIIRV p0 p1 p2 p3 v6 v14 v21 v27 b97 g213) [(.ref b97), g213])) rfl (by rw [hml]; rfl) (argsL := [(.ref b97)]) (rest := [g213]) (lenOf pd_0_2 rfl) rfl (by show 2 * 0 + (List.map (fun v => Value.category v) [g213]).sum ≤ 1; simp [own_cat1 hgr213, own_catr, own_catn]) (hb hby at_222) (fun _ _ => ⟨rfl, rfl, (by decide : 4 + 8 ≤ _), (by decide : 23 + 116 ≤ _)⟩)
          dsimp only [Pt.U, Pt.locs, Pt.cells, Pt.slots] at Xc222 hSc222 hgc222
          obtain ⟨X222, hS222, hZ222, hown222⟩ := rebS hS0 (Nat.le_trans (Nat.le_trans (Nat.le_trans (Nat.le_trans (Nat.zero_le _) E97.1) Kq103.1) Kq106.1) Kq213.1) Xc222 hSc222 hgc222 hZ hown
          dsimp only [Pt.U, Pt.locs, Pt.cells, Pt.slots] at X222 l222 y222 z222 st222 hQ222
          subst l222 y222 z222
          obtain ⟨rfl, N222q, Kq222⟩ := hQ222
          have N222 := Fr.app N213 N222q
          have fc_2 := ((fc.keep Kq213 List.not_mem_nil).keep Kq222 List.not_mem_nil)
          have K222 : Keep h0 T222.heap [] := K213.trans Kq222 (fun x hx => nomatch hx)
          have Z222 : n0 ≤ T222.heap.size := Nat.le_trans Z213 Kq222.1
          rw [← hg213] at st222
          have CR222 := CR213.trans hC222
          refine own_by (fun t k => st222.trans k) ?_
          have sg233 : ∀ t, own_S p e below T222 (mkF m 233 (own_AIIIIIIIIRV p0 p1 p2 p3 v6 v14 v21 v27 b97 g213) [(.int (1 : Int32))]) t → own_S p e below T222 (mkF m 225 (own_AIIIIIIIIRV p0 p1 p2 p3 v6 v14 v21 v27 b97 g213) [g213, g213]) t := by
            intro t k
            show own_S p e below T222 (mkF m 225 (own_AIIIIIIIIRV p0 p1 p2 p3 v6 v14 v21 v27 b97 g213) [g213, g213]) _
            refine Jvm.RoadKit.acmp (g := (mkF m 225 (own_AIIIIIIIIRV p0 p1 p2 p3 v6 v14 v21 v27 b97 g213) [g213, g213])) X222 hx rfl hgr213 hgr213 (pc0 := 225) (pc' := 228) (same := true) rfl (hb hby at_225) rfl (decide_eq_true (rfl : (g213 : Value) = g213)) (by decide) (by decide) ?_
            show own_S p e below T222 (mkF m 228 (own_AIIIIIIIIRV p0 p1 p2 p3 v6 v14 v21 v27 b97 g213) []) _
            refine XS.iconst X222.here hx rfl (hb hby at_228) ?_
            show own_S p e below T222 (mkF m 229 (own_AIIIIIIIIRV p0 p1 p2 p3 v6 v14 v21 v27 b97 g213) [(.int (1 : Int32))]) _
            refine XS.goto X222.here hx rfl (pc0 := 229) (pc' := 233) rfl (hb hby at_229) (by decide) (by decide) ?_
            exact k
          refine own_by sg233 ?_
          obtain ⟨fs, hr, hrun, hended, hW⟩ := X222.leaveW hS222 (Nat.le_refl _) (v := some (.int (1 : Int32))) (fun h => by rw [Bd.returns] at h; cases h)
          refine ⟨_, _, ?_, hrun, hended, _, _, rfl, ?_, (by rw [hh]; show CHr Z consts_1 s.vm h0 T222.vm T222.heap; exact CR222.trans (CHv.at X222 hZ222 hEL hC222.1)), hW.1, hW.2.1, hW.2.2.1, hW.2.2.2.mono (by decide) (by decide)⟩
          · exact retN X222 hx (t := .boolean) Bd.returns (by simp) (hb hby at_233) hr
          · show Q0 Z p0 p1 p2 p3 wV cl wNO wBY_NAME wBY_TYPE wCONSTRUCTOR sNO sBY_NAME sBY_TYPE sCONSTRUCTOR gz h0 n0 _ T222.heap _
            exact ⟨rfl, N222⟩
        · have sg103 : ∀ t, own_S p e below T97 (mkF m 103 (own_AIIIIIIIIUU p0 p1 p2 p3 v6 v14 v21 v27) [(.int v21), (.ref b97), (.ref b97)]) t → own_S p e below T97 (mkF m 101 (own_AIIIIIIIIUU p0 p1 p2 p3 v6 v14 v21 v27) [(.ref b97), (.ref b97)]) t := by
            intro t k
            show own_S p e below T97 (mkF m 101 (own_AIIIIIIIIUU p0 p1 p2 p3 v6 v14 v21 v27) [(.ref b97), (.ref b97)]) _
            refine XS.iload X97.here hx rfl (hb hby at_101) rfl ?_
            exact k
          refine own_by sg103 ?_
          obtain ⟨_, _, ⟨T103, L103, k103, n103⟩, -, X103, ⟨Lc103, hQ103, l103, y103, z103⟩, st103⟩ := Jvm.LawKit.callS X97 hx (y := (⟨"com/example/spojka/spojka/AutowireModeNamedPinLaw", "shorter", "(I)[C"⟩ : MethodName)) hown (mvT hZ (hw _ (List.mem_of_getElem? (i := 81) rfl))) (mvT hZ (hw _ (List.mem_of_getElem? (i := 82) rfl))) (mvT hZ (hw _ (List.mem_of_getElem? (i := 5) rfl))) (mvT hZ (hw _ (List.mem_of_getElem? (i := 83) rfl))) (by decide) (backOf (W := 2) (rm13 l Z a0 hw [] v21 h97 n0 Z97 ) hZ (hw _ (List.mem_of_getElem? (i := 83) rfl)) (hw _ (List.mem_of_getElem? (i := 5) rfl)) (by decide) (by decide)) (g := (mkF m 103 (own_AIIIIIIIIUU p0 p1 p2 p3 v6 v14 v21 v27) [(.int v21), (.ref b97), (.ref b97)])) rfl (by rw [hml]; rfl) (argsL := [(.int v21)]) (rest := [(.ref b97), (.ref b97)]) (lenOf pd_0_0 rfl) rfl (by show 2 * 0 + _ ≤ _; exact Nat.le_of_eq rfl) (hb hby at_103) (fun _ _ => ⟨rfl, e97, (by decide : 1 + 1 ≤ _), (by decide : 4 + 10 ≤ _)⟩)
          dsimp only [Pt.U, Pt.locs, Pt.cells, Pt.slots] at X103 l103 y103 z103 st103 hQ103
          subst l103 y103 z103
          obtain ⟨r103, kc103, rfl, ge103, N103q, Kq103, Aq103⟩ := hQ103
          have N103 := Fr.app N0 N103q
          have ln103 : (own_shorter v21).length = 5 := (by rw [hi2]; rfl)
          rw [ln103] at Aq103
          have An103 : Arv Z T103.heap r103 kc103 .char (5 : Int32) ((own_shorter v21).map Value.int) (.int (0 : Int32)) := Aq103
          have hp103 : ∀ c ∈ (own_shorter v21), ¬ c < 0 ∧ ¬ (255 : Int32) < c := own_shorter_hp _
          have ne_b97_r103 : b97 ≠ r103 := Nat.ne_of_lt (Nat.lt_of_lt_of_le A97.lt ge103)
          have g_r103 : n0 ≤ r103 := Nat.le_trans Z97 ge103
          have sz_r103 : h0.size ≤ r103 := Nat.le_trans K97.1 ge103
          have K103 : Keep h0 T103.heap [] := K97.trans Kq103 (fun x hx => nomatch hx)
          have Z103 : n0 ≤ T103.heap.size := Nat.le_trans Z97 Kq103.1
          have CC103 := CHr.keep Kq103 sf0 CC97.1
          have CR103 := CR97.trans CC103
          refine own_by st103 ?_
          obtain ⟨_, _, ⟨T106, L106, k106, n106⟩, -, X106, ⟨Lc106, hQ106, l106, y106, z106⟩, st106⟩ := X103.specialBack hx (y := (⟨"java/lang/String", "<init>", "([C)V"⟩ : MethodName)) rfl hown (mvT hZ (hw _ (List.mem_of_getElem? (i := 8) rfl))) (mvT hZ (hw _ (List.mem_of_getElem? (i := 9) rfl))) (mvT hZ (hw _ (List.mem_of_getElem? (i := 10) rfl))) (by decide) (StrChars.Road.backV (W := 1) hZ hws (kI := 4) (hw _ (List.mem_of_getElem? (i := 1) rfl)) (cs := (own_shorter v21)) (bs := (own_shorter v21).map (fun c => c.toInt8.toInt32)) (n := 5) g_b97 Z103 (A97.keep Kq103) (F_value_b97.keep Kq103 List.not_mem_nil) (F_coder_b97.keep Kq103 List.not_mem_nil) An103 (O2.ext ((O.ext E97).keep Kq103 all0).2) P5 ln103 rfl (by decide) (by decide) hp103 rfl (by decide) (by decide)) (g := (mkF m 106 (own_AIIIIIIIIUU p0 p1 p2 p3 v6 v14 v21 v27) [(.ref r103), (.ref b97), (.ref b97)])) rfl (by rw [hml]; rfl) (Steps.refl _) (a := b97) (argsL := [(.ref r103)]) (rest := [(.ref b97)]) (lenOf pd_0_1 rfl) rfl (by show 2 * 0 + _ ≤ _; exact Nat.le_of_eq rfl) (hb hby at_106) (fun _ _ => ⟨rfl, rfl, (by decide : 2 + 1 ≤ _), (by decide : 14 + 5 ≤ _)⟩)
          dsimp only [Pt.U, Pt.locs, Pt.cells, Pt.slots] at X106 l106 y106 z106 st106 hQ106
          subst l106 y106 z106
          obtain ⟨rfl, N106q, Kq106, Eq106, Cq106, t106, kb106, u1106, u2106, u3106, Vq106, Aq106⟩ := hQ106
          have N106 := Fr.app N103 N106q
          have Sq106 : own_Str Z T106.heap b97 (own_shorter v21) := ⟨t106, kb106, 0, _, _, Eq106, Vq106, Cq106, Aq106, StrChars.Road.codOf (n := 5) ln103 (fun x hx => (hp103 x hx).2), own_up _ hp103, by rw [ln103]; decide⟩
          have fc := (An103.keep Kq106 (fun h => (Ne.symm ne_b97_r103) (List.mem_singleton.mp h)))
          have K106 : Keep h0 T106.heap [] := K103.trans Kq106 (fun x hx => by cases List.mem_singleton.mp hx; exact Or.inr sz_b97)
          have Z106 : n0 ≤ T106.heap.size := Nat.le_trans Z103 Kq106.1
          have CC106 := CHr.keep Kq106 (sfS (own_safe0 hZ.alike (A97.keep Kq103) (F_value_b97.keep Kq103 List.not_mem_nil) (hw _ (List.mem_of_getElem? (i := 1) rfl))) sf0) CC103.1
          have CR106 := CR103.trans CC106
          refine own_by (fun t k => st106.trans k) ?_
          have sg213 : ∀ t, own_S p e below T106 (mkF m 213 (own_AIIIIIIIIRU p0 p1 p2 p3 v6 v14 v21 v27 b97) [(.ref b97)]) t → own_S p e below T106 (mkF m 109 (own_AIIIIIIIIUU p0 p1 p2 p3 v6 v14 v21 v27) [(.ref b97)]) t := by
            intro t k
            show own_S p e below T106 (mkF m 109 (own_AIIIIIIIIUU p0 p1 p2 p3 v6 v14 v21 v27) [(.ref b97)]) _
            refine XS.astore X106.here hx rfl (hb hby at_109) rfl rfl (l' := (own_AIIIIIIIIRU p0 p1 p2 p3 v6 v14 v21 v27 b97)) rfl ?_
            show own_S p e below T106 (mkF m 111 (own_AIIIIIIIIRU p0 p1 p2 p3 v6 v14 v21 v27 b97) []) _
            refine XS.goto X106.here hx rfl (pc0 := 111) (pc' := 211) rfl (hb hby at_111) (by decide) (by decide) ?_
            show own_S p e below T106 (mkF m 211 (own_AIIIIIIIIRU p0 p1 p2 p3 v6 v14 v21 v27 b97) []) _
            refine XS.aload X106.here hx rfl (hb hby at_211) rfl rfl ?_
            exact k
          refine own_by sg213 ?_
          obtain ⟨_, _, ⟨T213, L213, k213, n213⟩, -, X213, ⟨Lc213, hQ213, l213, y213, z213⟩, st213⟩ := Jvm.LawKit.callS X106 hx (y := (⟨"com/example/spojka/spojka/AutowireMode", "named", "(Ljava/lang/String;)Lcom/example/spojka/spojka/AutowireMode;"⟩ : MethodName)) hown (mvT hZ (hw _ (List.mem_of_getElem? (i := 34) rfl))) (mvT hZ (hw _ (List.mem_of_getElem? (i := 35) rfl))) (mvT hZ (hw _ (List.mem_of_getElem? (i := 36) rfl))) (mvT hZ (hw _ (List.mem_of_getElem? (i := 37) rfl))) (by decide) (backOf (W := 0) (rm8 l Z a0 hw [] b97 (own_shorter v21) wV cl wNO wBY_NAME wBY_TYPE wCONSTRUCTOR sNO sBY_NAME sBY_TYPE sCONSTRUCTOR gz T106.heap n0 Z106 (((O.ext E97).keep Kq103 all0).keep Kq106 (allS g_b97 all0)) O2 P5 S_V Ar_V E_V FC hsz hat0 hat1 hat2 hat3 FV_NO FV_BY_NAME FV_BY_TYPE FV_CONSTRUCTOR EX_NO EX_BY_NAME EX_BY_TYPE EX_CONSTRUCTOR Str_NO Str_BY_NAME Str_BY_TYPE Str_CONSTRUCTOR Sq106) hZ (hw _ (List.mem_of_getElem? (i := 37) rfl)) (hw _ (List.mem_of_getElem? (i := 36) rfl)) (by decide) (by decide)) (g := (mkF m 213 (own_AIIIIIIIIRU p0 p1 p2 p3 v6 v14 v21 v27 b97) [(.ref b97)])) rfl (by rw [hml]; rfl) (argsL := [(.ref b97)]) (rest := []) (lenOf pd_0_2 rfl) rfl (by show 2 * 0 + _ ≤ _; exact Nat.le_of_eq rfl) (hb hby at_213) (fun _ _ => ⟨rfl, rfl, (by decide : 3 + 1 ≤ _), (by decide : 19 + 4 ≤ _)⟩)
          dsimp only [Pt.U, Pt.locs, Pt.cells, Pt.slots] at X213 l213 y213 z213 st213 hQ213
          subst l213 y213 z213
          obtain ⟨rfl, N213q, Kq213⟩ := hQ213
          have N213 := Fr.app N106 N213q
          have K213 : Keep h0 T213.heap [] := K106.trans Kq213 (fun x hx => nomatch hx)
          have Z213 : n0 ≤ T213.heap.size := Nat.le_trans Z106 Kq213.1
          have CC213 := CHr.keep Kq213 sf0 CC106.1
          have CR213 := CR106.trans CC213
          obtain ⟨g213, hg213⟩ : ∃ z : Value, z = (if ([(110 : Int32), (111 : Int32)] : List Int32) = (own_shorter v21) then Value.ref wNO else (if ([(98 : Int32), (121 : Int32), (78 : Int32), (97 : Int32), (109 : Int32), (101 : Int32)] : List Int32) = (own_shorter v21) then Value.ref wBY_NAME else (if ([(98 : Int32), (121 : Int32), (84 : Int32), (121 : Int32), (112 : Int32), (101 : Int32)] : List Int32) = (own_shorter v21) then Value.ref wBY_TYPE else (if ([(99 : Int32), (111 : Int32), (110 : Int32), (115 : Int32), (116 : Int32), (114 : Int32), (117 : Int32), (99 : Int32), (116 : Int32), (111 : Int32), (114 : Int32)] : List Int32) = (own_shorter v21) then Value.ref wCONSTRUCTOR else Value.null)))) := ⟨_, rfl⟩
          rw [← hg213] at st213
          have hgr213 : g213.isRef = true := by rw [hg213]; repeat' (first | rfl | (refine own_isr rfl ?_))
          refine own_by st213 ?_
          have sg222 : ∀ t, own_S p e below T213 (mkF m 222 (own_AIIIIIIIIRV p0 p1 p2 p3 v6 v14 v21 v27 b97 g213) [(.ref b97), g213]) t → own_S p e below T213 (mkF m 216 (own_AIIIIIIIIRU p0 p1 p2 p3 v6 v14 v21 v27 b97) [g213]) t := by
            intro t k
            show own_S p e below T213 (mkF m 216 (own_AIIIIIIIIRU p0 p1 p2 p3 v6 v14 v21 v27 b97) [g213]) _
            refine XS.astore X213.here hx rfl (hb hby at_216) rfl hgr213 (l' := (own_AIIIIIIIIRV p0 p1 p2 p3 v6 v14 v21 v27 b97 g213)) (by simp [storeLocals, storeSelf, setAt, own_cat1 hgr213, own_catr, own_catn]) ?_
            show own_S p e below T213 (mkF m 218 (own_AIIIIIIIIRV p0 p1 p2 p3 v6 v14 v21 v27 b97 g213) []) _
            refine XS.aload X213.here hx rfl (hb hby at_218) rfl hgr213 ?_
            show own_S p e below T213 (mkF m 220 (own_AIIIIIIIIRV p0 p1 p2 p3 v6 v14 v21 v27 b97 g213) [g213]) _
            refine XS.aload X213.here hx rfl (hb hby at_220) rfl rfl ?_
            exact k
          refine own_by sg222 ?_
          obtain ⟨_, _, ⟨T222, L222, k222, n222⟩, -, Xc222, hSc222, hgc222, ⟨Lc222, hQ222, l222, y222, z222, hC222⟩, st222⟩ := callSS X213 hx (y := (⟨"com/example/spojka/spojka/AutowireModeNamedPinLaw", "expected", "(Ljava/lang/String;)Lcom/example/spojka/spojka/AutowireMode;"⟩ : MethodName)) hown (mvT hZ (hw _ (List.mem_of_getElem? (i := 69) rfl))) (mvT hZ (hw _ (List.mem_of_getElem? (i := 70) rfl))) (mvT hZ (hw _ (List.mem_of_getElem? (i := 5) rfl))) (mvT hZ (hw _ (List.mem_of_getElem? (i := 71) rfl))) (by decide) (backOfSH (W := 1) (rm12 l Z a0 hw [] b97 (own_shorter v21) wNO wBY_NAME wBY_TYPE wCONSTRUCTOR gz T213.heap n0 Z213 ((((O.ext E97).keep Kq103 all0).keep Kq106 (allS g_b97 all0)).keep Kq213 all0) O2 P5 (Sq106.ext (own_kx Kq213)) S_NO S_BY_NAME S_BY_TYPE S_CONSTRUCTOR) hZ (hw _ (List.mem_of_getElem? (i := 71) rfl)) (hw _ (List.mem_of_getElem? (i := 5) rfl)) (by decide) (by decide) hEL CC213.1) (g := (mkF m 222 (own_AIIIIIIIIRV p0 p1 p2 p3 v6 v14 v21 v27 b97 g213) [(.ref b97), g213])) rfl (by rw [hml]; rfl) (argsL := [(.ref b97)]) (rest := [g213]) (lenOf pd_0_2 rfl) rfl (by show 2 * 0 + (List.map (fun v => Value.category v) [g213]).sum ≤ 1; simp [own_cat1 hgr213, own_catr, own_catn]) (hb hby at_222) (fun _ _ => ⟨rfl, rfl, (by decide : 4 + 8 ≤ _), (by decide : 23 + 116 ≤ _)⟩)
          dsimp only [Pt.U, Pt.locs, Pt.cells, Pt.slots] at Xc222 hSc222 hgc222
          obtain ⟨X222, hS222, hZ222, hown222⟩ := rebS hS0 (Nat.le_trans (Nat.le_trans (Nat.le_trans (Nat.le_trans (Nat.zero_le _) E97.1) Kq103.1) Kq106.1) Kq213.1) Xc222 hSc222 hgc222 hZ hown
          dsimp only [Pt.U, Pt.locs, Pt.cells, Pt.slots] at X222 l222 y222 z222 st222 hQ222
          subst l222 y222 z222
          obtain ⟨rfl, N222q, Kq222⟩ := hQ222
          have N222 := Fr.app N213 N222q
          have fc_2 := ((fc.keep Kq213 List.not_mem_nil).keep Kq222 List.not_mem_nil)
          have K222 : Keep h0 T222.heap [] := K213.trans Kq222 (fun x hx => nomatch hx)
          have Z222 : n0 ≤ T222.heap.size := Nat.le_trans Z213 Kq222.1
          rw [← hg213] at st222
          have CR222 := CR213.trans hC222
          refine own_by (fun t k => st222.trans k) ?_
          have sg233 : ∀ t, own_S p e below T222 (mkF m 233 (own_AIIIIIIIIRV p0 p1 p2 p3 v6 v14 v21 v27 b97 g213) [(.int (1 : Int32))]) t → own_S p e below T222 (mkF m 225 (own_AIIIIIIIIRV p0 p1 p2 p3 v6 v14 v21 v27 b97 g213) [g213, g213]) t := by
            intro t k
            show own_S p e below T222 (mkF m 225 (own_AIIIIIIIIRV p0 p1 p2 p3 v6 v14 v21 v27 b97 g213) [g213, g213]) _
            refine Jvm.RoadKit.acmp (g := (mkF m 225 (own_AIIIIIIIIRV p0 p1 p2 p3 v6 v14 v21 v27 b97 g213) [g213, g213])) X222 hx rfl hgr213 hgr213 (pc0 := 225) (pc' := 228) (same := true) rfl (hb hby at_225) rfl (decide_eq_true (rfl : (g213 : Value) = g213)) (by decide) (by decide) ?_
            show own_S p e below T222 (mkF m 228 (own_AIIIIIIIIRV p0 p1 p2 p3 v6 v14 v21 v27 b97 g213) []) _
            refine XS.iconst X222.here hx rfl (hb hby at_228) ?_
            show own_S p e below T222 (mkF m 229 (own_AIIIIIIIIRV p0 p1 p2 p3 v6 v14 v21 v27 b97 g213) [(.int (1 : Int32))]) _
            refine XS.goto X222.here hx rfl (pc0 := 229) (pc' := 233) rfl (hb hby at_229) (by decide) (by decide) ?_
            exact k
          refine own_by sg233 ?_
          obtain ⟨fs, hr, hrun, hended, hW⟩ := X222.leaveW hS222 (Nat.le_refl _) (v := some (.int (1 : Int32))) (fun h => by rw [Bd.returns] at h; cases h)
          refine ⟨_, _, ?_, hrun, hended, _, _, rfl, ?_, (by rw [hh]; show CHr Z consts_1 s.vm h0 T222.vm T222.heap; exact CR222.trans (CHv.at X222 hZ222 hEL hC222.1)), hW.1, hW.2.1, hW.2.2.1, hW.2.2.2.mono (by decide) (by decide)⟩
          · exact retN X222 hx (t := .boolean) Bd.returns (by simp) (hb hby at_233) hr
          · show Q0 Z p0 p1 p2 p3 wV cl wNO wBY_NAME wBY_TYPE wCONSTRUCTOR sNO sBY_NAME sBY_TYPE sCONSTRUCTOR gz h0 n0 _ T222.heap _
            exact ⟨rfl, N222⟩
        · have sg103 : ∀ t, own_S p e below T97 (mkF m 103 (own_AIIIIIIIIUU p0 p1 p2 p3 v6 v14 v21 v27) [(.int v21), (.ref b97), (.ref b97)]) t → own_S p e below T97 (mkF m 101 (own_AIIIIIIIIUU p0 p1 p2 p3 v6 v14 v21 v27) [(.ref b97), (.ref b97)]) t := by
            intro t k
            show own_S p e below T97 (mkF m 101 (own_AIIIIIIIIUU p0 p1 p2 p3 v6 v14 v21 v27) [(.ref b97), (.ref b97)]) _
            refine XS.iload X97.here hx rfl (hb hby at_101) rfl ?_
            exact k
          refine own_by sg103 ?_
          obtain ⟨_, _, ⟨T103, L103, k103, n103⟩, -, X103, ⟨Lc103, hQ103, l103, y103, z103⟩, st103⟩ := Jvm.LawKit.callS X97 hx (y := (⟨"com/example/spojka/spojka/AutowireModeNamedPinLaw", "shorter", "(I)[C"⟩ : MethodName)) hown (mvT hZ (hw _ (List.mem_of_getElem? (i := 81) rfl))) (mvT hZ (hw _ (List.mem_of_getElem? (i := 82) rfl))) (mvT hZ (hw _ (List.mem_of_getElem? (i := 5) rfl))) (mvT hZ (hw _ (List.mem_of_getElem? (i := 83) rfl))) (by decide) (backOf (W := 2) (rm13 l Z a0 hw [] v21 h97 n0 Z97 ) hZ (hw _ (List.mem_of_getElem? (i := 83) rfl)) (hw _ (List.mem_of_getElem? (i := 5) rfl)) (by decide) (by decide)) (g := (mkF m 103 (own_AIIIIIIIIUU p0 p1 p2 p3 v6 v14 v21 v27) [(.int v21), (.ref b97), (.ref b97)])) rfl (by rw [hml]; rfl) (argsL := [(.int v21)]) (rest := [(.ref b97), (.ref b97)]) (lenOf pd_0_0 rfl) rfl (by show 2 * 0 + _ ≤ _; exact Nat.le_of_eq rfl) (hb hby at_103) (fun _ _ => ⟨rfl, e97, (by decide : 1 + 1 ≤ _), (by decide : 4 + 10 ≤ _)⟩)
          dsimp only [Pt.U, Pt.locs, Pt.cells, Pt.slots] at X103 l103 y103 z103 st103 hQ103
          subst l103 y103 z103
          obtain ⟨r103, kc103, rfl, ge103, N103q, Kq103, Aq103⟩ := hQ103
          have N103 := Fr.app N0 N103q
          have ln103 : (own_shorter v21).length = 10 := (by rw [hi3]; rfl)
          rw [ln103] at Aq103
          have An103 : Arv Z T103.heap r103 kc103 .char (10 : Int32) ((own_shorter v21).map Value.int) (.int (0 : Int32)) := Aq103
          have hp103 : ∀ c ∈ (own_shorter v21), ¬ c < 0 ∧ ¬ (255 : Int32) < c := own_shorter_hp _
          have ne_b97_r103 : b97 ≠ r103 := Nat.ne_of_lt (Nat.lt_of_lt_of_le A97.lt ge103)
          have g_r103 : n0 ≤ r103 := Nat.le_trans Z97 ge103
          have sz_r103 : h0.size ≤ r103 := Nat.le_trans K97.1 ge103
          have K103 : Keep h0 T103.heap [] := K97.trans Kq103 (fun x hx => nomatch hx)
          have Z103 : n0 ≤ T103.heap.size := Nat.le_trans Z97 Kq103.1
          have CC103 := CHr.keep Kq103 sf0 CC97.1
          have CR103 := CR97.trans CC103
          refine own_by st103 ?_
          obtain ⟨_, _, ⟨T106, L106, k106, n106⟩, -, X106, ⟨Lc106, hQ106, l106, y106, z106⟩, st106⟩ := X103.specialBack hx (y := (⟨"java/lang/String", "<init>", "([C)V"⟩ : MethodName)) rfl hown (mvT hZ (hw _ (List.mem_of_getElem? (i := 8) rfl))) (mvT hZ (hw _ (List.mem_of_getElem? (i := 9) rfl))) (mvT hZ (hw _ (List.mem_of_getElem? (i := 10) rfl))) (by decide) (StrChars.Road.backV (W := 1) hZ hws (kI := 4) (hw _ (List.mem_of_getElem? (i := 1) rfl)) (cs := (own_shorter v21)) (bs := (own_shorter v21).map (fun c => c.toInt8.toInt32)) (n := 10) g_b97 Z103 (A97.keep Kq103) (F_value_b97.keep Kq103 List.not_mem_nil) (F_coder_b97.keep Kq103 List.not_mem_nil) An103 (O2.ext ((O.ext E97).keep Kq103 all0).2) P5 ln103 rfl (by decide) (by decide) hp103 rfl (by decide) (by decide)) (g := (mkF m 106 (own_AIIIIIIIIUU p0 p1 p2 p3 v6 v14 v21 v27) [(.ref r103), (.ref b97), (.ref b97)])) rfl (by rw [hml]; rfl) (Steps.refl _) (a := b97) (argsL := [(.ref r103)]) (rest := [(.ref b97)]) (lenOf pd_0_1 rfl) rfl (by show 2 * 0 + _ ≤ _; exact Nat.le_of_eq rfl) (hb hby at_106) (fun _ _ => ⟨rfl, rfl, (by decide : 2 + 1 ≤ _), (by decide : 14 + 10 ≤ _)⟩)
          dsimp only [Pt.U, Pt.locs, Pt.cells, Pt.slots] at X106 l106 y106 z106 st106 hQ106
          subst l106 y106 z106
          obtain ⟨rfl, N106q, Kq106, Eq106, Cq106, t106, kb106, u1106, u2106, u3106, Vq106, Aq106⟩ := hQ106
          have N106 := Fr.app N103 N106q
          have Sq106 : own_Str Z T106.heap b97 (own_shorter v21) := ⟨t106, kb106, 0, _, _, Eq106, Vq106, Cq106, Aq106, StrChars.Road.codOf (n := 10) ln103 (fun x hx => (hp103 x hx).2), own_up _ hp103, by rw [ln103]; decide⟩
          have fc := (An103.keep Kq106 (fun h => (Ne.symm ne_b97_r103) (List.mem_singleton.mp h)))
          have K106 : Keep h0 T106.heap [] := K103.trans Kq106 (fun x hx => by cases List.mem_singleton.mp hx; exact Or.inr sz_b97)
          have Z106 : n0 ≤ T106.heap.size := Nat.le_trans Z103 Kq106.1
          have CC106 := CHr.keep Kq106 (sfS (own_safe0 hZ.alike (A97.keep Kq103) (F_value_b97.keep Kq103 List.not_mem_nil) (hw _ (List.mem_of_getElem? (i := 1) rfl))) sf0) CC103.1
          have CR106 := CR103.trans CC106
          refine own_by (fun t k => st106.trans k) ?_
          have sg213 : ∀ t, own_S p e below T106 (mkF m 213 (own_AIIIIIIIIRU p0 p1 p2 p3 v6 v14 v21 v27 b97) [(.ref b97)]) t → own_S p e below T106 (mkF m 109 (own_AIIIIIIIIUU p0 p1 p2 p3 v6 v14 v21 v27) [(.ref b97)]) t := by
            intro t k
            show own_S p e below T106 (mkF m 109 (own_AIIIIIIIIUU p0 p1 p2 p3 v6 v14 v21 v27) [(.ref b97)]) _
            refine XS.astore X106.here hx rfl (hb hby at_109) rfl rfl (l' := (own_AIIIIIIIIRU p0 p1 p2 p3 v6 v14 v21 v27 b97)) rfl ?_
            show own_S p e below T106 (mkF m 111 (own_AIIIIIIIIRU p0 p1 p2 p3 v6 v14 v21 v27 b97) []) _
            refine XS.goto X106.here hx rfl (pc0 := 111) (pc' := 211) rfl (hb hby at_111) (by decide) (by decide) ?_
            show own_S p e below T106 (mkF m 211 (own_AIIIIIIIIRU p0 p1 p2 p3 v6 v14 v21 v27 b97) []) _
            refine XS.aload X106.here hx rfl (hb hby at_211) rfl rfl ?_
            exact k
          refine own_by sg213 ?_
          obtain ⟨_, _, ⟨T213, L213, k213, n213⟩, -, X213, ⟨Lc213, hQ213, l213, y213, z213⟩, st213⟩ := Jvm.LawKit.callS X106 hx (y := (⟨"com/example/spojka/spojka/AutowireMode", "named", "(Ljava/lang/String;)Lcom/example/spojka/spojka/AutowireMode;"⟩ : MethodName)) hown (mvT hZ (hw _ (List.mem_of_getElem? (i := 34) rfl))) (mvT hZ (hw _ (List.mem_of_getElem? (i := 35) rfl))) (mvT hZ (hw _ (List.mem_of_getElem? (i := 36) rfl))) (mvT hZ (hw _ (List.mem_of_getElem? (i := 37) rfl))) (by decide) (backOf (W := 0) (rm8 l Z a0 hw [] b97 (own_shorter v21) wV cl wNO wBY_NAME wBY_TYPE wCONSTRUCTOR sNO sBY_NAME sBY_TYPE sCONSTRUCTOR gz T106.heap n0 Z106 (((O.ext E97).keep Kq103 all0).keep Kq106 (allS g_b97 all0)) O2 P5 S_V Ar_V E_V FC hsz hat0 hat1 hat2 hat3 FV_NO FV_BY_NAME FV_BY_TYPE FV_CONSTRUCTOR EX_NO EX_BY_NAME EX_BY_TYPE EX_CONSTRUCTOR Str_NO Str_BY_NAME Str_BY_TYPE Str_CONSTRUCTOR Sq106) hZ (hw _ (List.mem_of_getElem? (i := 37) rfl)) (hw _ (List.mem_of_getElem? (i := 36) rfl)) (by decide) (by decide)) (g := (mkF m 213 (own_AIIIIIIIIRU p0 p1 p2 p3 v6 v14 v21 v27 b97) [(.ref b97)])) rfl (by rw [hml]; rfl) (argsL := [(.ref b97)]) (rest := []) (lenOf pd_0_2 rfl) rfl (by show 2 * 0 + _ ≤ _; exact Nat.le_of_eq rfl) (hb hby at_213) (fun _ _ => ⟨rfl, rfl, (by decide : 3 + 1 ≤ _), (by decide : 24 + 4 ≤ _)⟩)
          dsimp only [Pt.U, Pt.locs, Pt.cells, Pt.slots] at X213 l213 y213 z213 st213 hQ213
          subst l213 y213 z213
          obtain ⟨rfl, N213q, Kq213⟩ := hQ213
          have N213 := Fr.app N106 N213q
          have K213 : Keep h0 T213.heap [] := K106.trans Kq213 (fun x hx => nomatch hx)
          have Z213 : n0 ≤ T213.heap.size := Nat.le_trans Z106 Kq213.1
          have CC213 := CHr.keep Kq213 sf0 CC106.1
          have CR213 := CR106.trans CC213
          obtain ⟨g213, hg213⟩ : ∃ z : Value, z = (if ([(110 : Int32), (111 : Int32)] : List Int32) = (own_shorter v21) then Value.ref wNO else (if ([(98 : Int32), (121 : Int32), (78 : Int32), (97 : Int32), (109 : Int32), (101 : Int32)] : List Int32) = (own_shorter v21) then Value.ref wBY_NAME else (if ([(98 : Int32), (121 : Int32), (84 : Int32), (121 : Int32), (112 : Int32), (101 : Int32)] : List Int32) = (own_shorter v21) then Value.ref wBY_TYPE else (if ([(99 : Int32), (111 : Int32), (110 : Int32), (115 : Int32), (116 : Int32), (114 : Int32), (117 : Int32), (99 : Int32), (116 : Int32), (111 : Int32), (114 : Int32)] : List Int32) = (own_shorter v21) then Value.ref wCONSTRUCTOR else Value.null)))) := ⟨_, rfl⟩
          rw [← hg213] at st213
          have hgr213 : g213.isRef = true := by rw [hg213]; repeat' (first | rfl | (refine own_isr rfl ?_))
          refine own_by st213 ?_
          have sg222 : ∀ t, own_S p e below T213 (mkF m 222 (own_AIIIIIIIIRV p0 p1 p2 p3 v6 v14 v21 v27 b97 g213) [(.ref b97), g213]) t → own_S p e below T213 (mkF m 216 (own_AIIIIIIIIRU p0 p1 p2 p3 v6 v14 v21 v27 b97) [g213]) t := by
            intro t k
            show own_S p e below T213 (mkF m 216 (own_AIIIIIIIIRU p0 p1 p2 p3 v6 v14 v21 v27 b97) [g213]) _
            refine XS.astore X213.here hx rfl (hb hby at_216) rfl hgr213 (l' := (own_AIIIIIIIIRV p0 p1 p2 p3 v6 v14 v21 v27 b97 g213)) (by simp [storeLocals, storeSelf, setAt, own_cat1 hgr213, own_catr, own_catn]) ?_
            show own_S p e below T213 (mkF m 218 (own_AIIIIIIIIRV p0 p1 p2 p3 v6 v14 v21 v27 b97 g213) []) _
            refine XS.aload X213.here hx rfl (hb hby at_218) rfl hgr213 ?_
            show own_S p e below T213 (mkF m 220 (own_AIIIIIIIIRV p0 p1 p2 p3 v6 v14 v21 v27 b97 g213) [g213]) _
            refine XS.aload X213.here hx rfl (hb hby at_220) rfl rfl ?_
            exact k
          refine own_by sg222 ?_
          obtain ⟨_, _, ⟨T222, L222, k222, n222⟩, -, Xc222, hSc222, hgc222, ⟨Lc222, hQ222, l222, y222, z222, hC222⟩, st222⟩ := callSS X213 hx (y := (⟨"com/example/spojka/spojka/AutowireModeNamedPinLaw", "expected", "(Ljava/lang/String;)Lcom/example/spojka/spojka/AutowireMode;"⟩ : MethodName)) hown (mvT hZ (hw _ (List.mem_of_getElem? (i := 69) rfl))) (mvT hZ (hw _ (List.mem_of_getElem? (i := 70) rfl))) (mvT hZ (hw _ (List.mem_of_getElem? (i := 5) rfl))) (mvT hZ (hw _ (List.mem_of_getElem? (i := 71) rfl))) (by decide) (backOfSH (W := 1) (rm12 l Z a0 hw [] b97 (own_shorter v21) wNO wBY_NAME wBY_TYPE wCONSTRUCTOR gz T213.heap n0 Z213 ((((O.ext E97).keep Kq103 all0).keep Kq106 (allS g_b97 all0)).keep Kq213 all0) O2 P5 (Sq106.ext (own_kx Kq213)) S_NO S_BY_NAME S_BY_TYPE S_CONSTRUCTOR) hZ (hw _ (List.mem_of_getElem? (i := 71) rfl)) (hw _ (List.mem_of_getElem? (i := 5) rfl)) (by decide) (by decide) hEL CC213.1) (g := (mkF m 222 (own_AIIIIIIIIRV p0 p1 p2 p3 v6 v14 v21 v27 b97 g213) [(.ref b97), g213])) rfl (by rw [hml]; rfl) (argsL := [(.ref b97)]) (rest := [g213]) (lenOf pd_0_2 rfl) rfl (by show 2 * 0 + (List.map (fun v => Value.category v) [g213]).sum ≤ 1; simp [own_cat1 hgr213, own_catr, own_catn]) (hb hby at_222) (fun _ _ => ⟨rfl, rfl, (by decide : 4 + 8 ≤ _), (by decide : 28 + 116 ≤ _)⟩)
          dsimp only [Pt.U, Pt.locs, Pt.cells, Pt.slots] at Xc222 hSc222 hgc222
          obtain ⟨X222, hS222, hZ222, hown222⟩ := rebS hS0 (Nat.le_trans (Nat.le_trans (Nat.le_trans (Nat.le_trans (Nat.zero_le _) E97.1) Kq103.1) Kq106.1) Kq213.1) Xc222 hSc222 hgc222 hZ hown
          dsimp only [Pt.U, Pt.locs, Pt.cells, Pt.slots] at X222 l222 y222 z222 st222 hQ222
          subst l222 y222 z222
          obtain ⟨rfl, N222q, Kq222⟩ := hQ222
          have N222 := Fr.app N213 N222q
          have fc_2 := ((fc.keep Kq213 List.not_mem_nil).keep Kq222 List.not_mem_nil)
          have K222 : Keep h0 T222.heap [] := K213.trans Kq222 (fun x hx => nomatch hx)
          have Z222 : n0 ≤ T222.heap.size := Nat.le_trans Z213 Kq222.1
          rw [← hg213] at st222
          have CR222 := CR213.trans hC222
          refine own_by (fun t k => st222.trans k) ?_
          have sg233 : ∀ t, own_S p e below T222 (mkF m 233 (own_AIIIIIIIIRV p0 p1 p2 p3 v6 v14 v21 v27 b97 g213) [(.int (1 : Int32))]) t → own_S p e below T222 (mkF m 225 (own_AIIIIIIIIRV p0 p1 p2 p3 v6 v14 v21 v27 b97 g213) [g213, g213]) t := by
            intro t k
            show own_S p e below T222 (mkF m 225 (own_AIIIIIIIIRV p0 p1 p2 p3 v6 v14 v21 v27 b97 g213) [g213, g213]) _
            refine Jvm.RoadKit.acmp (g := (mkF m 225 (own_AIIIIIIIIRV p0 p1 p2 p3 v6 v14 v21 v27 b97 g213) [g213, g213])) X222 hx rfl hgr213 hgr213 (pc0 := 225) (pc' := 228) (same := true) rfl (hb hby at_225) rfl (decide_eq_true (rfl : (g213 : Value) = g213)) (by decide) (by decide) ?_
            show own_S p e below T222 (mkF m 228 (own_AIIIIIIIIRV p0 p1 p2 p3 v6 v14 v21 v27 b97 g213) []) _
            refine XS.iconst X222.here hx rfl (hb hby at_228) ?_
            show own_S p e below T222 (mkF m 229 (own_AIIIIIIIIRV p0 p1 p2 p3 v6 v14 v21 v27 b97 g213) [(.int (1 : Int32))]) _
            refine XS.goto X222.here hx rfl (pc0 := 229) (pc' := 233) rfl (hb hby at_229) (by decide) (by decide) ?_
            exact k
          refine own_by sg233 ?_
          obtain ⟨fs, hr, hrun, hended, hW⟩ := X222.leaveW hS222 (Nat.le_refl _) (v := some (.int (1 : Int32))) (fun h => by rw [Bd.returns] at h; cases h)
          refine ⟨_, _, ?_, hrun, hended, _, _, rfl, ?_, (by rw [hh]; show CHr Z consts_1 s.vm h0 T222.vm T222.heap; exact CR222.trans (CHv.at X222 hZ222 hEL hC222.1)), hW.1, hW.2.1, hW.2.2.1, hW.2.2.2.mono (by decide) (by decide)⟩
          · exact retN X222 hx (t := .boolean) Bd.returns (by simp) (hb hby at_233) hr
          · show Q0 Z p0 p1 p2 p3 wV cl wNO wBY_NAME wBY_TYPE wCONSTRUCTOR sNO sBY_NAME sBY_TYPE sCONSTRUCTOR gz h0 n0 _ T222.heap _
            exact ⟨rfl, N222⟩
      · have sg117 : ∀ t, own_S p e below s₁ (mkF m 117 (own_AIIIIIIIIUU p0 p1 p2 p3 v6 v14 v21 v27) [(.int (3 : Int32)), (.int v27)]) t → own_S p e below s₁ (mkF m 94 (own_AIIIIIIIIUU p0 p1 p2 p3 v6 v14 v21 v27) [(.int (2 : Int32)), (.int v27)]) t := by
          intro t k
          show own_S p e below s₁ (mkF m 94 (own_AIIIIIIIIUU p0 p1 p2 p3 v6 v14 v21 v27) [(.int (2 : Int32)), (.int v27)]) _
          refine XS.icmpYes X0.here hx rfl (pc0 := 94) (pc' := 114) rfl (hb hby at_94) rfl (feq hc94).2 (by decide) (by decide) ?_
          show own_S p e below s₁ (mkF m 114 (own_AIIIIIIIIUU p0 p1 p2 p3 v6 v14 v21 v27) []) _
          refine XS.iload X0.here hx rfl (hb hby at_114) rfl ?_
          show own_S p e below s₁ (mkF m 116 (own_AIIIIIIIIUU p0 p1 p2 p3 v6 v14 v21 v27) [(.int v27)]) _
          refine XS.iconst X0.here hx rfl (hb hby at_116) ?_
          exact k
        refine own_by sg117 ?_
        by_cases hc117 : v27 = (3 : Int32)
        · have sg120 : ∀ t, own_S p e below s₁ (mkF m 120 (own_AIIIIIIIIUU p0 p1 p2 p3 v6 v14 v21 v27) []) t → own_S p e below s₁ (mkF m 117 (own_AIIIIIIIIUU p0 p1 p2 p3 v6 v14 v21 v27) [(.int (3 : Int32)), (.int v27)]) t := by
            intro t k
            show own_S p e below s₁ (mkF m 117 (own_AIIIIIIIIUU p0 p1 p2 p3 v6 v14 v21 v27) [(.int (3 : Int32)), (.int v27)]) _
            refine XS.icmpNo X0.here hx rfl (hb hby at_117) rfl (teq hc117).2 ?_
            exact k
          refine own_by sg120 ?_
          obtain ⟨T120, h120, X120, e120, E120, A120, D120, -, st120⟩ := newO X0 hx hZ hown (hw _ (List.mem_of_getElem? (i := 0) rfl)) (hw _ (List.mem_of_getElem? (i := 1) rfl)) (hw _ (List.mem_of_getElem? (i := 2) rfl)) e0 (g := (mkF m 120 (own_AIIIIIIIIUU p0 p1 p2 p3 v6 v14 v21 v27) [])) rfl (hb hby at_120) (by decide) (by decide)
          obtain ⟨b120, g120⟩ : ∃ z, z = h0.size := ⟨_, rfl⟩
          rw [← g120] at A120 D120 st120
          have g_b120 : n0 ≤ b120 := Nat.le_trans Z0 (Nat.le_of_eq g120.symm)
          have sz_b120 : h0.size ≤ b120 := Nat.le_trans K0.1 (Nat.le_of_eq g120.symm)
          have K120 := K0.ext E120
          have Z120 : n0 ≤ h120.size := Nat.le_trans Z0 E120.1
          have CC120 := CHr.ext E120 hH0
          have CR120 := (CHr.refl hH0).trans CC120
          have F_coder_b120 : Fld Z h120 b120 "java/lang/String" "coder" "B" (.int (0 : Int32)) := D120 (Or.inr (hw _ (List.mem_of_getElem? (i := 31) rfl))) (ty := .byte) (by decide)
          have F_value_b120 : Fld Z h120 b120 "java/lang/String" "value" "[B" .null := D120 (Or.inr (hw _ (List.mem_of_getElem? (i := 33) rfl))) (ty := (.array .byte)) (by decide)
          refine own_by st120 ?_
          have sg124 : ∀ t, own_S p e below T120 (mkF m 124 (own_AIIIIIIIIUU p0 p1 p2 p3 v6 v14 v21 v27) [(.ref b120), (.ref b120)]) t → own_S p e below T120 (mkF m 123 (own_AIIIIIIIIUU p0 p1 p2 p3 v6 v14 v21 v27) [(.ref b120)]) t := by
            intro t k
            show own_S p e below T120 (mkF m 123 (own_AIIIIIIIIUU p0 p1 p2 p3 v6 v14 v21 v27) [(.ref b120)]) _
            refine XS.dup X120.here hx rfl (hb hby at_123) rfl rfl ?_
            exact k
          refine own_by sg124 ?_
          rcases (by rw [hv21]; exact own_and3 _ : v21 = 0 ∨ v21 = 1 ∨ v21 = 2 ∨ v21 = 3) with hi0 | hi1 | hi2 | hi3
          · have sg128 : ∀ t, own_S p e below T120 (mkF m 128 (own_AIIIIIIIIUU p0 p1 p2 p3 v6 v14 v21 v27) [(.int v6), (.int v21), (.ref b120), (.ref b120)]) t → own_S p e below T120 (mkF m 124 (own_AIIIIIIIIUU p0 p1 p2 p3 v6 v14 v21 v27) [(.ref b120), (.ref b120)]) t := by
              intro t k
              show own_S p e below T120 (mkF m 124 (own_AIIIIIIIIUU p0 p1 p2 p3 v6 v14 v21 v27) [(.ref b120), (.ref b120)]) _
              refine XS.iload X120.here hx rfl (hb hby at_124) rfl ?_
              show own_S p e below T120 (mkF m 126 (own_AIIIIIIIIUU p0 p1 p2 p3 v6 v14 v21 v27) [(.int v21), (.ref b120), (.ref b120)]) _
              refine XS.iload X120.here hx rfl (hb hby at_126) rfl ?_
              exact k
            refine own_by sg128 ?_
            obtain ⟨_, _, ⟨T128, L128, k128, n128⟩, -, X128, ⟨Lc128, hQ128, l128, y128, z128⟩, st128⟩ := Jvm.LawKit.callS X120 hx (y := (⟨"com/example/spojka/spojka/AutowireModeNamedPinLaw", "longer", "(IC)[C"⟩ : MethodName)) hown (mvT hZ (hw _ (List.mem_of_getElem? (i := 85) rfl))) (mvT hZ (hw _ (List.mem_of_getElem? (i := 86) rfl))) (mvT hZ (hw _ (List.mem_of_getElem? (i := 5) rfl))) (mvT hZ (hw _ (List.mem_of_getElem? (i := 87) rfl))) (by decide) (backOf (W := 2) (rm14 l Z a0 hw [] v21 v6 h120 n0 Z120 hk_v6) hZ (hw _ (List.mem_of_getElem? (i := 87) rfl)) (hw _ (List.mem_of_getElem? (i := 5) rfl)) (by decide) (by decide)) (g := (mkF m 128 (own_AIIIIIIIIUU p0 p1 p2 p3 v6 v14 v21 v27) [(.int v6), (.int v21), (.ref b120), (.ref b120)])) rfl (by rw [hml]; rfl) (argsL := [(.int v21), (.int v6)]) (rest := [(.ref b120), (.ref b120)]) (lenOf pd_0_3 rfl) rfl (by show 2 * 0 + _ ≤ _; exact Nat.le_of_eq rfl) (hb hby at_128) (fun _ _ => ⟨rfl, e120, (by decide : 1 + 1 ≤ _), (by decide : 4 + 12 ≤ _)⟩)
            dsimp only [Pt.U, Pt.locs, Pt.cells, Pt.slots] at X128 l128 y128 z128 st128 hQ128
            subst l128 y128 z128
            obtain ⟨r128, kc128, rfl, ge128, N128q, Kq128, Aq128⟩ := hQ128
            have N128 := Fr.app N0 N128q
            have ln128 : (own_longer v21 v6).length = 3 := (by rw [hi0]; rfl)
            rw [ln128] at Aq128
            have An128 : Arv Z T128.heap r128 kc128 .char (3 : Int32) ((own_longer v21 v6).map Value.int) (.int (0 : Int32)) := Aq128
            have hp128 : ∀ c ∈ (own_longer v21 v6), ¬ c < 0 ∧ ¬ (255 : Int32) < c := own_longer_hp _ _ hk_v6
            have ne_b120_r128 : b120 ≠ r128 := Nat.ne_of_lt (Nat.lt_of_lt_of_le A120.lt ge128)
            have g_r128 : n0 ≤ r128 := Nat.le_trans Z120 ge128
            have sz_r128 : h0.size ≤ r128 := Nat.le_trans K120.1 ge128
            have K128 : Keep h0 T128.heap [] := K120.trans Kq128 (fun x hx => nomatch hx)
            have Z128 : n0 ≤ T128.heap.size := Nat.le_trans Z120 Kq128.1
            have CC128 := CHr.keep Kq128 sf0 CC120.1
            have CR128 := CR120.trans CC128
            refine own_by st128 ?_
            obtain ⟨_, _, ⟨T131, L131, k131, n131⟩, -, X131, ⟨Lc131, hQ131, l131, y131, z131⟩, st131⟩ := X128.specialBack hx (y := (⟨"java/lang/String", "<init>", "([C)V"⟩ : MethodName)) rfl hown (mvT hZ (hw _ (List.mem_of_getElem? (i := 8) rfl))) (mvT hZ (hw _ (List.mem_of_getElem? (i := 9) rfl))) (mvT hZ (hw _ (List.mem_of_getElem? (i := 10) rfl))) (by decide) (StrChars.Road.backV (W := 1) hZ hws (kI := 4) (hw _ (List.mem_of_getElem? (i := 1) rfl)) (cs := (own_longer v21 v6)) (bs := (own_longer v21 v6).map (fun c => c.toInt8.toInt32)) (n := 3) g_b120 Z128 (A120.keep Kq128) (F_value_b120.keep Kq128 List.not_mem_nil) (F_coder_b120.keep Kq128 List.not_mem_nil) An128 (O2.ext ((O.ext E120).keep Kq128 all0).2) P5 ln128 rfl (by decide) (by decide) hp128 rfl (by decide) (by decide)) (g := (mkF m 131 (own_AIIIIIIIIUU p0 p1 p2 p3 v6 v14 v21 v27) [(.ref r128), (.ref b120), (.ref b120)])) rfl (by rw [hml]; rfl) (Steps.refl _) (a := b120) (argsL := [(.ref r128)]) (rest := [(.ref b120)]) (lenOf pd_0_1 rfl) rfl (by show 2 * 0 + _ ≤ _; exact Nat.le_of_eq rfl) (hb hby at_131) (fun _ _ => ⟨rfl, rfl, (by decide : 2 + 1 ≤ _), (by decide : 16 + 3 ≤ _)⟩)
            dsimp only [Pt.U, Pt.locs, Pt.cells, Pt.slots] at X131 l131 y131 z131 st131 hQ131
            subst l131 y131 z131
            obtain ⟨rfl, N131q, Kq131, Eq131, Cq131, t131, kb131, u1131, u2131, u3131, Vq131, Aq131⟩ := hQ131
            have N131 := Fr.app N128 N131q
            have Sq131 : own_Str Z T131.heap b120 (own_longer v21 v6) := ⟨t131, kb131, 0, _, _, Eq131, Vq131, Cq131, Aq131, StrChars.Road.codOf (n := 3) ln128 (fun x hx => (hp128 x hx).2), own_up _ hp128, by rw [ln128]; decide⟩
            have fc := (An128.keep Kq131 (fun h => (Ne.symm ne_b120_r128) (List.mem_singleton.mp h)))
            have K131 : Keep h0 T131.heap [] := K128.trans Kq131 (fun x hx => by cases List.mem_singleton.mp hx; exact Or.inr sz_b120)
            have Z131 : n0 ≤ T131.heap.size := Nat.le_trans Z128 Kq131.1
            have CC131 := CHr.keep Kq131 (sfS (own_safe0 hZ.alike (A120.keep Kq128) (F_value_b120.keep Kq128 List.not_mem_nil) (hw _ (List.mem_of_getElem? (i := 1) rfl))) sf0) CC128.1
            have CR131 := CR128.trans CC131
            refine own_by (fun t k => st131.trans k) ?_
            have sg213 : ∀ t, own_S p e below T131 (mkF m 213 (own_AIIIIIIIIRU p0 p1 p2 p3 v6 v14 v21 v27 b120) [(.ref b120)]) t → own_S p e below T131 (mkF m 134 (own_AIIIIIIIIUU p0 p1 p2 p3 v6 v14 v21 v27) [(.ref b120)]) t := by
              intro t k
              show own_S p e below T131 (mkF m 134 (own_AIIIIIIIIUU p0 p1 p2 p3 v6 v14 v21 v27) [(.ref b120)]) _
              refine XS.astore X131.here hx rfl (hb hby at_134) rfl rfl (l' := (own_AIIIIIIIIRU p0 p1 p2 p3 v6 v14 v21 v27 b120)) rfl ?_
              show own_S p e below T131 (mkF m 136 (own_AIIIIIIIIRU p0 p1 p2 p3 v6 v14 v21 v27 b120) []) _
              refine XS.goto X131.here hx rfl (pc0 := 136) (pc' := 211) rfl (hb hby at_136) (by decide) (by decide) ?_
              show own_S p e below T131 (mkF m 211 (own_AIIIIIIIIRU p0 p1 p2 p3 v6 v14 v21 v27 b120) []) _
              refine XS.aload X131.here hx rfl (hb hby at_211) rfl rfl ?_
              exact k
            refine own_by sg213 ?_
            obtain ⟨_, _, ⟨T213, L213, k213, n213⟩, -, X213, ⟨Lc213, hQ213, l213, y213, z213⟩, st213⟩ := Jvm.LawKit.callS X131 hx (y := (⟨"com/example/spojka/spojka/AutowireMode", "named", "(Ljava/lang/String;)Lcom/example/spojka/spojka/AutowireMode;"⟩ : MethodName)) hown (mvT hZ (hw _ (List.mem_of_getElem? (i := 34) rfl))) (mvT hZ (hw _ (List.mem_of_getElem? (i := 35) rfl))) (mvT hZ (hw _ (List.mem_of_getElem? (i := 36) rfl))) (mvT hZ (hw _ (List.mem_of_getElem? (i := 37) rfl))) (by decide) (backOf (W := 0) (rm8 l Z a0 hw [] b120 (own_longer v21 v6) wV cl wNO wBY_NAME wBY_TYPE wCONSTRUCTOR sNO sBY_NAME sBY_TYPE sCONSTRUCTOR gz T131.heap n0 Z131 (((O.ext E120).keep Kq128 all0).keep Kq131 (allS g_b120 all0)) O2 P5 S_V Ar_V E_V FC hsz hat0 hat1 hat2 hat3 FV_NO FV_BY_NAME FV_BY_TYPE FV_CONSTRUCTOR EX_NO EX_BY_NAME EX_BY_TYPE EX_CONSTRUCTOR Str_NO Str_BY_NAME Str_BY_TYPE Str_CONSTRUCTOR Sq131) hZ (hw _ (List.mem_of_getElem? (i := 37) rfl)) (hw _ (List.mem_of_getElem? (i := 36) rfl)) (by decide) (by decide)) (g := (mkF m 213 (own_AIIIIIIIIRU p0 p1 p2 p3 v6 v14 v21 v27 b120) [(.ref b120)])) rfl (by rw [hml]; rfl) (argsL := [(.ref b120)]) (rest := []) (lenOf pd_0_2 rfl) rfl (by show 2 * 0 + _ ≤ _; exact Nat.le_of_eq rfl) (hb hby at_213) (fun _ _ => ⟨rfl, rfl, (by decide : 3 + 1 ≤ _), (by decide : 19 + 4 ≤ _)⟩)
            dsimp only [Pt.U, Pt.locs, Pt.cells, Pt.slots] at X213 l213 y213 z213 st213 hQ213
            subst l213 y213 z213
            obtain ⟨rfl, N213q, Kq213⟩ := hQ213
            have N213 := Fr.app N131 N213q
            have K213 : Keep h0 T213.heap [] := K131.trans Kq213 (fun x hx => nomatch hx)
            have Z213 : n0 ≤ T213.heap.size := Nat.le_trans Z131 Kq213.1
            have CC213 := CHr.keep Kq213 sf0 CC131.1
            have CR213 := CR131.trans CC213
            obtain ⟨g213, hg213⟩ : ∃ z : Value, z = (if ([(110 : Int32), (111 : Int32)] : List Int32) = (own_longer v21 v6) then Value.ref wNO else (if ([(98 : Int32), (121 : Int32), (78 : Int32), (97 : Int32), (109 : Int32), (101 : Int32)] : List Int32) = (own_longer v21 v6) then Value.ref wBY_NAME else (if ([(98 : Int32), (121 : Int32), (84 : Int32), (121 : Int32), (112 : Int32), (101 : Int32)] : List Int32) = (own_longer v21 v6) then Value.ref wBY_TYPE else (if ([(99 : Int32), (111 : Int32), (110 : Int32), (115 : Int32), (116 : Int32), (114 : Int32), (117 : Int32), (99 : Int32), (116 : Int32), (111 : Int32), (114 : Int32)] : List Int32) = (own_longer v21 v6) then Value.ref wCONSTRUCTOR else Value.null)))) := ⟨_, rfl⟩
            rw [← hg213] at st213
            have hgr213 : g213.isRef = true := by rw [hg213]; repeat' (first | rfl | (refine own_isr rfl ?_))
            refine own_by st213 ?_
            have sg222 : ∀ t, own_S p e below T213 (mkF m 222 (own_AIIIIIIIIRV p0 p1 p2 p3 v6 v14 v21 v27 b120 g213) [(.ref b120), g213]) t → own_S p e below T213 (mkF m 216 (own_AIIIIIIIIRU p0 p1 p2 p3 v6 v14 v21 v27 b120) [g213]) t := by
              intro t k
              show own_S p e below T213 (mkF m 216 (own_AIIIIIIIIRU p0 p1 p2 p3 v6 v14 v21 v27 b120) [g213]) _
              refine XS.astore X213.here hx rfl (hb hby at_216) rfl hgr213 (l' := (own_AIIIIIIIIRV p0 p1 p2 p3 v6 v14 v21 v27 b120 g213)) (by simp [storeLocals, storeSelf, setAt, own_cat1 hgr213, own_catr, own_catn]) ?_
              show own_S p e below T213 (mkF m 218 (own_AIIIIIIIIRV p0 p1 p2 p3 v6 v14 v21 v27 b120 g213) []) _
              refine XS.aload X213.here hx rfl (hb hby at_218) rfl hgr213 ?_
              show own_S p e below T213 (mkF m 220 (own_AIIIIIIIIRV p0 p1 p2 p3 v6 v14 v21 v27 b120 g213) [g213]) _
              refine XS.aload X213.here hx rfl (hb hby at_220) rfl rfl ?_
              exact k
            refine own_by sg222 ?_
            obtain ⟨_, _, ⟨T222, L222, k222, n222⟩, -, Xc222, hSc222, hgc222, ⟨Lc222, hQ222, l222, y222, z222, hC222⟩, st222⟩ := callSS X213 hx (y := (⟨"com/example/spojka/spojka/AutowireModeNamedPinLaw", "expected", "(Ljava/lang/String;)Lcom/example/spojka/spojka/AutowireMode;"⟩ : MethodName)) hown (mvT hZ (hw _ (List.mem_of_getElem? (i := 69) rfl))) (mvT hZ (hw _ (List.mem_of_getElem? (i := 70) rfl))) (mvT hZ (hw _ (List.mem_of_getElem? (i := 5) rfl))) (mvT hZ (hw _ (List.mem_of_getElem? (i := 71) rfl))) (by decide) (backOfSH (W := 1) (rm12 l Z a0 hw [] b120 (own_longer v21 v6) wNO wBY_NAME wBY_TYPE wCONSTRUCTOR gz T213.heap n0 Z213 ((((O.ext E120).keep Kq128 all0).keep Kq131 (allS g_b120 all0)).keep Kq213 all0) O2 P5 (Sq131.ext (own_kx Kq213)) S_NO S_BY_NAME S_BY_TYPE S_CONSTRUCTOR) hZ (hw _ (List.mem_of_getElem? (i := 71) rfl)) (hw _ (List.mem_of_getElem? (i := 5) rfl)) (by decide) (by decide) hEL CC213.1) (g := (mkF m 222 (own_AIIIIIIIIRV p0 p1 p2 p3 v6 v14 v21 v27 b120 g213) [(.ref b120), g213])) rfl (by rw [hml]; rfl) (argsL := [(.ref b120)]) (rest := [g213]) (lenOf pd_0_2 rfl) rfl (by show 2 * 0 + (List.map (fun v => Value.category v) [g213]).sum ≤ 1; simp [own_cat1 hgr213, own_catr, own_catn]) (hb hby at_222) (fun _ _ => ⟨rfl, rfl, (by decide : 4 + 8 ≤ _), (by decide : 23 + 116 ≤ _)⟩)
            dsimp only [Pt.U, Pt.locs, Pt.cells, Pt.slots] at Xc222 hSc222 hgc222
            obtain ⟨X222, hS222, hZ222, hown222⟩ := rebS hS0 (Nat.le_trans (Nat.le_trans (Nat.le_trans (Nat.le_trans (Nat.zero_le _) E120.1) Kq128.1) Kq131.1) Kq213.1) Xc222 hSc222 hgc222 hZ hown
            dsimp only [Pt.U, Pt.locs, Pt.cells, Pt.slots] at X222 l222 y222 z222 st222 hQ222
            subst l222 y222 z222
            obtain ⟨rfl, N222q, Kq222⟩ := hQ222
            have N222 := Fr.app N213 N222q
            have fc_2 := ((fc.keep Kq213 List.not_mem_nil).keep Kq222 List.not_mem_nil)
            have K222 : Keep h0 T222.heap [] := K213.trans Kq222 (fun x hx => nomatch hx)
            have Z222 : n0 ≤ T222.heap.size := Nat.le_trans Z213 Kq222.1
            rw [← hg213] at st222
            have CR222 := CR213.trans hC222
            refine own_by (fun t k => st222.trans k) ?_
            have sg233 : ∀ t, own_S p e below T222 (mkF m 233 (own_AIIIIIIIIRV p0 p1 p2 p3 v6 v14 v21 v27 b120 g213) [(.int (1 : Int32))]) t → own_S p e below T222 (mkF m 225 (own_AIIIIIIIIRV p0 p1 p2 p3 v6 v14 v21 v27 b120 g213) [g213, g213]) t := by
              intro t k
              show own_S p e below T222 (mkF m 225 (own_AIIIIIIIIRV p0 p1 p2 p3 v6 v14 v21 v27 b120 g213) [g213, g213]) _
              refine Jvm.RoadKit.acmp (g := (mkF m 225 (own_AIIIIIIIIRV p0 p1 p2 p3 v6 v14 v21 v27 b120 g213) [g213, g213])) X222 hx rfl hgr213 hgr213 (pc0 := 225) (pc' := 228) (same := true) rfl (hb hby at_225) rfl (decide_eq_true (rfl : (g213 : Value) = g213)) (by decide) (by decide) ?_
              show own_S p e below T222 (mkF m 228 (own_AIIIIIIIIRV p0 p1 p2 p3 v6 v14 v21 v27 b120 g213) []) _
              refine XS.iconst X222.here hx rfl (hb hby at_228) ?_
              show own_S p e below T222 (mkF m 229 (own_AIIIIIIIIRV p0 p1 p2 p3 v6 v14 v21 v27 b120 g213) [(.int (1 : Int32))]) _
              refine XS.goto X222.here hx rfl (pc0 := 229) (pc' := 233) rfl (hb hby at_229) (by decide) (by decide) ?_
              exact k
            refine own_by sg233 ?_
            obtain ⟨fs, hr, hrun, hended, hW⟩ := X222.leaveW hS222 (Nat.le_refl _) (v := some (.int (1 : Int32))) (fun h => by rw [Bd.returns] at h; cases h)
            refine ⟨_, _, ?_, hrun, hended, _, _, rfl, ?_, (by rw [hh]; show CHr Z consts_1 s.vm h0 T222.vm T222.heap; exact CR222.trans (CHv.at X222 hZ222 hEL hC222.1)), hW.1, hW.2.1, hW.2.2.1, hW.2.2.2.mono (by decide) (by decide)⟩
            · exact retN X222 hx (t := .boolean) Bd.returns (by simp) (hb hby at_233) hr
            · show Q0 Z p0 p1 p2 p3 wV cl wNO wBY_NAME wBY_TYPE wCONSTRUCTOR sNO sBY_NAME sBY_TYPE sCONSTRUCTOR gz h0 n0 _ T222.heap _
              exact ⟨rfl, N222⟩
          · have sg128 : ∀ t, own_S p e below T120 (mkF m 128 (own_AIIIIIIIIUU p0 p1 p2 p3 v6 v14 v21 v27) [(.int v6), (.int v21), (.ref b120), (.ref b120)]) t → own_S p e below T120 (mkF m 124 (own_AIIIIIIIIUU p0 p1 p2 p3 v6 v14 v21 v27) [(.ref b120), (.ref b120)]) t := by
              intro t k
              show own_S p e below T120 (mkF m 124 (own_AIIIIIIIIUU p0 p1 p2 p3 v6 v14 v21 v27) [(.ref b120), (.ref b120)]) _
              refine XS.iload X120.here hx rfl (hb hby at_124) rfl ?_
              show own_S p e below T120 (mkF m 126 (own_AIIIIIIIIUU p0 p1 p2 p3 v6 v14 v21 v27) [(.int v21), (.ref b120), (.ref b120)]) _
              refine XS.iload X120.here hx rfl (hb hby at_126) rfl ?_
              exact k
            refine own_by sg128 ?_
            obtain ⟨_, _, ⟨T128, L128, k128, n128⟩, -, X128, ⟨Lc128, hQ128, l128, y128, z128⟩, st128⟩ := Jvm.LawKit.callS X120 hx (y := (⟨"com/example/spojka/spojka/AutowireModeNamedPinLaw", "longer", "(IC)[C"⟩ : MethodName)) hown (mvT hZ (hw _ (List.mem_of_getElem? (i := 85) rfl))) (mvT hZ (hw _ (List.mem_of_getElem? (i := 86) rfl))) (mvT hZ (hw _ (List.mem_of_getElem? (i := 5) rfl))) (mvT hZ (hw _ (List.mem_of_getElem? (i := 87) rfl))) (by decide) (backOf (W := 2) (rm14 l Z a0 hw [] v21 v6 h120 n0 Z120 hk_v6) hZ (hw _ (List.mem_of_getElem? (i := 87) rfl)) (hw _ (List.mem_of_getElem? (i := 5) rfl)) (by decide) (by decide)) (g := (mkF m 128 (own_AIIIIIIIIUU p0 p1 p2 p3 v6 v14 v21 v27) [(.int v6), (.int v21), (.ref b120), (.ref b120)])) rfl (by rw [hml]; rfl) (argsL := [(.int v21), (.int v6)]) (rest := [(.ref b120), (.ref b120)]) (lenOf pd_0_3 rfl) rfl (by show 2 * 0 + _ ≤ _; exact Nat.le_of_eq rfl) (hb hby at_128) (fun _ _ => ⟨rfl, e120, (by decide : 1 + 1 ≤ _), (by decide : 4 + 12 ≤ _)⟩)
            dsimp only [Pt.U, Pt.locs, Pt.cells, Pt.slots] at X128 l128 y128 z128 st128 hQ128
            subst l128 y128 z128
            obtain ⟨r128, kc128, rfl, ge128, N128q, Kq128, Aq128⟩ := hQ128
            have N128 := Fr.app N0 N128q
            have ln128 : (own_longer v21 v6).length = 7 := (by rw [hi1]; rfl)
            rw [ln128] at Aq128
            have An128 : Arv Z T128.heap r128 kc128 .char (7 : Int32) ((own_longer v21 v6).map Value.int) (.int (0 : Int32)) := Aq128
            have hp128 : ∀ c ∈ (own_longer v21 v6), ¬ c < 0 ∧ ¬ (255 : Int32) < c := own_longer_hp _ _ hk_v6
            have ne_b120_r128 : b120 ≠ r128 := Nat.ne_of_lt (Nat.lt_of_lt_of_le A120.lt ge128)
            have g_r128 : n0 ≤ r128 := Nat.le_trans Z120 ge128
            have sz_r128 : h0.size ≤ r128 := Nat.le_trans K120.1 ge128
            have K128 : Keep h0 T128.heap [] := K120.trans Kq128 (fun x hx => nomatch hx)
            have Z128 : n0 ≤ T128.heap.size := Nat.le_trans Z120 Kq128.1
            have CC128 := CHr.keep Kq128 sf0 CC120.1
            have CR128 := CR120.trans CC128
            refine own_by st128 ?_
            obtain ⟨_, _, ⟨T131, L131, k131, n131⟩, -, X131, ⟨Lc131, hQ131, l131, y131, z131⟩, st131⟩ := X128.specialBack hx (y := (⟨"java/lang/String", "<init>", "([C)V"⟩ : MethodName)) rfl hown (mvT hZ (hw _ (List.mem_of_getElem? (i := 8) rfl))) (mvT hZ (hw _ (List.mem_of_getElem? (i := 9) rfl))) (mvT hZ (hw _ (List.mem_of_getElem? (i := 10) rfl))) (by decide) (StrChars.Road.backV (W := 1) hZ hws (kI := 4) (hw _ (List.mem_of_getElem? (i := 1) rfl)) (cs := (own_longer v21 v6)) (bs := (own_longer v21 v6).map (fun c => c.toInt8.toInt32)) (n := 7) g_b120 Z128 (A120.keep Kq128) (F_value_b120.keep Kq128 List.not_mem_nil) (F_coder_b120.keep Kq128 List.not_mem_nil) An128 (O2.ext ((O.ext E120).keep Kq128 all0).2) P5 ln128 rfl (by decide) (by decide) hp128 rfl (by decide) (by decide)) (g := (mkF m 131 (own_AIIIIIIIIUU p0 p1 p2 p3 v6 v14 v21 v27) [(.ref r128), (.ref b120), (.ref b120)])) rfl (by rw [hml]; rfl) (Steps.refl _) (a := b120) (argsL := [(.ref r128)]) (rest := [(.ref b120)]) (lenOf pd_0_1 rfl) rfl (by show 2 * 0 + _ ≤ _; exact Nat.le_of_eq rfl) (hb hby at_131) (fun _ _ => ⟨rfl, rfl, (by decide : 2 + 1 ≤ _), (by decide : 16 + 7 ≤ _)⟩)
            dsimp only [Pt.U, Pt.locs, Pt.cells, Pt.slots] at X131 l131 y131 z131 st131 hQ131
            subst l131 y131 z131
            obtain ⟨rfl, N131q, Kq131, Eq131, Cq131, t131, kb131, u1131, u2131, u3131, Vq131, Aq131⟩ := hQ131
            have N131 := Fr.app N128 N131q
            have Sq131 : own_Str Z T131.heap b120 (own_longer v21 v6) := ⟨t131, kb131, 0, _, _, Eq131, Vq131, Cq131, Aq131, StrChars.Road.codOf (n := 7) ln128 (fun x hx => (hp128 x hx).2), own_up _ hp128, by rw [ln128]; decide⟩
            have fc := (An128.keep Kq131 (fun h => (Ne.symm ne_b120_r128) (List.mem_singleton.mp h)))
            have K131 : Keep h0 T131.heap [] := K128.trans Kq131 (fun x hx => by cases List.mem_singleton.mp hx; exact Or.inr sz_b120)
            have Z131 : n0 ≤ T131.heap.size := Nat.le_trans Z128 Kq131.1
            have CC131 := CHr.keep Kq131 (sfS (own_safe0 hZ.alike (A120.keep Kq128) (F_value_b120.keep Kq128 List.not_mem_nil) (hw _ (List.mem_of_getElem? (i := 1) rfl))) sf0) CC128.1
            have CR131 := CR128.trans CC131
            refine own_by (fun t k => st131.trans k) ?_
            have sg213 : ∀ t, own_S p e below T131 (mkF m 213 (own_AIIIIIIIIRU p0 p1 p2 p3 v6 v14 v21 v27 b120) [(.ref b120)]) t → own_S p e below T131 (mkF m 134 (own_AIIIIIIIIUU p0 p1 p2 p3 v6 v14 v21 v27) [(.ref b120)]) t := by
              intro t k
              show own_S p e below T131 (mkF m 134 (own_AIIIIIIIIUU p0 p1 p2 p3 v6 v14 v21 v27) [(.ref b120)]) _
              refine XS.astore X131.here hx rfl (hb hby at_134) rfl rfl (l' := (own_AIIIIIIIIRU p0 p1 p2 p3 v6 v14 v21 v27 b120)) rfl ?_
              show own_S p e below T131 (mkF m 136 (own_AIIIIIIIIRU p0 p1 p2 p3 v6 v14 v21 v27 b120) []) _
              refine XS.goto X131.here hx rfl (pc0 := 136) (pc' := 211) rfl (hb hby at_136) (by decide) (by decide) ?_
              show own_S p e below T131 (mkF m 211 (own_AIIIIIIIIRU p0 p1 p2 p3 v6 v14 v21 v27 b120) []) _
              refine XS.aload X131.here hx rfl (hb hby at_211) rfl rfl ?_
              exact k
            refine own_by sg213 ?_
            obtain ⟨_, _, ⟨T213, L213, k213, n213⟩, -, X213, ⟨Lc213, hQ213, l213, y213, z213⟩, st213⟩ := Jvm.LawKit.callS X131 hx (y := (⟨"com/example/spojka/spojka/AutowireMode", "named", "(Ljava/lang/String;)Lcom/example/spojka/spojka/AutowireMode;"⟩ : MethodName)) hown (mvT hZ (hw _ (List.mem_of_getElem? (i := 34) rfl))) (mvT hZ (hw _ (List.mem_of_getElem? (i := 35) rfl))) (mvT hZ (hw _ (List.mem_of_getElem? (i := 36) rfl))) (mvT hZ (hw _ (List.mem_of_getElem? (i := 37) rfl))) (by decide) (backOf (W := 0) (rm8 l Z a0 hw [] b120 (own_longer v21 v6) wV cl wNO wBY_NAME wBY_TYPE wCONSTRUCTOR sNO sBY_NAME sBY_TYPE sCONSTRUCTOR gz T131.heap n0 Z131 (((O.ext E120).keep Kq128 all0).keep Kq131 (allS g_b120 all0)) O2 P5 S_V Ar_V E_V FC hsz hat0 hat1 hat2 hat3 FV_NO FV_BY_NAME FV_BY_TYPE FV_CONSTRUCTOR EX_NO EX_BY_NAME EX_BY_TYPE EX_CONSTRUCTOR Str_NO Str_BY_NAME Str_BY_TYPE Str_CONSTRUCTOR Sq131) hZ (hw _ (List.mem_of_getElem? (i := 37) rfl)) (hw _ (List.mem_of_getElem? (i := 36) rfl)) (by decide) (by decide)) (g := (mkF m 213 (own_AIIIIIIIIRU p0 p1 p2 p3 v6 v14 v21 v27 b120) [(.ref b120)])) rfl (by rw [hml]; rfl) (argsL := [(.ref b120)]) (rest := []) (lenOf pd_0_2 rfl) rfl (by show 2 * 0 + _ ≤ _; exact Nat.le_of_eq rfl) (hb hby at_213) (fun _ _ => ⟨rfl, rfl, (by decide : 3 + 1 ≤ _), (by decide : 23 + 4 ≤ _)⟩)
            dsimp only [Pt.U, Pt.locs, Pt.cells, Pt.slots] at X213 l213 y213 z213 st213 hQ213
            subst l213 y213 z213
            obtain ⟨rfl, N213q, Kq213⟩ := hQ213
            have N213 := Fr.app N131 N213q
            have K213 : Keep h0 T213.heap [] := K131.trans Kq213 (fun x hx => nomatch hx)
            have Z213 : n0 ≤ T213.heap.size := Nat.le_trans Z131 Kq213.1
            have CC213 := CHr.keep Kq213 sf0 CC131.1
            have CR213 := CR131.trans CC213
            obtain ⟨g213, hg213⟩ : ∃ z : Value, z = (if ([(110 : Int32), (111 : Int32)] : List Int32) = (own_longer v21 v6) then Value.ref wNO else (if ([(98 : Int32), (121 : Int32), (78 : Int32), (97 : Int32), (109 : Int32), (101 : Int32)] : List Int32) = (own_longer v21 v6) then Value.ref wBY_NAME else (if ([(98 : Int32), (121 : Int32), (84 : Int32), (121 : Int32), (112 : Int32), (101 : Int32)] : List Int32) = (own_longer v21 v6) then Value.ref wBY_TYPE else (if ([(99 : Int32), (111 : Int32), (110 : Int32), (115 : Int32), (116 : Int32), (114 : Int32), (117 : Int32), (99 : Int32), (116 : Int32), (111 : Int32), (114 : Int32)] : List Int32) = (own_longer v21 v6) then Value.ref wCONSTRUCTOR else Value.null)))) := ⟨_, rfl⟩
            rw [← hg213] at st213
            have hgr213 : g213.isRef = true := by rw [hg213]; repeat' (first | rfl | (refine own_isr rfl ?_))
            refine own_by st213 ?_
            have sg222 : ∀ t, own_S p e below T213 (mkF m 222 (own_AIIIIIIIIRV p0 p1 p2 p3 v6 v14 v21 v27 b120 g213) [(.ref b120), g213]) t → own_S p e below T213 (mkF m 216 (own_AIIIIIIIIRU p0 p1 p2 p3 v6 v14 v21 v27 b120) [g213]) t := by
              intro t k
              show own_S p e below T213 (mkF m 216 (own_AIIIIIIIIRU p0 p1 p2 p3 v6 v14 v21 v27 b120) [g213]) _
              refine XS.astore X213.here hx rfl (hb hby at_216) rfl hgr213 (l' := (own_AIIIIIIIIRV p0 p1 p2 p3 v6 v14 v21 v27 b120 g213)) (by simp [storeLocals, storeSelf, setAt, own_cat1 hgr213, own_catr, own_catn]) ?_
              show own_S p e below T213 (mkF m 218 (own_AIIIIIIIIRV p0 p1 p2 p3 v6 v14 v21 v27 b120 g213) []) _
              refine XS.aload X213.here hx rfl (hb hby at_218) rfl hgr213 ?_
              show own_S p e below T213 (mkF m 220 (own_AIIIIIIIIRV p0 p1 p2 p3 v6 v14 v21 v27 b120 g213) [g213]) _
              refine XS.aload X213.here hx rfl (hb hby at_220) rfl rfl ?_
              exact k
            refine own_by sg222 ?_
            obtain ⟨_, _, ⟨T222, L222, k222, n222⟩, -, Xc222, hSc222, hgc222, ⟨Lc222, hQ222, l222, y222, z222, hC222⟩, st222⟩ := callSS X213 hx (y := (⟨"com/example/spojka/spojka/AutowireModeNamedPinLaw", "expected", "(Ljava/lang/String;)Lcom/example/spojka/spojka/AutowireMode;"⟩ : MethodName)) hown (mvT hZ (hw _ (List.mem_of_getElem? (i := 69) rfl))) (mvT hZ (hw _ (List.mem_of_getElem? (i := 70) rfl))) (mvT hZ (hw _ (List.mem_of_getElem? (i := 5) rfl))) (mvT hZ (hw _ (List.mem_of_getElem? (i := 71) rfl))) (by decide) (backOfSH (W := 1) (rm12 l Z a0 hw [] b120 (own_longer v21 v6) wNO wBY_NAME wBY_TYPE wCONSTRUCTOR gz T213.heap n0 Z213 ((((O.ext E120).keep Kq128 all0).keep Kq131 (allS g_b120 all0)).keep Kq213 all0) O2 P5 (Sq131.ext (own_kx Kq213)) S_NO S_BY_NAME S_BY_TYPE S_CONSTRUCTOR) hZ (hw _ (List.mem_of_getElem? (i := 71) rfl)) (hw _ (List.mem_of_getElem? (i := 5) rfl)) (by decide) (by decide) hEL CC213.1) (g := (mkF m 222 (own_AIIIIIIIIRV p0 p1 p2 p3 v6 v14 v21 v27 b120 g213) [(.ref b120), g213])) rfl (by rw [hml]; rfl) (argsL := [(.ref b120)]) (rest := [g213]) (lenOf pd_0_2 rfl) rfl (by show 2 * 0 + (List.map (fun v => Value.category v) [g213]).sum ≤ 1; simp [own_cat1 hgr213, own_catr, own_catn]) (hb hby at_222) (fun _ _ => ⟨rfl, rfl, (by decide : 4 + 8 ≤ _), (by decide : 27 + 116 ≤ _)⟩)
            dsimp only [Pt.U, Pt.locs, Pt.cells, Pt.slots] at Xc222 hSc222 hgc222
            obtain ⟨X222, hS222, hZ222, hown222⟩ := rebS hS0 (Nat.le_trans (Nat.le_trans (Nat.le_trans (Nat.le_trans (Nat.zero_le _) E120.1) Kq128.1) Kq131.1) Kq213.1) Xc222 hSc222 hgc222 hZ hown
            dsimp only [Pt.U, Pt.locs, Pt.cells, Pt.slots] at X222 l222 y222 z222 st222 hQ222
            subst l222 y222 z222
            obtain ⟨rfl, N222q, Kq222⟩ := hQ222
            have N222 := Fr.app N213 N222q
            have fc_2 := ((fc.keep Kq213 List.not_mem_nil).keep Kq222 List.not_mem_nil)
            have K222 : Keep h0 T222.heap [] := K213.trans Kq222 (fun x hx => nomatch hx)
            have Z222 : n0 ≤ T222.heap.size := Nat.le_trans Z213 Kq222.1
            rw [← hg213] at st222
            have CR222 := CR213.trans hC222
            refine own_by (fun t k => st222.trans k) ?_
            have sg233 : ∀ t, own_S p e below T222 (mkF m 233 (own_AIIIIIIIIRV p0 p1 p2 p3 v6 v14 v21 v27 b120 g213) [(.int (1 : Int32))]) t → own_S p e below T222 (mkF m 225 (own_AIIIIIIIIRV p0 p1 p2 p3 v6 v14 v21 v27 b120 g213) [g213, g213]) t := by
              intro t k
              show own_S p e below T222 (mkF m 225 (own_AIIIIIIIIRV p0 p1 p2 p3 v6 v14 v21 v27 b120 g213) [g213, g213]) _
              refine Jvm.RoadKit.acmp (g := (mkF m 225 (own_AIIIIIIIIRV p0 p1 p2 p3 v6 v14 v21 v27 b120 g213) [g213, g213])) X222 hx rfl hgr213 hgr213 (pc0 := 225) (pc' := 228) (same := true) rfl (hb hby at_225) rfl (decide_eq_true (rfl : (g213 : Value) = g213)) (by decide) (by decide) ?_
              show own_S p e below T222 (mkF m 228 (own_AIIIIIIIIRV p0 p1 p2 p3 v6 v14 v21 v27 b120 g213) []) _
              refine XS.iconst X222.here hx rfl (hb hby at_228) ?_
              show own_S p e below T222 (mkF m 229 (own_AIIIIIIIIRV p0 p1 p2 p3 v6 v14 v21 v27 b120 g213) [(.int (1 : Int32))]) _
              refine XS.goto X222.here hx rfl (pc0 := 229) (pc' := 233) rfl (hb hby at_229) (by decide) (by decide) ?_
              exact k
            refine own_by sg233 ?_
            obtain ⟨fs, hr, hrun, hended, hW⟩ := X222.leaveW hS222 (Nat.le_refl _) (v := some (.int (1 : Int32))) (fun h => by rw [Bd.returns] at h; cases h)
            refine ⟨_, _, ?_, hrun, hended, _, _, rfl, ?_, (by rw [hh]; show CHr Z consts_1 s.vm h0 T222.vm T222.heap; exact CR222.trans (CHv.at X222 hZ222 hEL hC222.1)), hW.1, hW.2.1, hW.2.2.1, hW.2.2.2.mono (by decide) (by decide)⟩
            · exact retN X222 hx (t := .boolean) Bd.returns (by simp) (hb hby at_233) hr
            · show Q0 Z p0 p1 p2 p3 wV cl wNO wBY_NAME wBY_TYPE wCONSTRUCTOR sNO sBY_NAME sBY_TYPE sCONSTRUCTOR gz h0 n0 _ T222.heap _
              exact ⟨rfl, N222⟩
          · have sg128 : ∀ t, own_S p e below T120 (mkF m 128 (own_AIIIIIIIIUU p0 p1 p2 p3 v6 v14 v21 v27) [(.int v6), (.int v21), (.ref b120), (.ref b120)]) t → own_S p e below T120 (mkF m 124 (own_AIIIIIIIIUU p0 p1 p2 p3 v6 v14 v21 v27) [(.ref b120), (.ref b120)]) t := by
              intro t k
              show own_S p e below T120 (mkF m 124 (own_AIIIIIIIIUU p0 p1 p2 p3 v6 v14 v21 v27) [(.ref b120), (.ref b120)]) _
              refine XS.iload X120.here hx rfl (hb hby at_124) rfl ?_
              show own_S p e below T120 (mkF m 126 (own_AIIIIIIIIUU p0 p1 p2 p3 v6 v14 v21 v27) [(.int v21), (.ref b120), (.ref b120)]) _
              refine XS.iload X120.here hx rfl (hb hby at_126) rfl ?_
              exact k
            refine own_by sg128 ?_
            obtain ⟨_, _, ⟨T128, L128, k128, n128⟩, -, X128, ⟨Lc128, hQ128, l128, y128, z128⟩, st128⟩ := Jvm.LawKit.callS X120 hx (y := (⟨"com/example/spojka/spojka/AutowireModeNamedPinLaw", "longer", "(IC)[C"⟩ : MethodName)) hown (mvT hZ (hw _ (List.mem_of_getElem? (i := 85) rfl))) (mvT hZ (hw _ (List.mem_of_getElem? (i := 86) rfl))) (mvT hZ (hw _ (List.mem_of_getElem? (i := 5) rfl))) (mvT hZ (hw _ (List.mem_of_getElem? (i := 87) rfl))) (by decide) (backOf (W := 2) (rm14 l Z a0 hw [] v21 v6 h120 n0 Z120 hk_v6) hZ (hw _ (List.mem_of_getElem? (i := 87) rfl)) (hw _ (List.mem_of_getElem? (i := 5) rfl)) (by decide) (by decide)) (g := (mkF m 128 (own_AIIIIIIIIUU p0 p1 p2 p3 v6 v14 v21 v27) [(.int v6), (.int v21), (.ref b120), (.ref b120)])) rfl (by rw [hml]; rfl) (argsL := [(.int v21), (.int v6)]) (rest := [(.ref b120), (.ref b120)]) (lenOf pd_0_3 rfl) rfl (by show 2 * 0 + _ ≤ _; exact Nat.le_of_eq rfl) (hb hby at_128) (fun _ _ => ⟨rfl, e120, (by decide : 1 + 1 ≤ _), (by decide : 4 + 12 ≤ _)⟩)
            dsimp only [Pt.U, Pt.locs, Pt.cells, Pt.slots] at X128 l128 y128 z128 st128 hQ128
            subst l128 y128 z128
            obtain ⟨r128, kc128, rfl, ge128, N128q, Kq128, Aq128⟩ := hQ128
            have N128 := Fr.app N0 N128q
            have ln128 : (own_longer v21 v6).length = 7 := (by rw [hi2]; rfl)
            rw [ln128] at Aq128
            have An128 : Arv Z T128.heap r128 kc128 .char (7 : Int32) ((own_longer v21 v6).map Value.int) (.int (0 : Int32)) := Aq128
            have hp128 : ∀ c ∈ (own_longer v21 v6), ¬ c < 0 ∧ ¬ (255 : Int32) < c := own_longer_hp _ _ hk_v6
            have ne_b120_r128 : b120 ≠ r128 := Nat.ne_of_lt (Nat.lt_of_lt_of_le A120.lt ge128)
            have g_r128 : n0 ≤ r128 := Nat.le_trans Z120 ge128
            have sz_r128 : h0.size ≤ r128 := Nat.le_trans K120.1 ge128
            have K128 : Keep h0 T128.heap [] := K120.trans Kq128 (fun x hx => nomatch hx)
            have Z128 : n0 ≤ T128.heap.size := Nat.le_trans Z120 Kq128.1
            have CC128 := CHr.keep Kq128 sf0 CC120.1
            have CR128 := CR120.trans CC128
            refine own_by st128 ?_
            obtain ⟨_, _, ⟨T131, L131, k131, n131⟩, -, X131, ⟨Lc131, hQ131, l131, y131, z131⟩, st131⟩ := X128.specialBack hx (y := (⟨"java/lang/String", "<init>", "([C)V"⟩ : MethodName)) rfl hown (mvT hZ (hw _ (List.mem_of_getElem? (i := 8) rfl))) (mvT hZ (hw _ (List.mem_of_getElem? (i := 9) rfl))) (mvT hZ (hw _ (List.mem_of_getElem? (i := 10) rfl))) (by decide) (StrChars.Road.backV (W := 1) hZ hws (kI := 4) (hw _ (List.mem_of_getElem? (i := 1) rfl)) (cs := (own_longer v21 v6)) (bs := (own_longer v21 v6).map (fun c => c.toInt8.toInt32)) (n := 7) g_b120 Z128 (A120.keep Kq128) (F_value_b120.keep Kq128 List.not_mem_nil) (F_coder_b120.keep Kq128 List.not_mem_nil) An128 (O2.ext ((O.ext E120).keep Kq128 all0).2) P5 ln128 rfl (by decide) (by decide) hp128 rfl (by decide) (by decide)) (g := (mkF m 131 (own_AIIIIIIIIUU p0 p1 p2 p3 v6 v14 v21 v27) [(.ref r128), (.ref b120), (.ref b120)])) rfl (by rw [hml]; rfl) (Steps.refl _) (a := b120) (argsL := [(.ref r128)]) (rest := [(.ref b120)]) (lenOf pd_0_1 rfl) rfl (by show 2 * 0 + _ ≤ _; exact Nat.le_of_eq rfl) (hb hby at_131) (fun _ _ => ⟨rfl, rfl, (by decide : 2 + 1 ≤ _), (by decide : 16 + 7 ≤ _)⟩)
            dsimp only [Pt.U, Pt.locs, Pt.cells, Pt.slots] at X131 l131 y131 z131 st131 hQ131
            subst l131 y131 z131
            obtain ⟨rfl, N131q, Kq131, Eq131, Cq131, t131, kb131, u1131, u2131, u3131, Vq131, Aq131⟩ := hQ131
            have N131 := Fr.app N128 N131q
            have Sq131 : own_Str Z T131.heap b120 (own_longer v21 v6) := ⟨t131, kb131, 0, _, _, Eq131, Vq131, Cq131, Aq131, StrChars.Road.codOf (n := 7) ln128 (fun x hx => (hp128 x hx).2), own_up _ hp128, by rw [ln128]; decide⟩
            have fc := (An128.keep Kq131 (fun h => (Ne.symm ne_b120_r128) (List.mem_singleton.mp h)))
            have K131 : Keep h0 T131.heap [] := K128.trans Kq131 (fun x hx => by cases List.mem_singleton.mp hx; exact Or.inr sz_b120)
            have Z131 : n0 ≤ T131.heap.size := Nat.le_trans Z128 Kq131.1
            have CC131 := CHr.keep Kq131 (sfS (own_safe0 hZ.alike (A120.keep Kq128) (F_value_b120.keep Kq128 List.not_mem_nil) (hw _ (List.mem_of_getElem? (i := 1) rfl))) sf0) CC128.1
            have CR131 := CR128.trans CC131
            refine own_by (fun t k => st131.trans k) ?_
            have sg213 : ∀ t, own_S p e below T131 (mkF m 213 (own_AIIIIIIIIRU p0 p1 p2 p3 v6 v14 v21 v27 b120) [(.ref b120)]) t → own_S p e below T131 (mkF m 134 (own_AIIIIIIIIUU p0 p1 p2 p3 v6 v14 v21 v27) [(.ref b120)]) t := by
              intro t k
              show own_S p e below T131 (mkF m 134 (own_AIIIIIIIIUU p0 p1 p2 p3 v6 v14 v21 v27) [(.ref b120)]) _
              refine XS.astore X131.here hx rfl (hb hby at_134) rfl rfl (l' := (own_AIIIIIIIIRU p0 p1 p2 p3 v6 v14 v21 v27 b120)) rfl ?_
              show own_S p e below T131 (mkF m 136 (own_AIIIIIIIIRU p0 p1 p2 p3 v6 v14 v21 v27 b120) []) _
              refine XS.goto X131.here hx rfl (pc0 := 136) (pc' := 211) rfl (hb hby at_136) (by decide) (by decide) ?_
              show own_S p e below T131 (mkF m 211 (own_AIIIIIIIIRU p0 p1 p2 p3 v6 v14 v21 v27 b120) []) _
              refine XS.aload X131.here hx rfl (hb hby at_211) rfl rfl ?_
              exact k
            refine own_by sg213 ?_
            obtain ⟨_, _, ⟨T213, L213, k213, n213⟩, -, X213, ⟨Lc213, hQ213, l213, y213, z213⟩, st213⟩ := Jvm.LawKit.callS X131 hx (y := (⟨"com/example/spojka/spojka/AutowireMode", "named", "(Ljava/lang/String;)Lcom/example/spojka/spojka/AutowireMode;"⟩ : MethodName)) hown (mvT hZ (hw _ (List.mem_of_getElem? (i := 34) rfl))) (mvT hZ (hw _ (List.mem_of_getElem? (i := 35) rfl))) (mvT hZ (hw _ (List.mem_of_getElem? (i := 36) rfl))) (mvT hZ (hw _ (List.mem_of_getElem? (i := 37) rfl))) (by decide) (backOf (W := 0) (rm8 l Z a0 hw [] b120 (own_longer v21 v6) wV cl wNO wBY_NAME wBY_TYPE wCONSTRUCTOR sNO sBY_NAME sBY_TYPE sCONSTRUCTOR gz T131.heap n0 Z131 (((O.ext E120).keep Kq128 all0).keep Kq131 (allS g_b120 all0)) O2 P5 S_V Ar_V E_V FC hsz hat0 hat1 hat2 hat3 FV_NO FV_BY_NAME FV_BY_TYPE FV_CONSTRUCTOR EX_NO EX_BY_NAME EX_BY_TYPE EX_CONSTRUCTOR Str_NO Str_BY_NAME Str_BY_TYPE Str_CONSTRUCTOR Sq131) hZ (hw _ (List.mem_of_getElem? (i := 37) rfl)) (hw _ (List.mem_of_getElem? (i := 36) rfl)) (by decide) (by decide)) (g := (mkF m 213 (own_AIIIIIIIIRU p0 p1 p2 p3 v6 v14 v21 v27 b120) [(.ref b120)])) rfl (by rw [hml]; rfl) (argsL := [(.ref b120)]) (rest := []) (lenOf pd_0_2 rfl) rfl (by show 2 * 0 + _ ≤ _; exact Nat.le_of_eq rfl) (hb hby at_213) (fun _ _ => ⟨rfl, rfl, (by decide : 3 + 1 ≤ _), (by decide : 23 + 4 ≤ _)⟩)
            dsimp only [Pt.U, Pt.locs, Pt.cells, Pt.slots] at X213 l213 y213 z213 st213 hQ213
            subst l213 y213 z213
            obtain ⟨rfl, N213q, Kq213⟩ := hQ213
            have N213 := Fr.app N131 N213q
            have K213 : Keep h0 T213.heap [] := K131.trans Kq213 (fun x hx => nomatch hx)
            have Z213 : n0 ≤ T213.heap.size := Nat.le_trans Z131 Kq213.1
            have CC213 := CHr.keep Kq213 sf0 CC131.1
            have CR213 := CR131.trans CC213
            obtain ⟨g213, hg213⟩ : ∃ z : Value, z = (if ([(110 : Int32), (111 : Int32)] : List Int32) = (own_longer v21 v6) then Value.ref wNO else (if ([(98 : Int32), (121 : Int32), (78 : Int32), (97 : Int32), (109 : Int32), (101 : Int32)] : List Int32) = (own_longer v21 v6) then Value.ref wBY_NAME else (if ([(98 : Int32), (121 : Int32), (84 : Int32), (121 : Int32), (112 : Int32), (101 : Int32)] : List Int32) = (own_longer v21 v6) then Value.ref wBY_TYPE else (if ([(99 : Int32), (111 : Int32), (110 : Int32), (115 : Int32), (116 : Int32), (114 : Int32), (117 : Int32), (99 : Int32), (116 : Int32), (111 : Int32), (114 : Int32)] : List Int32) = (own_longer v21 v6) then Value.ref wCONSTRUCTOR else Value.null)))) := ⟨_, rfl⟩
            rw [← hg213] at st213
            have hgr213 : g213.isRef = true := by rw [hg213]; repeat' (first | rfl | (refine own_isr rfl ?_))
            refine own_by st213 ?_
            have sg222 : ∀ t, own_S p e below T213 (mkF m 222 (own_AIIIIIIIIRV p0 p1 p2 p3 v6 v14 v21 v27 b120 g213) [(.ref b120), g213]) t → own_S p e below T213 (mkF m 216 (own_AIIIIIIIIRU p0 p1 p2 p3 v6 v14 v21 v27 b120) [g213]) t := by
              intro t k
              show own_S p e below T213 (mkF m 216 (own_AIIIIIIIIRU p0 p1 p2 p3 v6 v14 v21 v27 b120) [g213]) _
              refine XS.astore X213.here hx rfl (hb hby at_216) rfl hgr213 (l' := (own_AIIIIIIIIRV p0 p1 p2 p3 v6 v14 v21 v27 b120 g213)) (by simp [storeLocals, storeSelf, setAt, own_cat1 hgr213, own_catr, own_catn]) ?_
              show own_S p e below T213 (mkF m 218 (own_AIIIIIIIIRV p0 p1 p2 p3 v6 v14 v21 v27 b120 g213) []) _
              refine XS.aload X213.here hx rfl (hb hby at_218) rfl hgr213 ?_
              show own_S p e below T213 (mkF m 220 (own_AIIIIIIIIRV p0 p1 p2 p3 v6 v14 v21 v27 b120 g213) [g213]) _
              refine XS.aload X213.here hx rfl (hb hby at_220) rfl rfl ?_
              exact k
            refine own_by sg222 ?_
            obtain ⟨_, _, ⟨T222, L222, k222, n222⟩, -, Xc222, hSc222, hgc222, ⟨Lc222, hQ222, l222, y222, z222, hC222⟩, st222⟩ := callSS X213 hx (y := (⟨"com/example/spojka/spojka/AutowireModeNamedPinLaw", "expected", "(Ljava/lang/String;)Lcom/example/spojka/spojka/AutowireMode;"⟩ : MethodName)) hown (mvT hZ (hw _ (List.mem_of_getElem? (i := 69) rfl))) (mvT hZ (hw _ (List.mem_of_getElem? (i := 70) rfl))) (mvT hZ (hw _ (List.mem_of_getElem? (i := 5) rfl))) (mvT hZ (hw _ (List.mem_of_getElem? (i := 71) rfl))) (by decide) (backOfSH (W := 1) (rm12 l Z a0 hw [] b120 (own_longer v21 v6) wNO wBY_NAME wBY_TYPE wCONSTRUCTOR gz T213.heap n0 Z213 ((((O.ext E120).keep Kq128 all0).keep Kq131 (allS g_b120 all0)).keep Kq213 all0) O2 P5 (Sq131.ext (own_kx Kq213)) S_NO S_BY_NAME S_BY_TYPE S_CONSTRUCTOR) hZ (hw _ (List.mem_of_getElem? (i := 71) rfl)) (hw _ (List.mem_of_getElem? (i := 5) rfl)) (by decide) (by decide) hEL CC213.1) (g := (mkF m 222 (own_AIIIIIIIIRV p0 p1 p2 p3 v6 v14 v21 v27 b120 g213) [(.ref b120), g213])) rfl (by rw [hml]; rfl) (argsL := [(.ref b120)]) (rest := [g213]) (lenOf pd_0_2 rfl) rfl (by show 2 * 0 + (List.map (fun v => Value.category v) [g213]).sum ≤ 1; simp [own_cat1 hgr213, own_catr, own_catn]) (hb hby at_222) (fun _ _ => ⟨rfl, rfl, (by decide : 4 + 8 ≤ _), (by decide : 27 + 116 ≤ _)⟩)
            dsimp only [Pt.U, Pt.locs, Pt.cells, Pt.slots] at Xc222 hSc222 hgc222
            obtain ⟨X222, hS222, hZ222, hown222⟩ := rebS hS0 (Nat.le_trans (Nat.le_trans (Nat.le_trans (Nat.le_trans (Nat.zero_le _) E120.1) Kq128.1) Kq131.1) Kq213.1) Xc222 hSc222 hgc222 hZ hown
            dsimp only [Pt.U, Pt.locs, Pt.cells, Pt.slots] at X222 l222 y222 z222 st222 hQ222
            subst l222 y222 z222
            obtain ⟨rfl, N222q, Kq222⟩ := hQ222
            have N222 := Fr.app N213 N222q
            have fc_2 := ((fc.keep Kq213 List.not_mem_nil).keep Kq222 List.not_mem_nil)
            have K222 : Keep h0 T222.heap [] := K213.trans Kq222 (fun x hx => nomatch hx)
            have Z222 : n0 ≤ T222.heap.size := Nat.le_trans Z213 Kq222.1
            rw [← hg213] at st222
            have CR222 := CR213.trans hC222
            refine own_by (fun t k => st222.trans k) ?_
            have sg233 : ∀ t, own_S p e below T222 (mkF m 233 (own_AIIIIIIIIRV p0 p1 p2 p3 v6 v14 v21 v27 b120 g213) [(.int (1 : Int32))]) t → own_S p e below T222 (mkF m 225 (own_AIIIIIIIIRV p0 p1 p2 p3 v6 v14 v21 v27 b120 g213) [g213, g213]) t := by
              intro t k
              show own_S p e below T222 (mkF m 225 (own_AIIIIIIIIRV p0 p1 p2 p3 v6 v14 v21 v27 b120 g213) [g213, g213]) _
              refine Jvm.RoadKit.acmp (g := (mkF m 225 (own_AIIIIIIIIRV p0 p1 p2 p3 v6 v14 v21 v27 b120 g213) [g213, g213])) X222 hx rfl hgr213 hgr213 (pc0 := 225) (pc' := 228) (same := true) rfl (hb hby at_225) rfl (decide_eq_true (rfl : (g213 : Value) = g213)) (by decide) (by decide) ?_
              show own_S p e below T222 (mkF m 228 (own_AIIIIIIIIRV p0 p1 p2 p3 v6 v14 v21 v27 b120 g213) []) _
              refine XS.iconst X222.here hx rfl (hb hby at_228) ?_
              show own_S p e below T222 (mkF m 229 (own_AIIIIIIIIRV p0 p1 p2 p3 v6 v14 v21 v27 b120 g213) [(.int (1 : Int32))]) _
              refine XS.goto X222.here hx rfl (pc0 := 229) (pc' := 233) rfl (hb hby at_229) (by decide) (by decide) ?_
              exact k
            refine own_by sg233 ?_
            obtain ⟨fs, hr, hrun, hended, hW⟩ := X222.leaveW hS222 (Nat.le_refl _) (v := some (.int (1 : Int32))) (fun h => by rw [Bd.returns] at h; cases h)
            refine ⟨_, _, ?_, hrun, hended, _, _, rfl, ?_, (by rw [hh]; show CHr Z consts_1 s.vm h0 T222.vm T222.heap; exact CR222.trans (CHv.at X222 hZ222 hEL hC222.1)), hW.1, hW.2.1, hW.2.2.1, hW.2.2.2.mono (by decide) (by decide)⟩
            · exact retN X222 hx (t := .boolean) Bd.returns (by simp) (hb hby at_233) hr
            · show Q0 Z p0 p1 p2 p3 wV cl wNO wBY_NAME wBY_TYPE wCONSTRUCTOR sNO sBY_NAME sBY_TYPE sCONSTRUCTOR gz h0 n0 _ T222.heap _
              exact ⟨rfl, N222⟩
          · have sg128 : ∀ t, own_S p e below T120 (mkF m 128 (own_AIIIIIIIIUU p0 p1 p2 p3 v6 v14 v21 v27) [(.int v6), (.int v21), (.ref b120), (.ref b120)]) t → own_S p e below T120 (mkF m 124 (own_AIIIIIIIIUU p0 p1 p2 p3 v6 v14 v21 v27) [(.ref b120), (.ref b120)]) t := by
              intro t k
              show own_S p e below T120 (mkF m 124 (own_AIIIIIIIIUU p0 p1 p2 p3 v6 v14 v21 v27) [(.ref b120), (.ref b120)]) _
              refine XS.iload X120.here hx rfl (hb hby at_124) rfl ?_
              show own_S p e below T120 (mkF m 126 (own_AIIIIIIIIUU p0 p1 p2 p3 v6 v14 v21 v27) [(.int v21), (.ref b120), (.ref b120)]) _
              refine XS.iload X120.here hx rfl (hb hby at_126) rfl ?_
              exact k
            refine own_by sg128 ?_
            obtain ⟨_, _, ⟨T128, L128, k128, n128⟩, -, X128, ⟨Lc128, hQ128, l128, y128, z128⟩, st128⟩ := Jvm.LawKit.callS X120 hx (y := (⟨"com/example/spojka/spojka/AutowireModeNamedPinLaw", "longer", "(IC)[C"⟩ : MethodName)) hown (mvT hZ (hw _ (List.mem_of_getElem? (i := 85) rfl))) (mvT hZ (hw _ (List.mem_of_getElem? (i := 86) rfl))) (mvT hZ (hw _ (List.mem_of_getElem? (i := 5) rfl))) (mvT hZ (hw _ (List.mem_of_getElem? (i := 87) rfl))) (by decide) (backOf (W := 2) (rm14 l Z a0 hw [] v21 v6 h120 n0 Z120 hk_v6) hZ (hw _ (List.mem_of_getElem? (i := 87) rfl)) (hw _ (List.mem_of_getElem? (i := 5) rfl)) (by decide) (by decide)) (g := (mkF m 128 (own_AIIIIIIIIUU p0 p1 p2 p3 v6 v14 v21 v27) [(.int v6), (.int v21), (.ref b120), (.ref b120)])) rfl (by rw [hml]; rfl) (argsL := [(.int v21), (.int v6)]) (rest := [(.ref b120), (.ref b120)]) (lenOf pd_0_3 rfl) rfl (by show 2 * 0 + _ ≤ _; exact Nat.le_of_eq rfl) (hb hby at_128) (fun _ _ => ⟨rfl, e120, (by decide : 1 + 1 ≤ _), (by decide : 4 + 12 ≤ _)⟩)
            dsimp only [Pt.U, Pt.locs, Pt.cells, Pt.slots] at X128 l128 y128 z128 st128 hQ128
            subst l128 y128 z128
            obtain ⟨r128, kc128, rfl, ge128, N128q, Kq128, Aq128⟩ := hQ128
            have N128 := Fr.app N0 N128q
            have ln128 : (own_longer v21 v6).length = 12 := (by rw [hi3]; rfl)
            rw [ln128] at Aq128
            have An128 : Arv Z T128.heap r128 kc128 .char (12 : Int32) ((own_longer v21 v6).map Value.int) (.int (0 : Int32)) := Aq128
            have hp128 : ∀ c ∈ (own_longer v21 v6), ¬ c < 0 ∧ ¬ (255 : Int32) < c := own_longer_hp _ _ hk_v6
            have ne_b120_r128 : b120 ≠ r128 := Nat.ne_of_lt (Nat.lt_of_lt_of_le A120.lt ge128)
            have g_r128 : n0 ≤ r128 := Nat.le_trans Z120 ge128
            have sz_r128 : h0.size ≤ r128 := Nat.le_trans K120.1 ge128
            have K128 : Keep h0 T128.heap [] := K120.trans Kq128 (fun x hx => nomatch hx)
            have Z128 : n0 ≤ T128.heap.size := Nat.le_trans Z120 Kq128.1
            have CC128 := CHr.keep Kq128 sf0 CC120.1
            have CR128 := CR120.trans CC128
            refine own_by st128 ?_
            obtain ⟨_, _, ⟨T131, L131, k131, n131⟩, -, X131, ⟨Lc131, hQ131, l131, y131, z131⟩, st131⟩ := X128.specialBack hx (y := (⟨"java/lang/String", "<init>", "([C)V"⟩ : MethodName)) rfl hown (mvT hZ (hw _ (List.mem_of_getElem? (i := 8) rfl))) (mvT hZ (hw _ (List.mem_of_getElem? (i := 9) rfl))) (mvT hZ (hw _ (List.mem_of_getElem? (i := 10) rfl))) (by decide) (StrChars.Road.backV (W := 1) hZ hws (kI := 4) (hw _ (List.mem_of_getElem? (i := 1) rfl)) (cs := (own_longer v21 v6)) (bs := (own_longer v21 v6).map (fun c => c.toInt8.toInt32)) (n := 12) g_b120 Z128 (A120.keep Kq128) (F_value_b120.keep Kq128 List.not_mem_nil) (F_coder_b120.keep Kq128 List.not_mem_nil) An128 (O2.ext ((O.ext E120).keep Kq128 all0).2) P5 ln128 rfl (by decide) (by decide) hp128 rfl (by decide) (by decide)) (g := (mkF m 131 (own_AIIIIIIIIUU p0 p1 p2 p3 v6 v14 v21 v27) [(.ref r128), (.ref b120), (.ref b120)])) rfl (by rw [hml]; rfl) (Steps.refl _) (a := b120) (argsL := [(.ref r128)]) (rest := [(.ref b120)]) (lenOf pd_0_1 rfl) rfl (by show 2 * 0 + _ ≤ _; exact Nat.le_of_eq rfl) (hb hby at_131) (fun _ _ => ⟨rfl, rfl, (by decide : 2 + 1 ≤ _), (by decide : 16 + 12 ≤ _)⟩)
            dsimp only [Pt.U, Pt.locs, Pt.cells, Pt.slots] at X131 l131 y131 z131 st131 hQ131
            subst l131 y131 z131
            obtain ⟨rfl, N131q, Kq131, Eq131, Cq131, t131, kb131, u1131, u2131, u3131, Vq131, Aq131⟩ := hQ131
            have N131 := Fr.app N128 N131q
            have Sq131 : own_Str Z T131.heap b120 (own_longer v21 v6) := ⟨t131, kb131, 0, _, _, Eq131, Vq131, Cq131, Aq131, StrChars.Road.codOf (n := 12) ln128 (fun x hx => (hp128 x hx).2), own_up _ hp128, by rw [ln128]; decide⟩
            have fc := (An128.keep Kq131 (fun h => (Ne.symm ne_b120_r128) (List.mem_singleton.mp h)))
            have K131 : Keep h0 T131.heap [] := K128.trans Kq131 (fun x hx => by cases List.mem_singleton.mp hx; exact Or.inr sz_b120)
            have Z131 : n0 ≤ T131.heap.size := Nat.le_trans Z128 Kq131.1
            have CC131 := CHr.keep Kq131 (sfS (own_safe0 hZ.alike (A120.keep Kq128) (F_value_b120.keep Kq128 List.not_mem_nil) (hw _ (List.mem_of_getElem? (i := 1) rfl))) sf0) CC128.1
            have CR131 := CR128.trans CC131
            refine own_by (fun t k => st131.trans k) ?_
            have sg213 : ∀ t, own_S p e below T131 (mkF m 213 (own_AIIIIIIIIRU p0 p1 p2 p3 v6 v14 v21 v27 b120) [(.ref b120)]) t → own_S p e below T131 (mkF m 134 (own_AIIIIIIIIUU p0 p1 p2 p3 v6 v14 v21 v27) [(.ref b120)]) t := by
              intro t k
              show own_S p e below T131 (mkF m 134 (own_AIIIIIIIIUU p0 p1 p2 p3 v6 v14 v21 v27) [(.ref b120)]) _
              refine XS.astore X131.here hx rfl (hb hby at_134) rfl rfl (l' := (own_AIIIIIIIIRU p0 p1 p2 p3 v6 v14 v21 v27 b120)) rfl ?_
              show own_S p e below T131 (mkF m 136 (own_AIIIIIIIIRU p0 p1 p2 p3 v6 v14 v21 v27 b120) []) _
              refine XS.goto X131.here hx rfl (pc0 := 136) (pc' := 211) rfl (hb hby at_136) (by decide) (by decide) ?_
              show own_S p e below T131 (mkF m 211 (own_AIIIIIIIIRU p0 p1 p2 p3 v6 v14 v21 v27 b120) []) _
              refine XS.aload X131.here hx rfl (hb hby at_211) rfl rfl ?_
              exact k
            refine own_by sg213 ?_
            obtain ⟨_, _, ⟨T213, L213, k213, n213⟩, -, X213, ⟨Lc213, hQ213, l213, y213, z213⟩, st213⟩ := Jvm.LawKit.callS X131 hx (y := (⟨"com/example/spojka/spojka/AutowireMode", "named", "(Ljava/lang/String;)Lcom/example/spojka/spojka/AutowireMode;"⟩ : MethodName)) hown (mvT hZ (hw _ (List.mem_of_getElem? (i := 34) rfl))) (mvT hZ (hw _ (List.mem_of_getElem? (i := 35) rfl))) (mvT hZ (hw _ (List.mem_of_getElem? (i := 36) rfl))) (mvT hZ (hw _ (List.mem_of_getElem? (i := 37) rfl))) (by decide) (backOf (W := 0) (rm8 l Z a0 hw [] b120 (own_longer v21 v6) wV cl wNO wBY_NAME wBY_TYPE wCONSTRUCTOR sNO sBY_NAME sBY_TYPE sCONSTRUCTOR gz T131.heap n0 Z131 (((O.ext E120).keep Kq128 all0).keep Kq131 (allS g_b120 all0)) O2 P5 S_V Ar_V E_V FC hsz hat0 hat1 hat2 hat3 FV_NO FV_BY_NAME FV_BY_TYPE FV_CONSTRUCTOR EX_NO EX_BY_NAME EX_BY_TYPE EX_CONSTRUCTOR Str_NO Str_BY_NAME Str_BY_TYPE Str_CONSTRUCTOR Sq131) hZ (hw _ (List.mem_of_getElem? (i := 37) rfl)) (hw _ (List.mem_of_getElem? (i := 36) rfl)) (by decide) (by decide)) (g := (mkF m 213 (own_AIIIIIIIIRU p0 p1 p2 p3 v6 v14 v21 v27 b120) [(.ref b120)])) rfl (by rw [hml]; rfl) (argsL := [(.ref b120)]) (rest := []) (lenOf pd_0_2 rfl) rfl (by show 2 * 0 + _ ≤ _; exact Nat.le_of_eq rfl) (hb hby at_213) (fun _ _ => ⟨rfl, rfl, (by decide : 3 + 1 ≤ _), (by decide : 28 + 4 ≤ _)⟩)
            dsimp only [Pt.U, Pt.locs, Pt.cells, Pt.slots] at X213 l213 y213 z213 st213 hQ213
            subst l213 y213 z213
            obtain ⟨rfl, N213q, Kq213⟩ := hQ213
            have N213 := Fr.app N131 N213q
            have K213 : Keep h0 T213.heap [] := K131.trans Kq213 (fun x hx => nomatch hx)
            have Z213 : n0 ≤ T213.heap.size := Nat.le_trans Z131 Kq213.1
            have CC213 := CHr.keep Kq213 sf0 CC131.1
            have CR213 := CR131.trans CC213
            obtain ⟨g213, hg213⟩ : ∃ z : Value, z = (if ([(110 : Int32), (111 : Int32)] : List Int32) = (own_longer v21 v6) then Value.ref wNO else (if ([(98 : Int32), (121 : Int32), (78 : Int32), (97 : Int32), (109 : Int32), (101 : Int32)] : List Int32) = (own_longer v21 v6) then Value.ref wBY_NAME else (if ([(98 : Int32), (121 : Int32), (84 : Int32), (121 : Int32), (112 : Int32), (101 : Int32)] : List Int32) = (own_longer v21 v6) then Value.ref wBY_TYPE else (if ([(99 : Int32), (111 : Int32), (110 : Int32), (115 : Int32), (116 : Int32), (114 : Int32), (117 : Int32), (99 : Int32), (116 : Int32), (111 : Int32), (114 : Int32)] : List Int32) = (own_longer v21 v6) then Value.ref wCONSTRUCTOR else Value.null)))) := ⟨_, rfl⟩
            rw [← hg213] at st213
            have hgr213 : g213.isRef = true := by rw [hg213]; repeat' (first | rfl | (refine own_isr rfl ?_))
            refine own_by st213 ?_
            have sg222 : ∀ t, own_S p e below T213 (mkF m 222 (own_AIIIIIIIIRV p0 p1 p2 p3 v6 v14 v21 v27 b120 g213) [(.ref b120), g213]) t → own_S p e below T213 (mkF m 216 (own_AIIIIIIIIRU p0 p1 p2 p3 v6 v14 v21 v27 b120) [g213]) t := by
              intro t k
              show own_S p e below T213 (mkF m 216 (own_AIIIIIIIIRU p0 p1 p2 p3 v6 v14 v21 v27 b120) [g213]) _
              refine XS.astore X213.here hx rfl (hb hby at_216) rfl hgr213 (l' := (own_AIIIIIIIIRV p0 p1 p2 p3 v6 v14 v21 v27 b120 g213)) (by simp [storeLocals, storeSelf, setAt, own_cat1 hgr213, own_catr, own_catn]) ?_
              show own_S p e below T213 (mkF m 218 (own_AIIIIIIIIRV p0 p1 p2 p3 v6 v14 v21 v27 b120 g213) []) _
              refine XS.aload X213.here hx rfl (hb hby at_218) rfl hgr213 ?_
              show own_S p e below T213 (mkF m 220 (own_AIIIIIIIIRV p0 p1 p2 p3 v6 v14 v21 v27 b120 g213) [g213]) _
              refine XS.aload X213.here hx rfl (hb hby at_220) rfl rfl ?_
              exact k
            refine own_by sg222 ?_
            obtain ⟨_, _, ⟨T222, L222, k222, n222⟩, -, Xc222, hSc222, hgc222, ⟨Lc222, hQ222, l222, y222, z222, hC222⟩, st222⟩ := callSS X213 hx (y := (⟨"com/example/spojka/spojka/AutowireModeNamedPinLaw", "expected", "(Ljava/lang/String;)Lcom/example/spojka/spojka/AutowireMode;"⟩ : MethodName)) hown (mvT hZ (hw _ (List.mem_of_getElem? (i := 69) rfl))) (mvT hZ (hw _ (List.mem_of_getElem? (i := 70) rfl))) (mvT hZ (hw _ (List.mem_of_getElem? (i := 5) rfl))) (mvT hZ (hw _ (List.mem_of_getElem? (i := 71) rfl))) (by decide) (backOfSH (W := 1) (rm12 l Z a0 hw [] b120 (own_longer v21 v6) wNO wBY_NAME wBY_TYPE wCONSTRUCTOR gz T213.heap n0 Z213 ((((O.ext E120).keep Kq128 all0).keep Kq131 (allS g_b120 all0)).keep Kq213 all0) O2 P5 (Sq131.ext (own_kx Kq213)) S_NO S_BY_NAME S_BY_TYPE S_CONSTRUCTOR) hZ (hw _ (List.mem_of_getElem? (i := 71) rfl)) (hw _ (List.mem_of_getElem? (i := 5) rfl)) (by decide) (by decide) hEL CC213.1) (g := (mkF m 222 (own_AIIIIIIIIRV p0 p1 p2 p3 v6 v14 v21 v27 b120 g213) [(.ref b120), g213])) rfl (by rw [hml]; rfl) (argsL := [(.ref b120)]) (rest := [g213]) (lenOf pd_0_2 rfl) rfl (by show 2 * 0 + (List.map (fun v => Value.category v) [g213]).sum ≤ 1; simp [own_cat1 hgr213, own_catr, own_catn]) (hb hby at_222) (fun _ _ => ⟨rfl, rfl, (by decide : 4 + 8 ≤ _), (by decide : 32 + 116 ≤ _)⟩)
            dsimp only [Pt.U, Pt.locs, Pt.cells, Pt.slots] at Xc222 hSc222 hgc222
            obtain ⟨X222, hS222, hZ222, hown222⟩ := rebS hS0 (Nat.le_trans (Nat.le_trans (Nat.le_trans (Nat.le_trans (Nat.zero_le _) E120.1) Kq128.1) Kq131.1) Kq213.1) Xc222 hSc222 hgc222 hZ hown
            dsimp only [Pt.U, Pt.locs, Pt.cells, Pt.slots] at X222 l222 y222 z222 st222 hQ222
            subst l222 y222 z222
            obtain ⟨rfl, N222q, Kq222⟩ := hQ222
            have N222 := Fr.app N213 N222q
            have fc_2 := ((fc.keep Kq213 List.not_mem_nil).keep Kq222 List.not_mem_nil)
            have K222 : Keep h0 T222.heap [] := K213.trans Kq222 (fun x hx => nomatch hx)
            have Z222 : n0 ≤ T222.heap.size := Nat.le_trans Z213 Kq222.1
            rw [← hg213] at st222
            have CR222 := CR213.trans hC222
            refine own_by (fun t k => st222.trans k) ?_
            have sg233 : ∀ t, own_S p e below T222 (mkF m 233 (own_AIIIIIIIIRV p0 p1 p2 p3 v6 v14 v21 v27 b120 g213) [(.int (1 : Int32))]) t → own_S p e below T222 (mkF m 225 (own_AIIIIIIIIRV p0 p1 p2 p3 v6 v14 v21 v27 b120 g213) [g213, g213]) t := by
              intro t k
              show own_S p e below T222 (mkF m 225 (own_AIIIIIIIIRV p0 p1 p2 p3 v6 v14 v21 v27 b120 g213) [g213, g213]) _
              refine Jvm.RoadKit.acmp (g := (mkF m 225 (own_AIIIIIIIIRV p0 p1 p2 p3 v6 v14 v21 v27 b120 g213) [g213, g213])) X222 hx rfl hgr213 hgr213 (pc0 := 225) (pc' := 228) (same := true) rfl (hb hby at_225) rfl (decide_eq_true (rfl : (g213 : Value) = g213)) (by decide) (by decide) ?_
              show own_S p e below T222 (mkF m 228 (own_AIIIIIIIIRV p0 p1 p2 p3 v6 v14 v21 v27 b120 g213) []) _
              refine XS.iconst X222.here hx rfl (hb hby at_228) ?_
              show own_S p e below T222 (mkF m 229 (own_AIIIIIIIIRV p0 p1 p2 p3 v6 v14 v21 v27 b120 g213) [(.int (1 : Int32))]) _
              refine XS.goto X222.here hx rfl (pc0 := 229) (pc' := 233) rfl (hb hby at_229) (by decide) (by decide) ?_
              exact k
            refine own_by sg233 ?_
            obtain ⟨fs, hr, hrun, hended, hW⟩ := X222.leaveW hS222 (Nat.le_refl _) (v := some (.int (1 : Int32))) (fun h => by rw [Bd.returns] at h; cases h)
            refine ⟨_, _, ?_, hrun, hended, _, _, rfl, ?_, (by rw [hh]; show CHr Z consts_1 s.vm h0 T222.vm T222.heap; exact CR222.trans (CHv.at X222 hZ222 hEL hC222.1)), hW.1, hW.2.1, hW.2.2.1, hW.2.2.2.mono (by decide) (by decide)⟩
            · exact retN X222 hx (t := .boolean) Bd.returns (by simp) (hb hby at_233) hr
            · show Q0 Z p0 p1 p2 p3 wV cl wNO wBY_NAME wBY_TYPE wCONSTRUCTOR sNO sBY_NAME sBY_TYPE sCONSTRUCTOR gz h0 n0 _ T222.heap _
              exact ⟨rfl, N222⟩
        · have sg142 : ∀ t, own_S p e below s₁ (mkF m 142 (own_AIIIIIIIIUU p0 p1 p2 p3 v6 v14 v21 v27) [(.int (4 : Int32)), (.int v27)]) t → own_S p e below s₁ (mkF m 117 (own_AIIIIIIIIUU p0 p1 p2 p3 v6 v14 v21 v27) [(.int (3 : Int32)), (.int v27)]) t := by
            intro t k
            show own_S p e below s₁ (mkF m 117 (own_AIIIIIIIIUU p0 p1 p2 p3 v6 v14 v21 v27) [(.int (3 : Int32)), (.int v27)]) _
            refine XS.icmpYes X0.here hx rfl (pc0 := 117) (pc' := 139) rfl (hb hby at_117) rfl (feq hc117).2 (by decide) (by decide) ?_
            show own_S p e below s₁ (mkF m 139 (own_AIIIIIIIIUU p0 p1 p2 p3 v6 v14 v21 v27) []) _
            refine XS.iload X0.here hx rfl (hb hby at_139) rfl ?_
            show own_S p e below s₁ (mkF m 141 (own_AIIIIIIIIUU p0 p1 p2 p3 v6 v14 v21 v27) [(.int v27)]) _
            refine XS.iconst X0.here hx rfl (hb hby at_141) ?_
            exact k
          refine own_by sg142 ?_
          by_cases hc142 : v27 = (4 : Int32)
          · have sg145 : ∀ t, own_S p e below s₁ (mkF m 145 (own_AIIIIIIIIUU p0 p1 p2 p3 v6 v14 v21 v27) []) t → own_S p e below s₁ (mkF m 142 (own_AIIIIIIIIUU p0 p1 p2 p3 v6 v14 v21 v27) [(.int (4 : Int32)), (.int v27)]) t := by
              intro t k
              show own_S p e below s₁ (mkF m 142 (own_AIIIIIIIIUU p0 p1 p2 p3 v6 v14 v21 v27) [(.int (4 : Int32)), (.int v27)]) _
              refine XS.icmpNo X0.here hx rfl (hb hby at_142) rfl (teq hc142).2 ?_
              exact k
            refine own_by sg145 ?_
            obtain ⟨T145, h145, X145, e145, E145, A145, D145, -, st145⟩ := newO X0 hx hZ hown (hw _ (List.mem_of_getElem? (i := 0) rfl)) (hw _ (List.mem_of_getElem? (i := 1) rfl)) (hw _ (List.mem_of_getElem? (i := 2) rfl)) e0 (g := (mkF m 145 (own_AIIIIIIIIUU p0 p1 p2 p3 v6 v14 v21 v27) [])) rfl (hb hby at_145) (by decide) (by decide)
            obtain ⟨b145, g145⟩ : ∃ z, z = h0.size := ⟨_, rfl⟩
            rw [← g145] at A145 D145 st145
            have g_b145 : n0 ≤ b145 := Nat.le_trans Z0 (Nat.le_of_eq g145.symm)
            have sz_b145 : h0.size ≤ b145 := Nat.le_trans K0.1 (Nat.le_of_eq g145.symm)
            have K145 := K0.ext E145
            have Z145 : n0 ≤ h145.size := Nat.le_trans Z0 E145.1
            have CC145 := CHr.ext E145 hH0
            have CR145 := (CHr.refl hH0).trans CC145
            have F_coder_b145 : Fld Z h145 b145 "java/lang/String" "coder" "B" (.int (0 : Int32)) := D145 (Or.inr (hw _ (List.mem_of_getElem? (i := 31) rfl))) (ty := .byte) (by decide)
            have F_value_b145 : Fld Z h145 b145 "java/lang/String" "value" "[B" .null := D145 (Or.inr (hw _ (List.mem_of_getElem? (i := 33) rfl))) (ty := (.array .byte)) (by decide)
            refine own_by st145 ?_
            have sg150 : ∀ t, own_S p e below T145 (mkF m 150 (own_AIIIIIIIIUU p0 p1 p2 p3 v6 v14 v21 v27) [(.int (0 : Int32)), (.ref b145), (.ref b145)]) t → own_S p e below T145 (mkF m 148 (own_AIIIIIIIIUU p0 p1 p2 p3 v6 v14 v21 v27) [(.ref b145)]) t := by
              intro t k
              show own_S p e below T145 (mkF m 148 (own_AIIIIIIIIUU p0 p1 p2 p3 v6 v14 v21 v27) [(.ref b145)]) _
              refine XS.dup X145.here hx rfl (hb hby at_148) rfl rfl ?_
              show own_S p e below T145 (mkF m 149 (own_AIIIIIIIIUU p0 p1 p2 p3 v6 v14 v21 v27) [(.ref b145), (.ref b145)]) _
              refine XS.iconst X145.here hx rfl (hb hby at_149) ?_
              exact k
            refine own_by sg150 ?_
            obtain ⟨T150, h150, kc150, X150, e150, E150, A150, st150⟩ := newP X145 hx hZ (hw _ (List.mem_of_getElem? (i := 7) rfl)) e145 (g := (mkF m 150 (own_AIIIIIIIIUU p0 p1 p2 p3 v6 v14 v21 v27) [(.int (0 : Int32)), (.ref b145), (.ref b145)])) rfl (hb hby at_150) rfl (by decide) (cap := 0) (by decide) (by decide) (by decide) (by decide)
            obtain ⟨b150, g150⟩ : ∃ z, z = h145.size := ⟨_, rfl⟩
            rw [← g150] at A150 st150
            have ne_b145_b150 : b145 ≠ b150 := Nat.ne_of_lt (Nat.lt_of_lt_of_le A145.lt (Nat.le_of_eq g150.symm))
            have g_b150 : n0 ≤ b150 := Nat.le_trans Z145 (Nat.le_of_eq g150.symm)
            have sz_b150 : h0.size ≤ b150 := Nat.le_trans K145.1 (Nat.le_of_eq g150.symm)
            have K150 := K145.ext E150
            have Z150 : n0 ≤ h150.size := Nat.le_trans Z145 E150.1
            have CC150 := CHr.ext E150 CC145.1
            have CR150 := CR145.trans CC150
            have V150 : Arv Z h150 b150 kc150 .char (0 : Int32) [] (.int (0 : Int32)) := Arv.new A150 (by decide)
            refine own_by st150 ?_
            obtain ⟨cz152, Arz152, -, Sz152, -⟩ := id V150
            have Hz152 : cz152.slots.size = 0 := Sz152
            obtain ⟨_, _, ⟨T152, L152, k152, n152⟩, -, Xc152, hSc152, hgc152, ⟨Lc152, hQ152, l152, y152, z152, hC152⟩, st152⟩ := X150.specialBackS hx (y := (⟨"java/lang/String", "<init>", "([C)V"⟩ : MethodName)) rfl hown (mvT hZ (hw _ (List.mem_of_getElem? (i := 8) rfl))) (mvT hZ (hw _ (List.mem_of_getElem? (i := 9) rfl))) (mvT hZ (hw _ (List.mem_of_getElem? (i := 10) rfl))) (by decide) (backOfSH (W := 1) (rm2e l Z a0 hw [] b145 b150 cz152 h150 n0 Z150 (A145.ext E150) (F_value_b145.ext E150) (F_coder_b145.ext E150) g_b145 Arz152 Hz152) hZ (hw _ (List.mem_of_getElem? (i := 10) rfl)) (hw _ (List.mem_of_getElem? (i := 2) rfl)) (by decide) (by decide) hEL CC150.1) (g := (mkF m 152 (own_AIIIIIIIIUU p0 p1 p2 p3 v6 v14 v21 v27) [(.ref b150), (.ref b145), (.ref b145)])) rfl (by rw [hml]; rfl) (Steps.refl _) (a := b145) (argsL := [(.ref b150)]) (rest := [(.ref b145)]) (lenOf pd_0_1 rfl) rfl (by show 2 * 0 + _ ≤ _; exact Nat.le_of_eq rfl) (hb hby at_152) (fun _ _ => ⟨rfl, e150, (by decide : 2 + 4 ≤ _), (by decide : 4 + 8 ≤ _)⟩)
            dsimp only [Pt.U, Pt.locs, Pt.cells, Pt.slots] at Xc152 hSc152 hgc152
            obtain ⟨X152, hS152, hZ152, hown152⟩ := rebS hS0 (by rw [e150]; exact (Nat.le_trans (Nat.le_trans (Nat.zero_le _) E145.1) E150.1)) Xc152 hSc152 hgc152 hZ hown
            dsimp only [Pt.U, Pt.locs, Pt.cells, Pt.slots] at X152 l152 y152 z152 st152 hQ152
            subst l152 y152 z152
            obtain ⟨rfl, N152q, Kq152, Sq152⟩ := hQ152
            have N152 := Fr.app N0 N152q
            have fc := (V150.keep Kq152 (fun h => (Ne.symm ne_b145_b150) (List.mem_singleton.mp h)))
            have K152 : Keep h0 T152.heap [] := K150.trans Kq152 (fun x hx => by cases List.mem_singleton.mp hx; exact Or.inr sz_b145)
            have Z152 : n0 ≤ T152.heap.size := Nat.le_trans Z150 Kq152.1
            have CR152 := CR150.trans hC152
            refine own_by (fun t k => st152.trans k) ?_
            have sg213 : ∀ t, own_S p e below T152 (mkF m 213 (own_AIIIIIIIIRU p0 p1 p2 p3 v6 v14 v21 v27 b145) [(.ref b145)]) t → own_S p e below T152 (mkF m 155 (own_AIIIIIIIIUU p0 p1 p2 p3 v6 v14 v21 v27) [(.ref b145)]) t := by
              intro t k
              show own_S p e below T152 (mkF m 155 (own_AIIIIIIIIUU p0 p1 p2 p3 v6 v14 v21 v27) [(.ref b145)]) _
              refine XS.astore X152.here hx rfl (hb hby at_155) rfl rfl (l' := (own_AIIIIIIIIRU p0 p1 p2 p3 v6 v14 v21 v27 b145)) rfl ?_
              show own_S p e below T152 (mkF m 157 (own_AIIIIIIIIRU p0 p1 p2 p3 v6 v14 v21 v27 b145) []) _
              refine XS.goto X152.here hx rfl (pc0 := 157) (pc' := 211) rfl (hb hby at_157) (by decide) (by decide) ?_
              show own_S p e below T152 (mkF m 211 (own_AIIIIIIIIRU p0 p1 p2 p3 v6 v14 v21 v27 b145) []) _
              refine XS.aload X152.here hx rfl (hb hby at_211) rfl rfl ?_
              exact k
            refine own_by sg213 ?_
            obtain ⟨_, _, ⟨T213, L213, k213, n213⟩, -, X213, ⟨Lc213, hQ213, l213, y213, z213⟩, st213⟩ := Jvm.LawKit.callS X152 hx (y := (⟨"com/example/spojka/spojka/AutowireMode", "named", "(Ljava/lang/String;)Lcom/example/spojka/spojka/AutowireMode;"⟩ : MethodName)) hown152 (mvT hZ152 (hw _ (List.mem_of_getElem? (i := 34) rfl))) (mvT hZ152 (hw _ (List.mem_of_getElem? (i := 35) rfl))) (mvT hZ152 (hw _ (List.mem_of_getElem? (i := 36) rfl))) (mvT hZ152 (hw _ (List.mem_of_getElem? (i := 37) rfl))) (by decide) (backOf (W := 0) (rm8 l Z a0 hw [] b145 ([] : List Int32) wV cl wNO wBY_NAME wBY_TYPE wCONSTRUCTOR sNO sBY_NAME sBY_TYPE sCONSTRUCTOR gz T152.heap n0 Z152 (((O.ext E145).ext E150).keep Kq152 (allS g_b145 all0)) O2 P5 S_V Ar_V E_V FC hsz hat0 hat1 hat2 hat3 FV_NO FV_BY_NAME FV_BY_TYPE FV_CONSTRUCTOR EX_NO EX_BY_NAME EX_BY_TYPE EX_CONSTRUCTOR Str_NO Str_BY_NAME Str_BY_TYPE Str_CONSTRUCTOR Sq152) hZ152 (hw _ (List.mem_of_getElem? (i := 37) rfl)) (hw _ (List.mem_of_getElem? (i := 36) rfl)) (by decide) (by decide)) (g := (mkF m 213 (own_AIIIIIIIIRU p0 p1 p2 p3 v6 v14 v21 v27 b145) [(.ref b145)])) rfl (by rw [hml]; rfl) (argsL := [(.ref b145)]) (rest := []) (lenOf pd_0_2 rfl) rfl (by show 2 * 0 + _ ≤ _; exact Nat.le_of_eq rfl) (hb hby at_213) (fun _ _ => ⟨rfl, rfl, (by decide : 6 + 1 ≤ _), (by decide : 12 + 4 ≤ _)⟩)
            dsimp only [Pt.U, Pt.locs, Pt.cells, Pt.slots] at X213 l213 y213 z213 st213 hQ213
            subst l213 y213 z213
            obtain ⟨rfl, N213q, Kq213⟩ := hQ213
            have N213 := Fr.app N152 N213q
            have K213 : Keep h0 T213.heap [] := K152.trans Kq213 (fun x hx => nomatch hx)
            have Z213 : n0 ≤ T213.heap.size := Nat.le_trans Z152 Kq213.1
            have CC213 := CHr.keep Kq213 sf0 hC152.1
            have CR213 := CR152.trans CC213
            obtain ⟨g213, hg213⟩ : ∃ z : Value, z = (if ([(110 : Int32), (111 : Int32)] : List Int32) = ([] : List Int32) then Value.ref wNO else (if ([(98 : Int32), (121 : Int32), (78 : Int32), (97 : Int32), (109 : Int32), (101 : Int32)] : List Int32) = ([] : List Int32) then Value.ref wBY_NAME else (if ([(98 : Int32), (121 : Int32), (84 : Int32), (121 : Int32), (112 : Int32), (101 : Int32)] : List Int32) = ([] : List Int32) then Value.ref wBY_TYPE else (if ([(99 : Int32), (111 : Int32), (110 : Int32), (115 : Int32), (116 : Int32), (114 : Int32), (117 : Int32), (99 : Int32), (116 : Int32), (111 : Int32), (114 : Int32)] : List Int32) = ([] : List Int32) then Value.ref wCONSTRUCTOR else Value.null)))) := ⟨_, rfl⟩
            rw [← hg213] at st213
            have hgr213 : g213.isRef = true := by rw [hg213]; repeat' (first | rfl | (refine own_isr rfl ?_))
            refine own_by st213 ?_
            have sg222 : ∀ t, own_S p e below T213 (mkF m 222 (own_AIIIIIIIIRV p0 p1 p2 p3 v6 v14 v21 v27 b145 g213) [(.ref b145), g213]) t → own_S p e below T213 (mkF m 216 (own_AIIIIIIIIRU p0 p1 p2 p3 v6 v14 v21 v27 b145) [g213]) t := by
              intro t k
              show own_S p e below T213 (mkF m 216 (own_AIIIIIIIIRU p0 p1 p2 p3 v6 v14 v21 v27 b145) [g213]) _
              refine XS.astore X213.here hx rfl (hb hby at_216) rfl hgr213 (l' := (own_AIIIIIIIIRV p0 p1 p2 p3 v6 v14 v21 v27 b145 g213)) (by simp [storeLocals, storeSelf, setAt, own_cat1 hgr213, own_catr, own_catn]) ?_
              show own_S p e below T213 (mkF m 218 (own_AIIIIIIIIRV p0 p1 p2 p3 v6 v14 v21 v27 b145 g213) []) _
              refine XS.aload X213.here hx rfl (hb hby at_218) rfl hgr213 ?_
              show own_S p e below T213 (mkF m 220 (own_AIIIIIIIIRV p0 p1 p2 p3 v6 v14 v21 v27 b145 g213) [g213]) _
              refine XS.aload X213.here hx rfl (hb hby at_220) rfl rfl ?_
              exact k
            refine own_by sg222 ?_
            obtain ⟨_, _, ⟨T222, L222, k222, n222⟩, -, Xc222, hSc222, hgc222, ⟨Lc222, hQ222, l222, y222, z222, hC222⟩, st222⟩ := callSS X213 hx (y := (⟨"com/example/spojka/spojka/AutowireModeNamedPinLaw", "expected", "(Ljava/lang/String;)Lcom/example/spojka/spojka/AutowireMode;"⟩ : MethodName)) hown152 (mvT hZ152 (hw _ (List.mem_of_getElem? (i := 69) rfl))) (mvT hZ152 (hw _ (List.mem_of_getElem? (i := 70) rfl))) (mvT hZ152 (hw _ (List.mem_of_getElem? (i := 5) rfl))) (mvT hZ152 (hw _ (List.mem_of_getElem? (i := 71) rfl))) (by decide) (backOfSH (W := 1) (rm12 l Z a0 hw [] b145 ([] : List Int32) wNO wBY_NAME wBY_TYPE wCONSTRUCTOR gz T213.heap n0 Z213 ((((O.ext E145).ext E150).keep Kq152 (allS g_b145 all0)).keep Kq213 all0) O2 P5 (Sq152.ext (own_kx Kq213)) S_NO S_BY_NAME S_BY_TYPE S_CONSTRUCTOR) hZ152 (hw _ (List.mem_of_getElem? (i := 71) rfl)) (hw _ (List.mem_of_getElem? (i := 5) rfl)) (by decide) (by decide) hEL CC213.1) (g := (mkF m 222 (own_AIIIIIIIIRV p0 p1 p2 p3 v6 v14 v21 v27 b145 g213) [(.ref b145), g213])) rfl (by rw [hml]; rfl) (argsL := [(.ref b145)]) (rest := [g213]) (lenOf pd_0_2 rfl) rfl (by show 2 * 0 + (List.map (fun v => Value.category v) [g213]).sum ≤ 1; simp [own_cat1 hgr213, own_catr, own_catn]) (hb hby at_222) (fun _ _ => ⟨rfl, rfl, (by decide : 7 + 8 ≤ _), (by decide : 16 + 116 ≤ _)⟩)
            dsimp only [Pt.U, Pt.locs, Pt.cells, Pt.slots] at Xc222 hSc222 hgc222
            obtain ⟨X222, hS222, hZ222, hown222⟩ := rebS hS152 (Nat.le_trans (Nat.le_refl _) Kq213.1) Xc222 hSc222 hgc222 hZ152 hown152
            dsimp only [Pt.U, Pt.locs, Pt.cells, Pt.slots] at X222 l222 y222 z222 st222 hQ222
            subst l222 y222 z222
            obtain ⟨rfl, N222q, Kq222⟩ := hQ222
            have N222 := Fr.app N213 N222q
            have fc_2 := ((fc.keep Kq213 List.not_mem_nil).keep Kq222 List.not_mem_nil)
            have K222 : Keep h0 T222.heap [] := K213.trans Kq222 (fun x hx => nomatch hx)
            have Z222 : n0 ≤ T222.heap.size := Nat.le_trans Z213 Kq222.1
            rw [← hg213] at st222
            have CR222 := CR213.trans hC222
            refine own_by (fun t k => st222.trans k) ?_
            have sg233 : ∀ t, own_S p e below T222 (mkF m 233 (own_AIIIIIIIIRV p0 p1 p2 p3 v6 v14 v21 v27 b145 g213) [(.int (1 : Int32))]) t → own_S p e below T222 (mkF m 225 (own_AIIIIIIIIRV p0 p1 p2 p3 v6 v14 v21 v27 b145 g213) [g213, g213]) t := by
              intro t k
              show own_S p e below T222 (mkF m 225 (own_AIIIIIIIIRV p0 p1 p2 p3 v6 v14 v21 v27 b145 g213) [g213, g213]) _
              refine Jvm.RoadKit.acmp (g := (mkF m 225 (own_AIIIIIIIIRV p0 p1 p2 p3 v6 v14 v21 v27 b145 g213) [g213, g213])) X222 hx rfl hgr213 hgr213 (pc0 := 225) (pc' := 228) (same := true) rfl (hb hby at_225) rfl (decide_eq_true (rfl : (g213 : Value) = g213)) (by decide) (by decide) ?_
              show own_S p e below T222 (mkF m 228 (own_AIIIIIIIIRV p0 p1 p2 p3 v6 v14 v21 v27 b145 g213) []) _
              refine XS.iconst X222.here hx rfl (hb hby at_228) ?_
              show own_S p e below T222 (mkF m 229 (own_AIIIIIIIIRV p0 p1 p2 p3 v6 v14 v21 v27 b145 g213) [(.int (1 : Int32))]) _
              refine XS.goto X222.here hx rfl (pc0 := 229) (pc' := 233) rfl (hb hby at_229) (by decide) (by decide) ?_
              exact k
            refine own_by sg233 ?_
            obtain ⟨fs, hr, hrun, hended, hW⟩ := X222.leaveW hS222 (Nat.le_refl _) (v := some (.int (1 : Int32))) (fun h => by rw [Bd.returns] at h; cases h)
            refine ⟨_, _, ?_, hrun, hended, _, _, rfl, ?_, (by rw [hh]; show CHr Z consts_1 s.vm h0 T222.vm T222.heap; exact CR222.trans (CHv.at X222 hZ222 hEL hC222.1)), hW.1, hW.2.1, hW.2.2.1, hW.2.2.2.mono (by decide) (by decide)⟩
            · exact retN X222 hx (t := .boolean) Bd.returns (by simp) (hb hby at_233) hr
            · show Q0 Z p0 p1 p2 p3 wV cl wNO wBY_NAME wBY_TYPE wCONSTRUCTOR sNO sBY_NAME sBY_TYPE sCONSTRUCTOR gz h0 n0 _ T222.heap _
              exact ⟨rfl, N222⟩
          · have sg163 : ∀ t, own_S p e below s₁ (mkF m 163 (own_AIIIIIIIIUU p0 p1 p2 p3 v6 v14 v21 v27) [(.int (5 : Int32)), (.int v27)]) t → own_S p e below s₁ (mkF m 142 (own_AIIIIIIIIUU p0 p1 p2 p3 v6 v14 v21 v27) [(.int (4 : Int32)), (.int v27)]) t := by
              intro t k
              show own_S p e below s₁ (mkF m 142 (own_AIIIIIIIIUU p0 p1 p2 p3 v6 v14 v21 v27) [(.int (4 : Int32)), (.int v27)]) _
              refine XS.icmpYes X0.here hx rfl (pc0 := 142) (pc' := 160) rfl (hb hby at_142) rfl (feq hc142).2 (by decide) (by decide) ?_
              show own_S p e below s₁ (mkF m 160 (own_AIIIIIIIIUU p0 p1 p2 p3 v6 v14 v21 v27) []) _
              refine XS.iload X0.here hx rfl (hb hby at_160) rfl ?_
              show own_S p e below s₁ (mkF m 162 (own_AIIIIIIIIUU p0 p1 p2 p3 v6 v14 v21 v27) [(.int v27)]) _
              refine XS.iconst X0.here hx rfl (hb hby at_162) ?_
              exact k
            refine own_by sg163 ?_
            by_cases hc163 : v27 = (5 : Int32)
            · have sg168 : ∀ t, own_S p e below s₁ (mkF m 168 (own_AIIIIIIIIUU p0 p1 p2 p3 v6 v14 v21 v27) [(.int v6)]) t → own_S p e below s₁ (mkF m 163 (own_AIIIIIIIIUU p0 p1 p2 p3 v6 v14 v21 v27) [(.int (5 : Int32)), (.int v27)]) t := by
                intro t k
                show own_S p e below s₁ (mkF m 163 (own_AIIIIIIIIUU p0 p1 p2 p3 v6 v14 v21 v27) [(.int (5 : Int32)), (.int v27)]) _
                refine XS.icmpNo X0.here hx rfl (hb hby at_163) rfl (teq hc163).2 ?_
                show own_S p e below s₁ (mkF m 166 (own_AIIIIIIIIUU p0 p1 p2 p3 v6 v14 v21 v27) []) _
                refine XS.iload X0.here hx rfl (hb hby at_166) rfl ?_
                exact k
              refine own_by sg168 ?_
              obtain ⟨_, _, ⟨T168, L168, k168, n168⟩, -, X168, ⟨Lc168, hQ168, l168, y168, z168⟩, st168⟩ := Jvm.LawKit.callS X0 hx (y := (⟨"java/lang/String", "valueOf", "(C)Ljava/lang/String;"⟩ : MethodName)) hown (mvT hZ (hw _ (List.mem_of_getElem? (i := 90) rfl))) (mvT hZ (hw _ (List.mem_of_getElem? (i := 91) rfl))) (mvT hZ (hw _ (List.mem_of_getElem? (i := 2) rfl))) (mvT hZ (hw _ (List.mem_of_getElem? (i := 92) rfl))) (by decide) (backOf (W := 0) (rm15 l Z a0 hw [] v6 gz h0 n0 Z0 (O2.ext O.2) P5 hk_v6) hZ (hw _ (List.mem_of_getElem? (i := 92) rfl)) (hw _ (List.mem_of_getElem? (i := 2) rfl)) (by decide) (by decide)) (g := (mkF m 168 (own_AIIIIIIIIUU p0 p1 p2 p3 v6 v14 v21 v27) [(.int v6)])) rfl (by rw [hml]; rfl) (argsL := [(.int v6)]) (rest := []) (lenOf pd_0_4 rfl) rfl (by show 2 * 0 + _ ≤ _; exact Nat.le_of_eq rfl) (hb hby at_168) (fun _ _ => ⟨rfl, e0, (by decide : 0 + 2 ≤ _), (by decide : 0 + 5 ≤ _)⟩)
              dsimp only [Pt.U, Pt.locs, Pt.cells, Pt.slots] at X168 l168 y168 z168 st168 hQ168
              subst l168 y168 z168
              obtain ⟨r168, rfl, ge168, N168q, Kq168, Sq168⟩ := hQ168
              have N168 := Fr.app N0 N168q
              have g_r168 : n0 ≤ r168 := Nat.le_trans Z0 ge168
              have sz_r168 : h0.size ≤ r168 := Nat.le_trans K0.1 ge168
              have K168 : Keep h0 T168.heap [] := K0.trans Kq168 (fun x hx => nomatch hx)
              have Z168 : n0 ≤ T168.heap.size := Nat.le_trans Z0 Kq168.1
              have CC168 := CHr.keep Kq168 sf0 hH0
              have CR168 := (CHr.refl hH0).trans CC168
              refine own_by st168 ?_
              have sg213 : ∀ t, own_S p e below T168 (mkF m 213 (own_AIIIIIIIIRU p0 p1 p2 p3 v6 v14 v21 v27 r168) [(.ref r168)]) t → own_S p e below T168 (mkF m 171 (own_AIIIIIIIIUU p0 p1 p2 p3 v6 v14 v21 v27) [(.ref r168)]) t := by
                intro t k
                show own_S p e below T168 (mkF m 171 (own_AIIIIIIIIUU p0 p1 p2 p3 v6 v14 v21 v27) [(.ref r168)]) _
                refine XS.astore X168.here hx rfl (hb hby at_171) rfl rfl (l' := (own_AIIIIIIIIRU p0 p1 p2 p3 v6 v14 v21 v27 r168)) rfl ?_
                show own_S p e below T168 (mkF m 173 (own_AIIIIIIIIRU p0 p1 p2 p3 v6 v14 v21 v27 r168) []) _
                refine XS.goto X168.here hx rfl (pc0 := 173) (pc' := 211) rfl (hb hby at_173) (by decide) (by decide) ?_
                show own_S p e below T168 (mkF m 211 (own_AIIIIIIIIRU p0 p1 p2 p3 v6 v14 v21 v27 r168) []) _
                refine XS.aload X168.here hx rfl (hb hby at_211) rfl rfl ?_
                exact k
              refine own_by sg213 ?_
              obtain ⟨_, _, ⟨T213, L213, k213, n213⟩, -, X213, ⟨Lc213, hQ213, l213, y213, z213⟩, st213⟩ := Jvm.LawKit.callS X168 hx (y := (⟨"com/example/spojka/spojka/AutowireMode", "named", "(Ljava/lang/String;)Lcom/example/spojka/spojka/AutowireMode;"⟩ : MethodName)) hown (mvT hZ (hw _ (List.mem_of_getElem? (i := 34) rfl))) (mvT hZ (hw _ (List.mem_of_getElem? (i := 35) rfl))) (mvT hZ (hw _ (List.mem_of_getElem? (i := 36) rfl))) (mvT hZ (hw _ (List.mem_of_getElem? (i := 37) rfl))) (by decide) (backOf (W := 0) (rm8 l Z a0 hw [] r168 ([v6] : List Int32) wV cl wNO wBY_NAME wBY_TYPE wCONSTRUCTOR sNO sBY_NAME sBY_TYPE sCONSTRUCTOR gz T168.heap n0 Z168 (O.keep Kq168 all0) O2 P5 S_V Ar_V E_V FC hsz hat0 hat1 hat2 hat3 FV_NO FV_BY_NAME FV_BY_TYPE FV_CONSTRUCTOR EX_NO EX_BY_NAME EX_BY_TYPE EX_CONSTRUCTOR Str_NO Str_BY_NAME Str_BY_TYPE Str_CONSTRUCTOR Sq168) hZ (hw _ (List.mem_of_getElem? (i := 37) rfl)) (hw _ (List.mem_of_getElem? (i := 36) rfl)) (by decide) (by decide)) (g := (mkF m 213 (own_AIIIIIIIIRU p0 p1 p2 p3 v6 v14 v21 v27 r168) [(.ref r168)])) rfl (by rw [hml]; rfl) (argsL := [(.ref r168)]) (rest := []) (lenOf pd_0_2 rfl) rfl (by show 2 * 0 + _ ≤ _; exact Nat.le_of_eq rfl) (hb hby at_213) (fun _ _ => ⟨rfl, rfl, (by decide : 2 + 1 ≤ _), (by decide : 5 + 4 ≤ _)⟩)
              dsimp only [Pt.U, Pt.locs, Pt.cells, Pt.slots] at X213 l213 y213 z213 st213 hQ213
              subst l213 y213 z213
              obtain ⟨rfl, N213q, Kq213⟩ := hQ213
              have N213 := Fr.app N168 N213q
              have K213 : Keep h0 T213.heap [] := K168.trans Kq213 (fun x hx => nomatch hx)
              have Z213 : n0 ≤ T213.heap.size := Nat.le_trans Z168 Kq213.1
              have CC213 := CHr.keep Kq213 sf0 CC168.1
              have CR213 := CR168.trans CC213
              obtain ⟨g213, hg213⟩ : ∃ z : Value, z = (if ([(110 : Int32), (111 : Int32)] : List Int32) = ([v6] : List Int32) then Value.ref wNO else (if ([(98 : Int32), (121 : Int32), (78 : Int32), (97 : Int32), (109 : Int32), (101 : Int32)] : List Int32) = ([v6] : List Int32) then Value.ref wBY_NAME else (if ([(98 : Int32), (121 : Int32), (84 : Int32), (121 : Int32), (112 : Int32), (101 : Int32)] : List Int32) = ([v6] : List Int32) then Value.ref wBY_TYPE else (if ([(99 : Int32), (111 : Int32), (110 : Int32), (115 : Int32), (116 : Int32), (114 : Int32), (117 : Int32), (99 : Int32), (116 : Int32), (111 : Int32), (114 : Int32)] : List Int32) = ([v6] : List Int32) then Value.ref wCONSTRUCTOR else Value.null)))) := ⟨_, rfl⟩
              rw [← hg213] at st213
              have hgr213 : g213.isRef = true := by rw [hg213]; repeat' (first | rfl | (refine own_isr rfl ?_))
              refine own_by st213 ?_
              have sg222 : ∀ t, own_S p e below T213 (mkF m 222 (own_AIIIIIIIIRV p0 p1 p2 p3 v6 v14 v21 v27 r168 g213) [(.ref r168), g213]) t → own_S p e below T213 (mkF m 216 (own_AIIIIIIIIRU p0 p1 p2 p3 v6 v14 v21 v27 r168) [g213]) t := by
                intro t k
                show own_S p e below T213 (mkF m 216 (own_AIIIIIIIIRU p0 p1 p2 p3 v6 v14 v21 v27 r168) [g213]) _
                refine XS.astore X213.here hx rfl (hb hby at_216) rfl hgr213 (l' := (own_AIIIIIIIIRV p0 p1 p2 p3 v6 v14 v21 v27 r168 g213)) (by simp [storeLocals, storeSelf, setAt, own_cat1 hgr213, own_catr, own_catn]) ?_
                show own_S p e below T213 (mkF m 218 (own_AIIIIIIIIRV p0 p1 p2 p3 v6 v14 v21 v27 r168 g213) []) _
                refine XS.aload X213.here hx rfl (hb hby at_218) rfl hgr213 ?_
                show own_S p e below T213 (mkF m 220 (own_AIIIIIIIIRV p0 p1 p2 p3 v6 v14 v21 v27 r168 g213) [g213]) _
                refine XS.aload X213.here hx rfl (hb hby at_220) rfl rfl ?_
                exact k
              refine own_by sg222 ?_
              obtain ⟨_, _, ⟨T222, L222, k222, n222⟩, -, Xc222, hSc222, hgc222, ⟨Lc222, hQ222, l222, y222, z222, hC222⟩, st222⟩ := callSS X213 hx (y := (⟨"com/example/spojka/spojka/AutowireModeNamedPinLaw", "expected", "(Ljava/lang/String;)Lcom/example/spojka/spojka/AutowireMode;"⟩ : MethodName)) hown (mvT hZ (hw _ (List.mem_of_getElem? (i := 69) rfl))) (mvT hZ (hw _ (List.mem_of_getElem? (i := 70) rfl))) (mvT hZ (hw _ (List.mem_of_getElem? (i := 5) rfl))) (mvT hZ (hw _ (List.mem_of_getElem? (i := 71) rfl))) (by decide) (backOfSH (W := 1) (rm12 l Z a0 hw [] r168 ([v6] : List Int32) wNO wBY_NAME wBY_TYPE wCONSTRUCTOR gz T213.heap n0 Z213 ((O.keep Kq168 all0).keep Kq213 all0) O2 P5 (Sq168.ext (own_kx Kq213)) S_NO S_BY_NAME S_BY_TYPE S_CONSTRUCTOR) hZ (hw _ (List.mem_of_getElem? (i := 71) rfl)) (hw _ (List.mem_of_getElem? (i := 5) rfl)) (by decide) (by decide) hEL CC213.1) (g := (mkF m 222 (own_AIIIIIIIIRV p0 p1 p2 p3 v6 v14 v21 v27 r168 g213) [(.ref r168), g213])) rfl (by rw [hml]; rfl) (argsL := [(.ref r168)]) (rest := [g213]) (lenOf pd_0_2 rfl) rfl (by show 2 * 0 + (List.map (fun v => Value.category v) [g213]).sum ≤ 1; simp [own_cat1 hgr213, own_catr, own_catn]) (hb hby at_222) (fun _ _ => ⟨rfl, rfl, (by decide : 3 + 8 ≤ _), (by decide : 9 + 116 ≤ _)⟩)
              dsimp only [Pt.U, Pt.locs, Pt.cells, Pt.slots] at Xc222 hSc222 hgc222
              obtain ⟨X222, hS222, hZ222, hown222⟩ := rebS hS0 (Nat.le_trans (Nat.le_trans (Nat.zero_le _) Kq168.1) Kq213.1) Xc222 hSc222 hgc222 hZ hown
              dsimp only [Pt.U, Pt.locs, Pt.cells, Pt.slots] at X222 l222 y222 z222 st222 hQ222
              subst l222 y222 z222
              obtain ⟨rfl, N222q, Kq222⟩ := hQ222
              have N222 := Fr.app N213 N222q
              have K222 : Keep h0 T222.heap [] := K213.trans Kq222 (fun x hx => nomatch hx)
              have Z222 : n0 ≤ T222.heap.size := Nat.le_trans Z213 Kq222.1
              rw [← hg213] at st222
              have CR222 := CR213.trans hC222
              refine own_by (fun t k => st222.trans k) ?_
              have sg233 : ∀ t, own_S p e below T222 (mkF m 233 (own_AIIIIIIIIRV p0 p1 p2 p3 v6 v14 v21 v27 r168 g213) [(.int (1 : Int32))]) t → own_S p e below T222 (mkF m 225 (own_AIIIIIIIIRV p0 p1 p2 p3 v6 v14 v21 v27 r168 g213) [g213, g213]) t := by
                intro t k
                show own_S p e below T222 (mkF m 225 (own_AIIIIIIIIRV p0 p1 p2 p3 v6 v14 v21 v27 r168 g213) [g213, g213]) _
                refine Jvm.RoadKit.acmp (g := (mkF m 225 (own_AIIIIIIIIRV p0 p1 p2 p3 v6 v14 v21 v27 r168 g213) [g213, g213])) X222 hx rfl hgr213 hgr213 (pc0 := 225) (pc' := 228) (same := true) rfl (hb hby at_225) rfl (decide_eq_true (rfl : (g213 : Value) = g213)) (by decide) (by decide) ?_
                show own_S p e below T222 (mkF m 228 (own_AIIIIIIIIRV p0 p1 p2 p3 v6 v14 v21 v27 r168 g213) []) _
                refine XS.iconst X222.here hx rfl (hb hby at_228) ?_
                show own_S p e below T222 (mkF m 229 (own_AIIIIIIIIRV p0 p1 p2 p3 v6 v14 v21 v27 r168 g213) [(.int (1 : Int32))]) _
                refine XS.goto X222.here hx rfl (pc0 := 229) (pc' := 233) rfl (hb hby at_229) (by decide) (by decide) ?_
                exact k
              refine own_by sg233 ?_
              obtain ⟨fs, hr, hrun, hended, hW⟩ := X222.leaveW hS222 (Nat.le_refl _) (v := some (.int (1 : Int32))) (fun h => by rw [Bd.returns] at h; cases h)
              refine ⟨_, _, ?_, hrun, hended, _, _, rfl, ?_, (by rw [hh]; show CHr Z consts_1 s.vm h0 T222.vm T222.heap; exact CR222.trans (CHv.at X222 hZ222 hEL hC222.1)), hW.1, hW.2.1, hW.2.2.1, hW.2.2.2.mono (by decide) (by decide)⟩
              · exact retN X222 hx (t := .boolean) Bd.returns (by simp) (hb hby at_233) hr
              · show Q0 Z p0 p1 p2 p3 wV cl wNO wBY_NAME wBY_TYPE wCONSTRUCTOR sNO sBY_NAME sBY_TYPE sCONSTRUCTOR gz h0 n0 _ T222.heap _
                exact ⟨rfl, N222⟩
            · have sg180 : ∀ t, own_S p e below s₁ (mkF m 180 (own_AIIIIIIIIUU p0 p1 p2 p3 v6 v14 v21 v27) [(.int (6 : Int32)), (.int v27)]) t → own_S p e below s₁ (mkF m 163 (own_AIIIIIIIIUU p0 p1 p2 p3 v6 v14 v21 v27) [(.int (5 : Int32)), (.int v27)]) t := by
                intro t k
                show own_S p e below s₁ (mkF m 163 (own_AIIIIIIIIUU p0 p1 p2 p3 v6 v14 v21 v27) [(.int (5 : Int32)), (.int v27)]) _
                refine XS.icmpYes X0.here hx rfl (pc0 := 163) (pc' := 176) rfl (hb hby at_163) rfl (feq hc163).2 (by decide) (by decide) ?_
                show own_S p e below s₁ (mkF m 176 (own_AIIIIIIIIUU p0 p1 p2 p3 v6 v14 v21 v27) []) _
                refine XS.iload X0.here hx rfl (hb hby at_176) rfl ?_
                show own_S p e below s₁ (mkF m 178 (own_AIIIIIIIIUU p0 p1 p2 p3 v6 v14 v21 v27) [(.int v27)]) _
                refine XS.bipush X0.here hx rfl (hb hby at_178) ?_
                exact k
              refine own_by sg180 ?_
              by_cases hc180 : v27 = (6 : Int32)
              · have sg183 : ∀ t, own_S p e below s₁ (mkF m 183 (own_AIIIIIIIIUU p0 p1 p2 p3 v6 v14 v21 v27) []) t → own_S p e below s₁ (mkF m 180 (own_AIIIIIIIIUU p0 p1 p2 p3 v6 v14 v21 v27) [(.int (6 : Int32)), (.int v27)]) t := by
                  intro t k
                  show own_S p e below s₁ (mkF m 180 (own_AIIIIIIIIUU p0 p1 p2 p3 v6 v14 v21 v27) [(.int (6 : Int32)), (.int v27)]) _
                  refine XS.icmpNo X0.here hx rfl (hb hby at_180) rfl (teq hc180).2 ?_
                  exact k
                refine own_by sg183 ?_
                obtain ⟨T183, h183, X183, e183, E183, A183, D183, -, st183⟩ := newO X0 hx hZ hown (hw _ (List.mem_of_getElem? (i := 0) rfl)) (hw _ (List.mem_of_getElem? (i := 1) rfl)) (hw _ (List.mem_of_getElem? (i := 2) rfl)) e0 (g := (mkF m 183 (own_AIIIIIIIIUU p0 p1 p2 p3 v6 v14 v21 v27) [])) rfl (hb hby at_183) (by decide) (by decide)
                obtain ⟨b183, g183⟩ : ∃ z, z = h0.size := ⟨_, rfl⟩
                rw [← g183] at A183 D183 st183
                have g_b183 : n0 ≤ b183 := Nat.le_trans Z0 (Nat.le_of_eq g183.symm)
                have sz_b183 : h0.size ≤ b183 := Nat.le_trans K0.1 (Nat.le_of_eq g183.symm)
                have K183 := K0.ext E183
                have Z183 : n0 ≤ h183.size := Nat.le_trans Z0 E183.1
                have CC183 := CHr.ext E183 hH0
                have CR183 := (CHr.refl hH0).trans CC183
                have F_coder_b183 : Fld Z h183 b183 "java/lang/String" "coder" "B" (.int (0 : Int32)) := D183 (Or.inr (hw _ (List.mem_of_getElem? (i := 31) rfl))) (ty := .byte) (by decide)
                have F_value_b183 : Fld Z h183 b183 "java/lang/String" "value" "[B" .null := D183 (Or.inr (hw _ (List.mem_of_getElem? (i := 33) rfl))) (ty := (.array .byte)) (by decide)
                refine own_by st183 ?_
                have sg188 : ∀ t, own_S p e below T183 (mkF m 188 (own_AIIIIIIIIUU p0 p1 p2 p3 v6 v14 v21 v27) [(.int (2 : Int32)), (.ref b183), (.ref b183)]) t → own_S p e below T183 (mkF m 186 (own_AIIIIIIIIUU p0 p1 p2 p3 v6 v14 v21 v27) [(.ref b183)]) t := by
                  intro t k
                  show own_S p e below T183 (mkF m 186 (own_AIIIIIIIIUU p0 p1 p2 p3 v6 v14 v21 v27) [(.ref b183)]) _
                  refine XS.dup X183.here hx rfl (hb hby at_186) rfl rfl ?_
                  show own_S p e below T183 (mkF m 187 (own_AIIIIIIIIUU p0 p1 p2 p3 v6 v14 v21 v27) [(.ref b183), (.ref b183)]) _
                  refine XS.iconst X183.here hx rfl (hb hby at_187) ?_
                  exact k
                refine own_by sg188 ?_
                obtain ⟨T188, h188, kc188, X188, e188, E188, A188, st188⟩ := newP X183 hx hZ (hw _ (List.mem_of_getElem? (i := 7) rfl)) e183 (g := (mkF m 188 (own_AIIIIIIIIUU p0 p1 p2 p3 v6 v14 v21 v27) [(.int (2 : Int32)), (.ref b183), (.ref b183)])) rfl (hb hby at_188) rfl (by decide) (cap := 2) (by decide) (by decide) (by decide) (by decide)
                obtain ⟨b188, g188⟩ : ∃ z, z = h183.size := ⟨_, rfl⟩
                rw [← g188] at A188 st188
                have ne_b183_b188 : b183 ≠ b188 := Nat.ne_of_lt (Nat.lt_of_lt_of_le A183.lt (Nat.le_of_eq g188.symm))
                have g_b188 : n0 ≤ b188 := Nat.le_trans Z183 (Nat.le_of_eq g188.symm)
                have sz_b188 : h0.size ≤ b188 := Nat.le_trans K183.1 (Nat.le_of_eq g188.symm)
                have K188 := K183.ext E188
                have Z188 : n0 ≤ h188.size := Nat.le_trans Z183 E188.1
                have CC188 := CHr.ext E188 CC183.1
                have CR188 := CR183.trans CC188
                have V188 : Arv Z h188 b188 kc188 .char (2 : Int32) [(.int (0 : Int32)), (.int (0 : Int32))] (.int (0 : Int32)) := (Arv.new A188 (by decide)).pad (pad_rep [] (.int (0 : Int32)) 2)
                refine own_by st188 ?_
                have sg194 : ∀ t, own_S p e below T188 (mkF m 194 (own_AIIIIIIIIUU p0 p1 p2 p3 v6 v14 v21 v27) [(.int v6), (.int (0 : Int32)), (.ref b188), (.ref b188), (.ref b183), (.ref b183)]) t → own_S p e below T188 (mkF m 190 (own_AIIIIIIIIUU p0 p1 p2 p3 v6 v14 v21 v27) [(.ref b188), (.ref b183), (.ref b183)]) t := by
                  intro t k
                  show own_S p e below T188 (mkF m 190 (own_AIIIIIIIIUU p0 p1 p2 p3 v6 v14 v21 v27) [(.ref b188), (.ref b183), (.ref b183)]) _
                  refine XS.dup X188.here hx rfl (hb hby at_190) rfl rfl ?_
                  show own_S p e below T188 (mkF m 191 (own_AIIIIIIIIUU p0 p1 p2 p3 v6 v14 v21 v27) [(.ref b188), (.ref b188), (.ref b183), (.ref b183)]) _
                  refine XS.iconst X188.here hx rfl (hb hby at_191) ?_
                  show own_S p e below T188 (mkF m 192 (own_AIIIIIIIIUU p0 p1 p2 p3 v6 v14 v21 v27) [(.int (0 : Int32)), (.ref b188), (.ref b188), (.ref b183), (.ref b183)]) _
                  refine XS.iload X188.here hx rfl (hb hby at_192) rfl ?_
                  exact k
                refine own_by sg194 ?_
                obtain ⟨cl194, Ar194, qa194, Sa194, Na194, Ha194, Ga194⟩ := id V188
                obtain ⟨T194, h194, X194, e194, W194, st194⟩ := stC X188 hx hZ e188 Ar194 (j := (0 : Int32)) (inb_of Sa194 ⟨by decide, by decide⟩) (g := (mkF m 194 (own_AIIIIIIIIUU p0 p1 p2 p3 v6 v14 v21 v27) [(.int v6), (.int (0 : Int32)), (.ref b188), (.ref b188), (.ref b183), (.ref b183)])) rfl rfl (hb hby at_194)
                have V194 : Arv Z h194 b188 kc188 .char (2 : Int32) [(.int v6), (.int (0 : Int32))] (.int (0 : Int32)) := by
                  have q := Arv.set Ar194 qa194 Sa194 Na194 Ha194 Ga194 (fits_nar_char _) W194 0 rfl (Nat.le_of_ble_eq_true rfl)
                  rw [own_narc hk_v6] at q
                  exact q
                have K194 : Keep h0 h194 [] := K188.wr W194 (Or.inr sz_b188)
                have Z194 : n0 ≤ h194.size := Nat.le_trans Z188 (Keep.of_wr W194).1
                have CC194 := CHr.wr W194 (Safe.arv hZ.alike V188 (by decide)) CC188.1
                have CR194 := CR188.trans CC194
                have N194 := Fr.snoc X194 N0 g_b188
                refine own_by st194 ?_
                have sg199 : ∀ t, own_S p e below T194 (mkF m 199 (own_AIIIIIIIIUU p0 p1 p2 p3 v6 v14 v21 v27) [(.int v14), (.int (1 : Int32)), (.ref b188), (.ref b188), (.ref b183), (.ref b183)]) t → own_S p e below T194 (mkF m 195 (own_AIIIIIIIIUU p0 p1 p2 p3 v6 v14 v21 v27) [(.ref b188), (.ref b183), (.ref b183)]) t := by
                  intro t k
                  show own_S p e below T194 (mkF m 195 (own_AIIIIIIIIUU p0 p1 p2 p3 v6 v14 v21 v27) [(.ref b188), (.ref b183), (.ref b183)]) _
                  refine XS.dup X194.here hx rfl (hb hby at_195) rfl rfl ?_
                  show own_S p e below T194 (mkF m 196 (own_AIIIIIIIIUU p0 p1 p2 p3 v6 v14 v21 v27) [(.ref b188), (.ref b188), (.ref b183), (.ref b183)]) _
                  refine XS.iconst X194.here hx rfl (hb hby at_196) ?_
                  show own_S p e below T194 (mkF m 197 (own_AIIIIIIIIUU p0 p1 p2 p3 v6 v14 v21 v27) [(.int (1 : Int32)), (.ref b188), (.ref b188), (.ref b183), (.ref b183)]) _
                  refine XS.iload X194.here hx rfl (hb hby at_197) rfl ?_
                  exact k
                refine own_by sg199 ?_
                obtain ⟨cl199, Ar199, qa199, Sa199, Na199, Ha199, Ga199⟩ := id V194
                obtain ⟨T199, h199, X199, e199, W199, st199⟩ := stC X194 hx hZ e194 Ar199 (j := (1 : Int32)) (inb_of Sa199 ⟨by decide, by decide⟩) (g := (mkF m 199 (own_AIIIIIIIIUU p0 p1 p2 p3 v6 v14 v21 v27) [(.int v14), (.int (1 : Int32)), (.ref b188), (.ref b188), (.ref b183), (.ref b183)])) rfl rfl (hb hby at_199)
                have V199 : Arv Z h199 b188 kc188 .char (2 : Int32) [(.int v6), (.int v14)] (.int (0 : Int32)) := by
                  have q := Arv.set Ar199 qa199 Sa199 Na199 Ha199 Ga199 (fits_nar_char _) W199 1 rfl (Nat.le_of_ble_eq_true rfl)
                  rw [own_narc hk_v14] at q
                  exact q
                have fc := (((F_coder_b183.ext E188).other W194 (Or.inl ne_b183_b188)).other W199 (Or.inl ne_b183_b188))
                have fc_2 := (((F_value_b183.ext E188).other W194 (Or.inl ne_b183_b188)).other W199 (Or.inl ne_b183_b188))
                have K199 : Keep h0 h199 [] := K194.wr W199 (Or.inr sz_b188)
                have Z199 : n0 ≤ h199.size := Nat.le_trans Z194 (Keep.of_wr W199).1
                have CC199 := CHr.wr W199 (Safe.arv hZ.alike V194 (by decide)) CC194.1
                have CR199 := CR194.trans CC199
                have N199 := Fr.snoc X199 N194 g_b188
                refine own_by st199 ?_
                have hp200 : ∀ c ∈ ([v6, v14] : List Int32), ¬ c < 0 ∧ ¬ (255 : Int32) < c := by
                  intro c hc
                  simp only [List.mem_cons, List.not_mem_nil, or_false] at hc
                  rcases hc with rfl | rfl
                  · exact hk_v6
                  · exact hk_v14
                obtain ⟨_, _, ⟨T200, L200, k200, n200⟩, -, X200, ⟨Lc200, hQ200, l200, y200, z200⟩, st200⟩ := X199.specialBack hx (y := (⟨"java/lang/String", "<init>", "([C)V"⟩ : MethodName)) rfl hown (mvT hZ (hw _ (List.mem_of_getElem? (i := 8) rfl))) (mvT hZ (hw _ (List.mem_of_getElem? (i := 9) rfl))) (mvT hZ (hw _ (List.mem_of_getElem? (i := 10) rfl))) (by decide) (StrChars.Road.backV (W := 1) hZ hws (kI := 4) (hw _ (List.mem_of_getElem? (i := 1) rfl)) (cs := ([v6, v14] : List Int32)) (bs := ([v6, v14] : List Int32).map (fun c => c.toInt8.toInt32)) (n := 2) g_b183 Z199 (((A183.ext E188).wr W194).wr W199) fc_2 fc V199 (O2.ext ((((O.ext E183).ext E188).wr W194 g_b188).wr W199 g_b188).2) P5 rfl rfl (by decide) (by decide) hp200 rfl (by decide) (by decide)) (g := (mkF m 200 (own_AIIIIIIIIUU p0 p1 p2 p3 v6 v14 v21 v27) [(.ref b188), (.ref b183), (.ref b183)])) rfl (by rw [hml]; rfl) (Steps.refl _) (a := b183) (argsL := [(.ref b188)]) (rest := [(.ref b183)]) (lenOf pd_0_1 rfl) rfl (by show 2 * 0 + _ ≤ _; exact Nat.le_of_eq rfl) (hb hby at_200) (fun _ _ => ⟨rfl, e199, (by decide : 2 + 1 ≤ _), (by decide : 6 + 2 ≤ _)⟩)
                dsimp only [Pt.U, Pt.locs, Pt.cells, Pt.slots] at X200 l200 y200 z200 st200 hQ200
                subst l200 y200 z200
                obtain ⟨rfl, N200q, Kq200, Eq200, Cq200, t200, kb200, u1200, u2200, u3200, Vq200, Aq200⟩ := hQ200
                have N200 := Fr.app N199 N200q
                have ne_b183_t200 : b183 ≠ t200 := Nat.ne_of_lt (Nat.lt_of_lt_of_le (((A183.ext E188).wr W194).wr W199).lt u2200)
                have ne_b188_t200 : b188 ≠ t200 := Nat.ne_of_lt (Nat.lt_of_lt_of_le V199.lt u2200)
                have g_t200 : n0 ≤ t200 := Nat.le_trans Z199 u2200
                have sz_t200 : h0.size ≤ t200 := Nat.le_trans K199.1 u2200
                have fc_3 := (V199.keep Kq200 (fun h => (Ne.symm ne_b183_b188) (List.mem_singleton.mp h)))
                have K200 : Keep h0 T200.heap [] := K199.trans Kq200 (fun x hx => by cases List.mem_singleton.mp hx; exact Or.inr sz_b183)
                have Z200 : n0 ≤ T200.heap.size := Nat.le_trans Z199 Kq200.1
                have CC200 := CHr.keep Kq200 (sfS (own_safe0 hZ.alike (((A183.ext E188).wr W194).wr W199) fc_2 (hw _ (List.mem_of_getElem? (i := 1) rfl))) sf0) CC199.1
                have CR200 := CR199.trans CC200
                refine own_by (fun t k => st200.trans k) ?_
                have sg213 : ∀ t, own_S p e below T200 (mkF m 213 (own_AIIIIIIIIRU p0 p1 p2 p3 v6 v14 v21 v27 b183) [(.ref b183)]) t → own_S p e below T200 (mkF m 203 (own_AIIIIIIIIUU p0 p1 p2 p3 v6 v14 v21 v27) [(.ref b183)]) t := by
                  intro t k
                  show own_S p e below T200 (mkF m 203 (own_AIIIIIIIIUU p0 p1 p2 p3 v6 v14 v21 v27) [(.ref b183)]) _
                  refine XS.astore X200.here hx rfl (hb hby at_203) rfl rfl (l' := (own_AIIIIIIIIRU p0 p1 p2 p3 v6 v14 v21 v27 b183)) rfl ?_
                  show own_S p e below T200 (mkF m 205 (own_AIIIIIIIIRU p0 p1 p2 p3 v6 v14 v21 v27 b183) []) _
                  refine XS.goto X200.here hx rfl (pc0 := 205) (pc' := 211) rfl (hb hby at_205) (by decide) (by decide) ?_
                  show own_S p e below T200 (mkF m 211 (own_AIIIIIIIIRU p0 p1 p2 p3 v6 v14 v21 v27 b183) []) _
                  refine XS.aload X200.here hx rfl (hb hby at_211) rfl rfl ?_
                  exact k
                refine own_by sg213 ?_
                obtain ⟨_, _, ⟨T213, L213, k213, n213⟩, -, X213, ⟨Lc213, hQ213, l213, y213, z213⟩, st213⟩ := Jvm.LawKit.callS X200 hx (y := (⟨"com/example/spojka/spojka/AutowireMode", "named", "(Ljava/lang/String;)Lcom/example/spojka/spojka/AutowireMode;"⟩ : MethodName)) hown (mvT hZ (hw _ (List.mem_of_getElem? (i := 34) rfl))) (mvT hZ (hw _ (List.mem_of_getElem? (i := 35) rfl))) (mvT hZ (hw _ (List.mem_of_getElem? (i := 36) rfl))) (mvT hZ (hw _ (List.mem_of_getElem? (i := 37) rfl))) (by decide) (backOf (W := 0) (rm8 l Z a0 hw [] b183 ([v6, v14] : List Int32) wV cl wNO wBY_NAME wBY_TYPE wCONSTRUCTOR sNO sBY_NAME sBY_TYPE sCONSTRUCTOR gz T200.heap n0 Z200 (((((O.ext E183).ext E188).wr W194 g_b188).wr W199 g_b188).keep Kq200 (allS g_b183 all0)) O2 P5 S_V Ar_V E_V FC hsz hat0 hat1 hat2 hat3 FV_NO FV_BY_NAME FV_BY_TYPE FV_CONSTRUCTOR EX_NO EX_BY_NAME EX_BY_TYPE EX_CONSTRUCTOR Str_NO Str_BY_NAME Str_BY_TYPE Str_CONSTRUCTOR (⟨t200, kb200, 0, (2 : Int32), _, Eq200, Vq200, Cq200, Aq200, StrChars.Road.codOf (n := 2) rfl (fun x hx => (hp200 x hx).2), own_up _ hp200, Nat.le_of_ble_eq_true rfl⟩ : own_Str Z T200.heap b183 ([v6, v14] : List Int32))) hZ (hw _ (List.mem_of_getElem? (i := 37) rfl)) (hw _ (List.mem_of_getElem? (i := 36) rfl)) (by decide) (by decide)) (g := (mkF m 213 (own_AIIIIIIIIRU p0 p1 p2 p3 v6 v14 v21 v27 b183) [(.ref b183)])) rfl (by rw [hml]; rfl) (argsL := [(.ref b183)]) (rest := []) (lenOf pd_0_2 rfl) rfl (by show 2 * 0 + _ ≤ _; exact Nat.le_of_eq rfl) (hb hby at_213) (fun _ _ => ⟨rfl, rfl, (by decide : 3 + 1 ≤ _), (by decide : 8 + 4 ≤ _)⟩)
                dsimp only [Pt.U, Pt.locs, Pt.cells, Pt.slots] at X213 l213 y213 z213 st213 hQ213
                subst l213 y213 z213
                obtain ⟨rfl, N213q, Kq213⟩ := hQ213
                have N213 := Fr.app N200 N213q
                have K213 : Keep h0 T213.heap [] := K200.trans Kq213 (fun x hx => nomatch hx)
                have Z213 : n0 ≤ T213.heap.size := Nat.le_trans Z200 Kq213.1
                have CC213 := CHr.keep Kq213 sf0 CC200.1
                have CR213 := CR200.trans CC213
                obtain ⟨g213, hg213⟩ : ∃ z : Value, z = (if ([(110 : Int32), (111 : Int32)] : List Int32) = ([v6, v14] : List Int32) then Value.ref wNO else (if ([(98 : Int32), (121 : Int32), (78 : Int32), (97 : Int32), (109 : Int32), (101 : Int32)] : List Int32) = ([v6, v14] : List Int32) then Value.ref wBY_NAME else (if ([(98 : Int32), (121 : Int32), (84 : Int32), (121 : Int32), (112 : Int32), (101 : Int32)] : List Int32) = ([v6, v14] : List Int32) then Value.ref wBY_TYPE else (if ([(99 : Int32), (111 : Int32), (110 : Int32), (115 : Int32), (116 : Int32), (114 : Int32), (117 : Int32), (99 : Int32), (116 : Int32), (111 : Int32), (114 : Int32)] : List Int32) = ([v6, v14] : List Int32) then Value.ref wCONSTRUCTOR else Value.null)))) := ⟨_, rfl⟩
                rw [← hg213] at st213
                have hgr213 : g213.isRef = true := by rw [hg213]; repeat' (first | rfl | (refine own_isr rfl ?_))
                refine own_by st213 ?_
                have sg222 : ∀ t, own_S p e below T213 (mkF m 222 (own_AIIIIIIIIRV p0 p1 p2 p3 v6 v14 v21 v27 b183 g213) [(.ref b183), g213]) t → own_S p e below T213 (mkF m 216 (own_AIIIIIIIIRU p0 p1 p2 p3 v6 v14 v21 v27 b183) [g213]) t := by
                  intro t k
                  show own_S p e below T213 (mkF m 216 (own_AIIIIIIIIRU p0 p1 p2 p3 v6 v14 v21 v27 b183) [g213]) _
                  refine XS.astore X213.here hx rfl (hb hby at_216) rfl hgr213 (l' := (own_AIIIIIIIIRV p0 p1 p2 p3 v6 v14 v21 v27 b183 g213)) (by simp [storeLocals, storeSelf, setAt, own_cat1 hgr213, own_catr, own_catn]) ?_
                  show own_S p e below T213 (mkF m 218 (own_AIIIIIIIIRV p0 p1 p2 p3 v6 v14 v21 v27 b183 g213) []) _
                  refine XS.aload X213.here hx rfl (hb hby at_218) rfl hgr213 ?_
                  show own_S p e below T213 (mkF m 220 (own_AIIIIIIIIRV p0 p1 p2 p3 v6 v14 v21 v27 b183 g213) [g213]) _
                  refine XS.aload X213.here hx rfl (hb hby at_220) rfl rfl ?_
                  exact k
                refine own_by sg222 ?_
                obtain ⟨_, _, ⟨T222, L222, k222, n222⟩, -, Xc222, hSc222, hgc222, ⟨Lc222, hQ222, l222, y222, z222, hC222⟩, st222⟩ := callSS X213 hx (y := (⟨"com/example/spojka/spojka/AutowireModeNamedPinLaw", "expected", "(Ljava/lang/String;)Lcom/example/spojka/spojka/AutowireMode;"⟩ : MethodName)) hown (mvT hZ (hw _ (List.mem_of_getElem? (i := 69) rfl))) (mvT hZ (hw _ (List.mem_of_getElem? (i := 70) rfl))) (mvT hZ (hw _ (List.mem_of_getElem? (i := 5) rfl))) (mvT hZ (hw _ (List.mem_of_getElem? (i := 71) rfl))) (by decide) (backOfSH (W := 1) (rm12 l Z a0 hw [] b183 ([v6, v14] : List Int32) wNO wBY_NAME wBY_TYPE wCONSTRUCTOR gz T213.heap n0 Z213 ((((((O.ext E183).ext E188).wr W194 g_b188).wr W199 g_b188).keep Kq200 (allS g_b183 all0)).keep Kq213 all0) O2 P5 (⟨t200, kb200, 0, (2 : Int32), _, (Eq200.keep Kq213), (Vq200.keep Kq213 List.not_mem_nil), (Cq200.keep Kq213 List.not_mem_nil), (Aq200.keep Kq213 List.not_mem_nil), StrChars.Road.codOf (n := 2) rfl (fun x hx => (hp200 x hx).2), own_up _ hp200, Nat.le_of_ble_eq_true rfl⟩ : own_Str Z T213.heap b183 ([v6, v14] : List Int32)) S_NO S_BY_NAME S_BY_TYPE S_CONSTRUCTOR) hZ (hw _ (List.mem_of_getElem? (i := 71) rfl)) (hw _ (List.mem_of_getElem? (i := 5) rfl)) (by decide) (by decide) hEL CC213.1) (g := (mkF m 222 (own_AIIIIIIIIRV p0 p1 p2 p3 v6 v14 v21 v27 b183 g213) [(.ref b183), g213])) rfl (by rw [hml]; rfl) (argsL := [(.ref b183)]) (rest := [g213]) (lenOf pd_0_2 rfl) rfl (by show 2 * 0 + (List.map (fun v => Value.category v) [g213]).sum ≤ 1; simp [own_cat1 hgr213, own_catr, own_catn]) (hb hby at_222) (fun _ _ => ⟨rfl, rfl, (by decide : 4 + 8 ≤ _), (by decide : 12 + 116 ≤ _)⟩)
                dsimp only [Pt.U, Pt.locs, Pt.cells, Pt.slots] at Xc222 hSc222 hgc222
                obtain ⟨X222, hS222, hZ222, hown222⟩ := rebS hS0 (Nat.le_trans (Nat.le_trans (Nat.le_trans (Nat.le_trans (Nat.le_trans (Nat.le_trans (Nat.zero_le _) E183.1) E188.1) (Keep.of_wr W194).1) (Keep.of_wr W199).1) Kq200.1) Kq213.1) Xc222 hSc222 hgc222 hZ hown
                dsimp only [Pt.U, Pt.locs, Pt.cells, Pt.slots] at X222 l222 y222 z222 st222 hQ222
                subst l222 y222 z222
                obtain ⟨rfl, N222q, Kq222⟩ := hQ222
                have N222 := Fr.app N213 N222q
                have fc_4 := ((fc_3.keep Kq213 List.not_mem_nil).keep Kq222 List.not_mem_nil)
                have fc_5 := ((Cq200.keep Kq213 List.not_mem_nil).keep Kq222 List.not_mem_nil)
                have fc_6 := ((Vq200.keep Kq213 List.not_mem_nil).keep Kq222 List.not_mem_nil)
                have fc_7 := ((Aq200.keep Kq213 List.not_mem_nil).keep Kq222 List.not_mem_nil)
                have K222 : Keep h0 T222.heap [] := K213.trans Kq222 (fun x hx => nomatch hx)
                have Z222 : n0 ≤ T222.heap.size := Nat.le_trans Z213 Kq222.1
                rw [← hg213] at st222
                have CR222 := CR213.trans hC222
                refine own_by (fun t k => st222.trans k) ?_
                have sg233 : ∀ t, own_S p e below T222 (mkF m 233 (own_AIIIIIIIIRV p0 p1 p2 p3 v6 v14 v21 v27 b183 g213) [(.int (1 : Int32))]) t → own_S p e below T222 (mkF m 225 (own_AIIIIIIIIRV p0 p1 p2 p3 v6 v14 v21 v27 b183 g213) [g213, g213]) t := by
                  intro t k
                  show own_S p e below T222 (mkF m 225 (own_AIIIIIIIIRV p0 p1 p2 p3 v6 v14 v21 v27 b183 g213) [g213, g213]) _
                  refine Jvm.RoadKit.acmp (g := (mkF m 225 (own_AIIIIIIIIRV p0 p1 p2 p3 v6 v14 v21 v27 b183 g213) [g213, g213])) X222 hx rfl hgr213 hgr213 (pc0 := 225) (pc' := 228) (same := true) rfl (hb hby at_225) rfl (decide_eq_true (rfl : (g213 : Value) = g213)) (by decide) (by decide) ?_
                  show own_S p e below T222 (mkF m 228 (own_AIIIIIIIIRV p0 p1 p2 p3 v6 v14 v21 v27 b183 g213) []) _
                  refine XS.iconst X222.here hx rfl (hb hby at_228) ?_
                  show own_S p e below T222 (mkF m 229 (own_AIIIIIIIIRV p0 p1 p2 p3 v6 v14 v21 v27 b183 g213) [(.int (1 : Int32))]) _
                  refine XS.goto X222.here hx rfl (pc0 := 229) (pc' := 233) rfl (hb hby at_229) (by decide) (by decide) ?_
                  exact k
                refine own_by sg233 ?_
                obtain ⟨fs, hr, hrun, hended, hW⟩ := X222.leaveW hS222 (Nat.le_refl _) (v := some (.int (1 : Int32))) (fun h => by rw [Bd.returns] at h; cases h)
                refine ⟨_, _, ?_, hrun, hended, _, _, rfl, ?_, (by rw [hh]; show CHr Z consts_1 s.vm h0 T222.vm T222.heap; exact CR222.trans (CHv.at X222 hZ222 hEL hC222.1)), hW.1, hW.2.1, hW.2.2.1, hW.2.2.2.mono (by decide) (by decide)⟩
                · exact retN X222 hx (t := .boolean) Bd.returns (by simp) (hb hby at_233) hr
                · show Q0 Z p0 p1 p2 p3 wV cl wNO wBY_NAME wBY_TYPE wCONSTRUCTOR sNO sBY_NAME sBY_TYPE sCONSTRUCTOR gz h0 n0 _ T222.heap _
                  exact ⟨rfl, N222⟩
              · have sg213 : ∀ t, own_S p e below s₁ (mkF m 213 (own_AIIIIIIIINU p0 p1 p2 p3 v6 v14 v21 v27) [.null]) t → own_S p e below s₁ (mkF m 180 (own_AIIIIIIIIUU p0 p1 p2 p3 v6 v14 v21 v27) [(.int (6 : Int32)), (.int v27)]) t := by
                  intro t k
                  show own_S p e below s₁ (mkF m 180 (own_AIIIIIIIIUU p0 p1 p2 p3 v6 v14 v21 v27) [(.int (6 : Int32)), (.int v27)]) _
                  refine XS.icmpYes X0.here hx rfl (pc0 := 180) (pc' := 208) rfl (hb hby at_180) rfl (feq hc180).2 (by decide) (by decide) ?_
                  show own_S p e below s₁ (mkF m 208 (own_AIIIIIIIIUU p0 p1 p2 p3 v6 v14 v21 v27) []) _
                  refine XS.aconstNull X0.here hx rfl (hb hby at_208) ?_
                  show own_S p e below s₁ (mkF m 209 (own_AIIIIIIIIUU p0 p1 p2 p3 v6 v14 v21 v27) [.null]) _
                  refine XS.astore X0.here hx rfl (hb hby at_209) rfl rfl (l' := (own_AIIIIIIIINU p0 p1 p2 p3 v6 v14 v21 v27)) rfl ?_
                  show own_S p e below s₁ (mkF m 211 (own_AIIIIIIIINU p0 p1 p2 p3 v6 v14 v21 v27) []) _
                  refine XS.aload X0.here hx rfl (hb hby at_211) rfl rfl ?_
                  exact k
                refine own_by sg213 ?_
                obtain ⟨_, _, ⟨T213, L213, k213, n213⟩, -, X213, ⟨Lc213, hQ213, l213, y213, z213⟩, st213⟩ := Jvm.LawKit.callS X0 hx (y := (⟨"com/example/spojka/spojka/AutowireMode", "named", "(Ljava/lang/String;)Lcom/example/spojka/spojka/AutowireMode;"⟩ : MethodName)) hown (mvT hZ (hw _ (List.mem_of_getElem? (i := 34) rfl))) (mvT hZ (hw _ (List.mem_of_getElem? (i := 35) rfl))) (mvT hZ (hw _ (List.mem_of_getElem? (i := 36) rfl))) (mvT hZ (hw _ (List.mem_of_getElem? (i := 37) rfl))) (by decide) (backOf (W := 0) (rm8n l Z a0 hw [] wV cl wNO wBY_NAME wBY_TYPE wCONSTRUCTOR sNO sBY_NAME sBY_TYPE sCONSTRUCTOR gz h0 n0 Z0 O O2 P5 S_V Ar_V E_V FC hsz hat0 hat1 hat2 hat3 FV_NO FV_BY_NAME FV_BY_TYPE FV_CONSTRUCTOR EX_NO EX_BY_NAME EX_BY_TYPE EX_CONSTRUCTOR Str_NO Str_BY_NAME Str_BY_TYPE Str_CONSTRUCTOR) hZ (hw _ (List.mem_of_getElem? (i := 37) rfl)) (hw _ (List.mem_of_getElem? (i := 36) rfl)) (by decide) (by decide)) (g := (mkF m 213 (own_AIIIIIIIINU p0 p1 p2 p3 v6 v14 v21 v27) [.null])) rfl (by rw [hml]; rfl) (argsL := [.null]) (rest := []) (lenOf pd_0_2 rfl) rfl (by show 2 * 0 + _ ≤ _; exact Nat.le_of_eq rfl) (hb hby at_213) (fun _ _ => ⟨rfl, e0, (by decide : 0 + 1 ≤ _), (by decide : 0 + 4 ≤ _)⟩)
                dsimp only [Pt.U, Pt.locs, Pt.cells, Pt.slots] at X213 l213 y213 z213 st213 hQ213
                subst l213 y213 z213
                obtain ⟨rfl, N213q, Kq213⟩ := hQ213
                have N213 := Fr.app N0 N213q
                have K213 : Keep h0 T213.heap [] := K0.trans Kq213 (fun x hx => nomatch hx)
                have Z213 : n0 ≤ T213.heap.size := Nat.le_trans Z0 Kq213.1
                have CC213 := CHr.keep Kq213 sf0 hH0
                have CR213 := (CHr.refl hH0).trans CC213
                refine own_by st213 ?_
                have sg222 : ∀ t, own_S p e below T213 (mkF m 222 (own_AIIIIIIIINN p0 p1 p2 p3 v6 v14 v21 v27) [.null, .null]) t → own_S p e below T213 (mkF m 216 (own_AIIIIIIIINU p0 p1 p2 p3 v6 v14 v21 v27) [.null]) t := by
                  intro t k
                  show own_S p e below T213 (mkF m 216 (own_AIIIIIIIINU p0 p1 p2 p3 v6 v14 v21 v27) [.null]) _
                  refine XS.astore X213.here hx rfl (hb hby at_216) rfl rfl (l' := (own_AIIIIIIIINN p0 p1 p2 p3 v6 v14 v21 v27)) rfl ?_
                  show own_S p e below T213 (mkF m 218 (own_AIIIIIIIINN p0 p1 p2 p3 v6 v14 v21 v27) []) _
                  refine XS.aload X213.here hx rfl (hb hby at_218) rfl rfl ?_
                  show own_S p e below T213 (mkF m 220 (own_AIIIIIIIINN p0 p1 p2 p3 v6 v14 v21 v27) [.null]) _
                  refine XS.aload X213.here hx rfl (hb hby at_220) rfl rfl ?_
                  exact k
                refine own_by sg222 ?_
                obtain ⟨_, _, ⟨T222, L222, k222, n222⟩, -, X222, ⟨Lc222, hQ222, l222, y222, z222⟩, st222⟩ := Jvm.LawKit.callS X213 hx (y := (⟨"com/example/spojka/spojka/AutowireModeNamedPinLaw", "expected", "(Ljava/lang/String;)Lcom/example/spojka/spojka/AutowireMode;"⟩ : MethodName)) hown (mvT hZ (hw _ (List.mem_of_getElem? (i := 69) rfl))) (mvT hZ (hw _ (List.mem_of_getElem? (i := 70) rfl))) (mvT hZ (hw _ (List.mem_of_getElem? (i := 5) rfl))) (mvT hZ (hw _ (List.mem_of_getElem? (i := 71) rfl))) (by decide) (backOf (W := 1) (rm12n l Z a0 hw [] T213.heap n0 Z213) hZ (hw _ (List.mem_of_getElem? (i := 71) rfl)) (hw _ (List.mem_of_getElem? (i := 5) rfl)) (by decide) (by decide)) (g := (mkF m 222 (own_AIIIIIIIINN p0 p1 p2 p3 v6 v14 v21 v27) [.null, .null])) rfl (by rw [hml]; rfl) (argsL := [.null]) (rest := [.null]) (lenOf pd_0_2 rfl) rfl (by show 2 * 0 + _ ≤ _; exact Nat.le_of_eq rfl) (hb hby at_222) (fun _ _ => ⟨rfl, rfl, (by decide : 1 + 0 ≤ _), (by decide : 4 + 0 ≤ _)⟩)
                dsimp only [Pt.U, Pt.locs, Pt.cells, Pt.slots] at X222 l222 y222 z222 st222 hQ222
                subst l222 y222 z222
                obtain ⟨rfl, N222q, hq222⟩ := hQ222
                have N222 := Fr.app N213 N222q
                refine own_by st222 ?_
                have sg233 : ∀ t, own_S p e below T222 (mkF m 233 (own_AIIIIIIIINN p0 p1 p2 p3 v6 v14 v21 v27) [(.int (1 : Int32))]) t → own_S p e below T222 (mkF m 225 (own_AIIIIIIIINN p0 p1 p2 p3 v6 v14 v21 v27) [.null, .null]) t := by
                  intro t k
                  show own_S p e below T222 (mkF m 225 (own_AIIIIIIIINN p0 p1 p2 p3 v6 v14 v21 v27) [.null, .null]) _
                  refine Jvm.RoadKit.acmp (g := (mkF m 225 (own_AIIIIIIIINN p0 p1 p2 p3 v6 v14 v21 v27) [.null, .null])) X222 hx rfl rfl rfl (pc0 := 225) (pc' := 228) (same := true) rfl (hb hby at_225) rfl (decide_eq_true (rfl : (.null : Value) = .null)) (by decide) (by decide) ?_
                  show own_S p e below T222 (mkF m 228 (own_AIIIIIIIINN p0 p1 p2 p3 v6 v14 v21 v27) []) _
                  refine XS.iconst X222.here hx rfl (hb hby at_228) ?_
                  show own_S p e below T222 (mkF m 229 (own_AIIIIIIIINN p0 p1 p2 p3 v6 v14 v21 v27) [(.int (1 : Int32))]) _
                  refine XS.goto X222.here hx rfl (pc0 := 229) (pc' := 233) rfl (hb hby at_229) (by decide) (by decide) ?_
                  exact k
                refine own_by sg233 ?_
                obtain ⟨fs, hr, hrun, hended, hW⟩ := X222.leaveW hS0 (by rw [hq222]; exact (Nat.le_trans (Nat.zero_le _) Kq213.1)) (v := some (.int (1 : Int32))) (fun h => by rw [Bd.returns] at h; cases h)
                refine ⟨_, _, ?_, hrun, hended, _, _, rfl, ?_, (by rw [hh]; show CHr Z consts_1 s.vm h0 T222.vm T222.heap; rw [hq222]; exact CR213.trans (CHv.at X222 hZ hEL CC213.1)), hW.1, hW.2.1, hW.2.2.1, hW.2.2.2.mono (by decide) (by decide)⟩
                · exact retN X222 hx (t := .boolean) Bd.returns (by simp) (hb hby at_233) hr
                · show Q0 Z p0 p1 p2 p3 wV cl wNO wBY_NAME wBY_TYPE wCONSTRUCTOR sNO sBY_NAME sBY_TYPE sCONSTRUCTOR gz h0 n0 _ T222.heap _
                  rw [hq222]
                  exact ⟨rfl, N222⟩
set_option maxRecDepth 65536 in
set_option maxHeartbeats 40000000 in
theorem comes_1 {Post : Tables → Env → Array Value → State → Outcome → State → Prop} (hpost : ∀ tb e args s v u, (limb_1_1.after args s (.returned v) u = true ∧ limb_1_2.after args s (.returned v) u = true ∧ True) → ReturnedEndW s (.returned v) u (Jvm.fieldLocs frame_1_writes args s ++ Jvm.arrayLocs frame_1_arrays args s ++ Jvm.staticLocs frame_1_statics s) 32 5312 → Post tb e args s (.returned v) u) :
    ArmFor flags0 classFile x code maxLocals ret World_1 tables_1 room_1 Calls_1 rest_1 Pre_1 Post := by
  intro l hfl _ _ p e ha hc hk s m args below hf hA hF happ hP
  obtain ⟨hcalls, hrest, hpre⟩ := hP
  obtain ⟨-, -, -, hnamed, -, -, -, hat⟩ := (Spec.applies_iff hf).mp happ
  obtain ⟨hg, nn⟩ := and_e (Cond.before_iff.mp (show (Jvm.Cond.and given_1 narrow_1).before args s = true from hpre))
  obtain ⟨hh0, hh1⟩ := and_e hg
  obtain ⟨hh2, hh3⟩ := and_e hh1
  obtain ⟨hh4, hh5⟩ := and_e hh3
  obtain ⟨hh6, hh7⟩ := and_e hh5
  obtain ⟨w0, w1, w2, w3, rfl⟩ : ∃ w0 w1 w2 w3 : Value, args = #[w0, w1, w2, w3] := by
    have hs : args.size = 4 := by simpa [Cond.value, given_1] using hh0
    obtain ⟨L⟩ := args
    match L, hs with
    | [w0, w1, w2, w3], _ => exact ⟨w0, w1, w2, w3, rfl⟩
  have hw := fun d (hd : d ∈ tables_1) => atoms_spec (ws := Jvm.Cond.code x code maxLocals ret :: tables_1) hat d (List.mem_cons_of_mem _ hd)
  have hfit : Fit s := fun {y c} hc i hi => by
    obtain ⟨ha, rfl⟩ := Array.getElem?_eq_some_iff.mp hc
    have q := List.all_eq_true.mp ((Array.all_eq_true_iff_forall_mem.mp hF) _ (Array.getElem_mem ha)) i (List.mem_range.mpr hi)
    simpa [Array.getElem?_eq_getElem hi] using q
  obtain ⟨hsets, hown0⟩ := atoms_of _ (rest_1_c_eq ▸ (show rest_1_c.before _ s = true from hrest))
  have hr0 := Cond.before_iff.mp hown0
  obtain ⟨gz, ez⟩ := is_v (Cond.before_iff.mp (hsets _ (List.mem_of_getElem? (i := 1) rfl)))
  have Sz : Sta s s.heap "java/lang/String" "COMPACT_STRINGS" "Z" (.int gz) := Sta.start ez (Or.inl (hsets _ (List.mem_of_getElem? (i := 0) rfl)))
  have cz : ¬ (gz = (0 : Int32)) := gotF (Cond.eq_ints ez (Term.int_eval (0))) (not_v (Cond.before_iff.mp (hsets _ (List.mem_of_getElem? (i := 2) rfl))))
  obtain ⟨gf, ef, rf⟩ := isR_v (Cond.before_iff.mp (hsets _ (List.mem_of_getElem? (i := 8) rfl)))
  have Sf : Sta s s.heap "jdk/internal/util/Preconditions" "SIOOBE_FORMATTER" "Ljava/util/function/BiFunction;" gf := Sta.start ef (Or.inl (hsets _ (List.mem_of_getElem? (i := 7) rfl)))
  obtain ⟨i0, ei0⟩ := is_v hh2
  obtain rfl : w0 = (.int i0) := Option.some.inj ei0
  obtain ⟨i1, ei1⟩ := is_v hh4
  obtain rfl : w1 = (.int i1) := Option.some.inj ei1
  obtain ⟨i2, ei2⟩ := is_v hh6
  obtain rfl : w2 = (.int i2) := Option.some.inj ei2
  obtain ⟨i3, ei3⟩ := is_v hh7
  obtain rfl : w3 = (.int i3) := Option.some.inj ei3
  obtain ⟨nn0, nn1⟩ := and_e nn
  obtain ⟨nn2, nn3⟩ := and_e nn1
  obtain ⟨nn4, nn5⟩ := and_e nn3
  obtain ⟨nn6, nn7⟩ := and_e nn5
  obtain ⟨nn8, nn9⟩ := and_e nn7
  obtain ⟨nn10, nn11⟩ := and_e nn9
  obtain ⟨nn12, nn13⟩ := and_e nn11
  obtain ⟨nn14, nn15⟩ := and_e nn13
  obtain ⟨nn16, nn17⟩ := and_e nn15
  obtain ⟨nn18, nn19⟩ := and_e nn17
  obtain ⟨nn20, nn21⟩ := and_e nn19
  obtain ⟨nn22, nn23⟩ := and_e nn21
  obtain ⟨nn24, nn25⟩ := and_e nn23
  obtain ⟨nn26, nn27⟩ := and_e nn25
  obtain ⟨nn28, nn29⟩ := and_e nn27
  obtain ⟨nn30, nn31⟩ := and_e nn29
  obtain ⟨nn32, nn33⟩ := and_e nn31
  obtain ⟨nn34, nn35⟩ := and_e nn33
  obtain ⟨nn36, nn37⟩ := and_e nn35
  obtain ⟨nn38, nn39⟩ := and_e nn37
  obtain ⟨nn40, nn41⟩ := and_e nn39
  obtain ⟨nn42, nn43⟩ := and_e nn41
  obtain ⟨nn44, nn45⟩ := and_e nn43
  obtain ⟨nn46, nn47⟩ := and_e nn45
  obtain ⟨nn48, nn49⟩ := and_e nn47
  obtain ⟨nn50, nn51⟩ := and_e nn49
  obtain ⟨nn52, nn53⟩ := and_e nn51
  obtain ⟨nn54, nn55⟩ := and_e nn53
  obtain ⟨nn56, nn57⟩ := and_e nn55
  obtain ⟨nn58, nn59⟩ := and_e nn57
  obtain ⟨nn60, nn61⟩ := and_e nn59
  obtain ⟨nn62, nn63⟩ := and_e nn61
  obtain ⟨nn64, nn65⟩ := and_e nn63
  obtain ⟨nn66, nn67⟩ := and_e nn65
  obtain ⟨nn68, nn69⟩ := and_e nn67
  obtain ⟨nn70, nn71⟩ := and_e nn69
  obtain ⟨nn72, nn73⟩ := and_e nn71
  obtain ⟨nn74, nn75⟩ := and_e nn73
  obtain ⟨nn76, nn77⟩ := and_e nn75
  obtain ⟨nn78, nn79⟩ := and_e nn77
  obtain ⟨nn80, nn81⟩ := and_e nn79
  obtain ⟨nn82, nn83⟩ := and_e nn81
  obtain ⟨nn84, nn85⟩ := and_e nn83
  obtain ⟨nn86, nn87⟩ := and_e nn85
  obtain ⟨nn88, nn89⟩ := and_e nn87
  obtain ⟨nn90, nn91⟩ := and_e nn89
  obtain ⟨nn92, nn93⟩ := and_e nn91
  obtain ⟨nn94, nn95⟩ := and_e nn93
  obtain ⟨nn96, nn97⟩ := and_e nn95
  obtain ⟨nn98, nn99⟩ := and_e nn97
  obtain ⟨nn100, nn101⟩ := and_e nn99
  obtain ⟨u__VALUES, ev_u__VALUES⟩ := exa_v nn2
  have Ex_u__VALUES := Exa.start ev_u__VALUES nn2
  have St_u__VALUES := Sta.start ev_u__VALUES (Or.inr ⟨(hw _ (List.mem_of_getElem? (i := 36) rfl)), (hw _ (List.mem_of_getElem? (i := 42) rfl))⟩)
  obtain ⟨u_NO, ev_u_NO⟩ := exa_v nn6
  have Ex_u_NO := Exa.start ev_u_NO nn6
  have St_u_NO := Sta.start ev_u_NO (Or.inr ⟨(hw _ (List.mem_of_getElem? (i := 36) rfl)), (hw _ (List.mem_of_getElem? (i := 50) rfl))⟩)
  obtain ⟨u_BY_NAME, ev_u_BY_NAME⟩ := exa_v nn10
  have Ex_u_BY_NAME := Exa.start ev_u_BY_NAME nn10
  have St_u_BY_NAME := Sta.start ev_u_BY_NAME (Or.inr ⟨(hw _ (List.mem_of_getElem? (i := 36) rfl)), (hw _ (List.mem_of_getElem? (i := 51) rfl))⟩)
  obtain ⟨u_BY_TYPE, ev_u_BY_TYPE⟩ := exa_v nn14
  have Ex_u_BY_TYPE := Exa.start ev_u_BY_TYPE nn14
  have St_u_BY_TYPE := Sta.start ev_u_BY_TYPE (Or.inr ⟨(hw _ (List.mem_of_getElem? (i := 36) rfl)), (hw _ (List.mem_of_getElem? (i := 52) rfl))⟩)
  obtain ⟨u_CONSTRUCTOR, ev_u_CONSTRUCTOR⟩ := exa_v nn18
  have Ex_u_CONSTRUCTOR := Exa.start ev_u_CONSTRUCTOR nn18
  have St_u_CONSTRUCTOR := Sta.start ev_u_CONSTRUCTOR (Or.inr ⟨(hw _ (List.mem_of_getElem? (i := 36) rfl)), (hw _ (List.mem_of_getElem? (i := 53) rfl))⟩)
  obtain ⟨uV, evV⟩ := arr_v nn0
  obtain ⟨cl, ArV⟩ := Arr.start evV nn0
  have StV := Sta.start evV (Or.inl (hw _ (List.mem_of_getElem? (i := 54) rfl)))
  have ExV := Exa.start evV nn2
  have hsz : cl.slots.size = 4 := own_len evV ArV (by decide) (own_eqi nn4)
  have hat0 : cl.slots[0]? = some (.ref u_NO) := own_elr (by decide) evV ev_u_NO ArV.1 nn8
  have hat1 : cl.slots[1]? = some (.ref u_BY_NAME) := own_elr (by decide) evV ev_u_BY_NAME ArV.1 nn12
  have hat2 : cl.slots[2]? = some (.ref u_BY_TYPE) := own_elr (by decide) evV ev_u_BY_TYPE ArV.1 nn16
  have hat3 : cl.slots[3]? = some (.ref u_CONSTRUCTOR) := own_elr (by decide) evV ev_u_CONSTRUCTOR ArV.1 nn20
  obtain ⟨s_NO, es_NO⟩ := exa_v nn22
  have Es_NO := Exa.start es_NO nn22
  have Fv_NO := Fld.start ((fld_at ev_u_NO).symm.trans es_NO)
  have Fc_NO := own_fld es_NO nn24
  obtain ⟨t_NO, et_NO⟩ := arr_v nn26
  obtain ⟨c_NO, Ac_NO⟩ := Arr.start et_NO nn26
  have Ft_NO := Fld.start ((fld_at es_NO).symm.trans et_NO)
  have hl_NO : c_NO.slots.size = 2 := own_len et_NO Ac_NO (by decide) (own_eqi nn28)
  have Hl_NO : HasL c_NO 0 [(.int (110 : Int32)), (.int (111 : Int32))] := ⟨(elem_in (own_eqi nn30) et_NO (Term.int_eval _) Ac_NO.1).2, (elem_in (own_eqi nn32) et_NO (Term.int_eval _) Ac_NO.1).2, trivial⟩
  have Av_NO : Arv s s.heap t_NO c_NO.cls .byte (2 : Int32) [(.int (110 : Int32)), (.int (111 : Int32))] (.int 0) := Arv.start hfit Ac_NO (by rw [hl_NO]; decide) (by rw [hl_NO]; rfl) (by decide) rfl Hl_NO
  have Ss_NO : own_Str s s.heap s_NO ([(110 : Int32), (111 : Int32)] : List Int32) := ⟨_, _, _, _, _, Es_NO, Ft_NO, Fc_NO, Av_NO, Or.inl ⟨rfl, rfl, rfl, by decide⟩, by decide, by decide⟩
  obtain ⟨s_BY_NAME, es_BY_NAME⟩ := exa_v nn34
  have Es_BY_NAME := Exa.start es_BY_NAME nn34
  have Fv_BY_NAME := Fld.start ((fld_at ev_u_BY_NAME).symm.trans es_BY_NAME)
  have Fc_BY_NAME := own_fld es_BY_NAME nn36
  obtain ⟨t_BY_NAME, et_BY_NAME⟩ := arr_v nn38
  obtain ⟨c_BY_NAME, Ac_BY_NAME⟩ := Arr.start et_BY_NAME nn38
  have Ft_BY_NAME := Fld.start ((fld_at es_BY_NAME).symm.trans et_BY_NAME)
  have hl_BY_NAME : c_BY_NAME.slots.size = 6 := own_len et_BY_NAME Ac_BY_NAME (by decide) (own_eqi nn40)
  have Hl_BY_NAME : HasL c_BY_NAME 0 [(.int (98 : Int32)), (.int (121 : Int32)), (.int (78 : Int32)), (.int (97 : Int32)), (.int (109 : Int32)), (.int (101 : Int32))] := ⟨(elem_in (own_eqi nn58) et_BY_NAME (Term.int_eval _) Ac_BY_NAME.1).2, (elem_in (own_eqi nn60) et_BY_NAME (Term.int_eval _) Ac_BY_NAME.1).2, (elem_in (own_eqi nn62) et_BY_NAME (Term.int_eval _) Ac_BY_NAME.1).2, (elem_in (own_eqi nn64) et_BY_NAME (Term.int_eval _) Ac_BY_NAME.1).2, (elem_in (own_eqi nn66) et_BY_NAME (Term.int_eval _) Ac_BY_NAME.1).2, (elem_in (own_eqi nn68) et_BY_NAME (Term.int_eval _) Ac_BY_NAME.1).2, trivial⟩
  have Av_BY_NAME : Arv s s.heap t_BY_NAME c_BY_NAME.cls .byte (6 : Int32) [(.int (98 : Int32)), (.int (121 : Int32)), (.int (78 : Int32)), (.int (97 : Int32)), (.int (109 : Int32)), (.int (101 : Int32))] (.int 0) := Arv.start hfit Ac_BY_NAME (by rw [hl_BY_NAME]; decide) (by rw [hl_BY_NAME]; rfl) (by decide) rfl Hl_BY_NAME
  have Ss_BY_NAME : own_Str s s.heap s_BY_NAME ([(98 : Int32), (121 : Int32), (78 : Int32), (97 : Int32), (109 : Int32), (101 : Int32)] : List Int32) := ⟨_, _, _, _, _, Es_BY_NAME, Ft_BY_NAME, Fc_BY_NAME, Av_BY_NAME, Or.inl ⟨rfl, rfl, rfl, by decide⟩, by decide, by decide⟩
  obtain ⟨s_BY_TYPE, es_BY_TYPE⟩ := exa_v nn42
  have Es_BY_TYPE := Exa.start es_BY_TYPE nn42
  have Fv_BY_TYPE := Fld.start ((fld_at ev_u_BY_TYPE).symm.trans es_BY_TYPE)
  have Fc_BY_TYPE := own_fld es_BY_TYPE nn44
  obtain ⟨t_BY_TYPE, et_BY_TYPE⟩ := arr_v nn46
  obtain ⟨c_BY_TYPE, Ac_BY_TYPE⟩ := Arr.start et_BY_TYPE nn46
  have Ft_BY_TYPE := Fld.start ((fld_at es_BY_TYPE).symm.trans et_BY_TYPE)
  have hl_BY_TYPE : c_BY_TYPE.slots.size = 6 := own_len et_BY_TYPE Ac_BY_TYPE (by decide) (own_eqi nn48)
  have Hl_BY_TYPE : HasL c_BY_TYPE 0 [(.int (98 : Int32)), (.int (121 : Int32)), (.int (84 : Int32)), (.int (121 : Int32)), (.int (112 : Int32)), (.int (101 : Int32))] := ⟨(elem_in (own_eqi nn70) et_BY_TYPE (Term.int_eval _) Ac_BY_TYPE.1).2, (elem_in (own_eqi nn72) et_BY_TYPE (Term.int_eval _) Ac_BY_TYPE.1).2, (elem_in (own_eqi nn74) et_BY_TYPE (Term.int_eval _) Ac_BY_TYPE.1).2, (elem_in (own_eqi nn76) et_BY_TYPE (Term.int_eval _) Ac_BY_TYPE.1).2, (elem_in (own_eqi nn78) et_BY_TYPE (Term.int_eval _) Ac_BY_TYPE.1).2, (elem_in (own_eqi nn80) et_BY_TYPE (Term.int_eval _) Ac_BY_TYPE.1).2, trivial⟩
  have Av_BY_TYPE : Arv s s.heap t_BY_TYPE c_BY_TYPE.cls .byte (6 : Int32) [(.int (98 : Int32)), (.int (121 : Int32)), (.int (84 : Int32)), (.int (121 : Int32)), (.int (112 : Int32)), (.int (101 : Int32))] (.int 0) := Arv.start hfit Ac_BY_TYPE (by rw [hl_BY_TYPE]; decide) (by rw [hl_BY_TYPE]; rfl) (by decide) rfl Hl_BY_TYPE
  have Ss_BY_TYPE : own_Str s s.heap s_BY_TYPE ([(98 : Int32), (121 : Int32), (84 : Int32), (121 : Int32), (112 : Int32), (101 : Int32)] : List Int32) := ⟨_, _, _, _, _, Es_BY_TYPE, Ft_BY_TYPE, Fc_BY_TYPE, Av_BY_TYPE, Or.inl ⟨rfl, rfl, rfl, by decide⟩, by decide, by decide⟩
  obtain ⟨s_CONSTRUCTOR, es_CONSTRUCTOR⟩ := exa_v nn50
  have Es_CONSTRUCTOR := Exa.start es_CONSTRUCTOR nn50
  have Fv_CONSTRUCTOR := Fld.start ((fld_at ev_u_CONSTRUCTOR).symm.trans es_CONSTRUCTOR)
  have Fc_CONSTRUCTOR := own_fld es_CONSTRUCTOR nn52
  obtain ⟨t_CONSTRUCTOR, et_CONSTRUCTOR⟩ := arr_v nn54
  obtain ⟨c_CONSTRUCTOR, Ac_CONSTRUCTOR⟩ := Arr.start et_CONSTRUCTOR nn54
  have Ft_CONSTRUCTOR := Fld.start ((fld_at es_CONSTRUCTOR).symm.trans et_CONSTRUCTOR)
  have hl_CONSTRUCTOR : c_CONSTRUCTOR.slots.size = 11 := own_len et_CONSTRUCTOR Ac_CONSTRUCTOR (by decide) (own_eqi nn56)
  have Hl_CONSTRUCTOR : HasL c_CONSTRUCTOR 0 [(.int (99 : Int32)), (.int (111 : Int32)), (.int (110 : Int32)), (.int (115 : Int32)), (.int (116 : Int32)), (.int (114 : Int32)), (.int (117 : Int32)), (.int (99 : Int32)), (.int (116 : Int32)), (.int (111 : Int32)), (.int (114 : Int32))] := ⟨(elem_in (own_eqi nn82) et_CONSTRUCTOR (Term.int_eval _) Ac_CONSTRUCTOR.1).2, (elem_in (own_eqi nn84) et_CONSTRUCTOR (Term.int_eval _) Ac_CONSTRUCTOR.1).2, (elem_in (own_eqi nn86) et_CONSTRUCTOR (Term.int_eval _) Ac_CONSTRUCTOR.1).2, (elem_in (own_eqi nn88) et_CONSTRUCTOR (Term.int_eval _) Ac_CONSTRUCTOR.1).2, (elem_in (own_eqi nn90) et_CONSTRUCTOR (Term.int_eval _) Ac_CONSTRUCTOR.1).2, (elem_in (own_eqi nn92) et_CONSTRUCTOR (Term.int_eval _) Ac_CONSTRUCTOR.1).2, (elem_in (own_eqi nn94) et_CONSTRUCTOR (Term.int_eval _) Ac_CONSTRUCTOR.1).2, (elem_in (own_eqi nn96) et_CONSTRUCTOR (Term.int_eval _) Ac_CONSTRUCTOR.1).2, (elem_in (own_eqi nn98) et_CONSTRUCTOR (Term.int_eval _) Ac_CONSTRUCTOR.1).2, (elem_in (own_eqi nn100) et_CONSTRUCTOR (Term.int_eval _) Ac_CONSTRUCTOR.1).2, (elem_in (own_eqi nn101) et_CONSTRUCTOR (Term.int_eval _) Ac_CONSTRUCTOR.1).2, trivial⟩
  have Av_CONSTRUCTOR : Arv s s.heap t_CONSTRUCTOR c_CONSTRUCTOR.cls .byte (11 : Int32) [(.int (99 : Int32)), (.int (111 : Int32)), (.int (110 : Int32)), (.int (115 : Int32)), (.int (116 : Int32)), (.int (114 : Int32)), (.int (117 : Int32)), (.int (99 : Int32)), (.int (116 : Int32)), (.int (111 : Int32)), (.int (114 : Int32))] (.int 0) := Arv.start hfit Ac_CONSTRUCTOR (by rw [hl_CONSTRUCTOR]; decide) (by rw [hl_CONSTRUCTOR]; rfl) (by decide) rfl Hl_CONSTRUCTOR
  have Ss_CONSTRUCTOR : own_Str s s.heap s_CONSTRUCTOR ([(99 : Int32), (111 : Int32), (110 : Int32), (115 : Int32), (116 : Int32), (114 : Int32), (117 : Int32), (99 : Int32), (116 : Int32), (111 : Int32), (114 : Int32)] : List Int32) := ⟨_, _, _, _, _, Es_CONSTRUCTOR, Ft_CONSTRUCTOR, Fc_CONSTRUCTOR, Av_CONSTRUCTOR, Or.inl ⟨rfl, rfl, rfl, by decide⟩, by decide, by decide⟩
  have hEL : EW _ _ consts_1 := (EW.cons (hw _ (List.mem_of_getElem? (i := 72) rfl)) (by decide) (EW.cons (hw _ (List.mem_of_getElem? (i := 78) rfl)) (by decide) (EW.cons (hw _ (List.mem_of_getElem? (i := 79) rfl)) (by decide) (EW.cons (hw _ (List.mem_of_getElem? (i := 80) rfl)) (by decide) (EW.cons (hw _ (List.mem_of_getElem? (i := 77) rfl)) (by decide) EW.nil)))))
  have hH0 : CHv s consts_1 s.vm s.heap := CHv.start hEL hcalls.1 (hsets _ (List.mem_of_getElem? (i := 2) rfl)) (hw _ (List.mem_of_getElem? (i := 23) rfl)) (hw _ (List.mem_of_getElem? (i := 1) rfl))
  obtain ⟨n, o, h1, h2, h3, _, L, rfl, ⟨rfl, N⟩, -, hq⟩ := rm0 l s _ hw tables_1 i0 i1 i2 i3 uV cl u_NO u_BY_NAME u_BY_TYPE u_CONSTRUCTOR s_NO s_BY_NAME s_BY_TYPE s_CONSTRUCTOR gz s.heap s.heap.size (Nat.le_refl _) (Old.start s) Sz cz StV ArV ExV (FitC.start hfit ArV) hsz hat0 hat1 hat2 hat3 Fv_NO Fv_BY_NAME Fv_BY_TYPE Fv_CONSTRUCTOR Es_NO Es_BY_NAME Es_BY_TYPE Es_CONSTRUCTOR Ss_NO Ss_BY_NAME Ss_BY_TYPE Ss_CONSTRUCTOR St_u_NO St_u_BY_NAME St_u_BY_TYPE St_u_CONSTRUCTOR Ex_u_NO Ex_u_BY_NAME Ex_u_BY_TYPE Ex_u_CONSTRUCTOR p e ha hc hk s m _ below hf ((Spec.applies_iff_loose hf).mp happ).1 ⟨rfl, State.Warmed39.refl s, rfl, hH0⟩ trivial
  refine ⟨n, _, h1, h2, h3, hpost _ _ _ _ _ _ ⟨Cond.after_iff.mpr rfl, Cond.after_iff.mpr (eq_i res_at (Term.int_eval (1)) rfl), trivial⟩ ⟨hq.1, hq.2.1, hq.2.2.1, (hq.2.2.2.sift fun y hy => Or.inr (N y hy)).mono (by decide) (by decide)⟩⟩
theorem main_1_1 : Claimed_1_1 := comes_1 fun _ _ _ _ _ _ h hF => ⟨h.1, hF⟩
theorem main_1_2 : Claimed_1_2 := comes_1 fun _ _ _ _ _ _ h hF => ⟨h.2.1, hF⟩
end Jvm.Pilot.@@N@@
namespace Jvm.Pilot.@@N@@
open Jvm Jvm.ClassFile Sem Op Lib Jvm.Free Jvm.Stand Jvm.Pilot.@@N@@.Jvm.D
/-! MADE BY PROGRAM (witnessworld.py) out of the Statement's table words and the real class files: 22 classes; the members and pool entries that the words name. The judged class is class 1, her method 1. -/
namespace start1
open Jvm.ClassFile
def u (s : String) : CpInfo := .utf8 (stringToUtf16 s)
/-- a pool by its gaps: so many unusable entries, then the entry; so many at the end -/
def gap : Nat → List CpInfo → List CpInfo
  | 0, r => r
  | n + 1, r => .unusable :: gap n r
def poolList (es : List (Nat × CpInfo)) (last : Nat) : List CpInfo := es.foldr (fun e r => gap e.1 (e.2 :: r)) (gap last [])
def pool (es : List (Nat × CpInfo)) (last : Nat) : Array CpInfo := ⟨poolList es last⟩
def fileOf (pool : Array CpInfo) (this : Nat) (attrs : Array Attribute := #[]) (ms : Array MethodInfo := #[]) (fl : Nat := 33) (sup : Nat := 0) (ifs : Array Nat := #[]) (fds : Array FieldInfo := #[]) : ClassFile where
  minorVersion := 0
  majorVersion := 65
  constantPool := pool
  accessFlags := fl
  thisClass := this
  superClass := sup
  interfaces := ifs
  fields := fds
  methods := ms
  attributes := attrs
def plain (name : String) (sup : Option ClassId) : Class where
  name := name
  kind := .ordinary
  loader := none
  accessFlags := 33
  super := sup
  interfaces := #[]
  cf := none
  fields := #[]
  methods := #[]
  instanceTypes := #[]
  staticTypes := #[]
  resolved := #[]
  callSites := []
  init := .initialized
  statics := none
  mirror := none

def pool0 : Array CpInfo := pool [(5, u "<init>"), (0, u "()V"), (1, .class_ 10), (1, u "java/lang/Object"), (85, u "clone"), (0, u "()Ljava/lang/Object;")] 26

def k0c0 : Code := { maxStack := 0, maxLocals := 1, code := object_method_1_code, exceptionTable := #[], attributes := #[] }
def k0m0 : Method := { name := "<init>", desc := "()V", sig := { parameters := [], returnType := none }, accessFlags := 1, code := some k0c0 }
def k0m1 : Method := { name := "clone", desc := "()Ljava/lang/Object;", sig := { parameters := [], returnType := some (.object "java/lang/Object") }, accessFlags := 260, code := none }
/-- java/lang/Object -/
def k0 : Class := { plain "java/lang/Object" none with
  accessFlags := 33
  interfaces := #[]
  cf := some (fileOf pool0 8 #[] #[{ accessFlags := 1, nameIndex := 5, descriptorIndex := 6, attributes := #[] }, { accessFlags := 260, nameIndex := 96, descriptorIndex := 97, attributes := #[] }] 33 0 #[] #[])
  fields := #[]
  methods := #[k0m0, k0m1]
  instanceTypes := #[]
  staticTypes := #[]
  resolved := Array.replicate 124 none
  statics := none }

def pool1 : Array CpInfo := pool [(2, .class_ 4), (1, u "java/lang/Object"), (0, u "<init>"), (0, u "()V"), (0, .class_ 8), (0, u "java/lang/String"), (0, .methodref 10 11), (0, .class_ 12), (0, .nameAndType 13 14), (0, u "com/example/spojka/spojka/AutowireModeNamedPinLaw"), (0, u "word"), (0, u "(I)[C"), (0, .methodref 7 16), (0, .nameAndType 5 17), (0, u "([C)V"), (0, .integer 2147483647), (0, .methodref 10 20), (0, .nameAndType 21 14), (0, u "shorter"), (0, .methodref 10 23), (0, .nameAndType 24 25), (0, u "longer"), (0, u "(IC)[C"), (0, .methodref 7 27), (0, .nameAndType 28 29), (0, u "valueOf"), (0, u "(C)Ljava/lang/String;"), (0, .methodref 31 32), (0, .class_ 33), (0, .nameAndType 34 35), (0, u "com/example/spojka/spojka/AutowireMode"), (0, u "named"), (0, u "(Ljava/lang/String;)Lcom/example/spojka/spojka/AutowireMode;"), (0, .methodref 10 37), (0, .nameAndType 38 35), (0, u "expected"), (0, .string 40), (0, u "no"), (0, .methodref 7 42), (0, .nameAndType 43 44), (0, u "equals"), (0, u "(Ljava/lang/Object;)Z"), (0, .fieldref 31 46), (0, .nameAndType 47 48), (0, u "NO"), (0, u "Lcom/example/spojka/spojka/AutowireMode;"), (0, .string 50), (0, u "byName"), (0, .fieldref 31 52), (0, .nameAndType 53 48), (0, u "BY_NAME"), (0, .string 55), (0, u "byType"), (0, .fieldref 31 57), (0, .nameAndType 58 48), (0, u "BY_TYPE"), (0, .string 60), (0, u "constructor"), (0, .fieldref 31 62), (0, .nameAndType 63 48), (0, u "CONSTRUCTOR"), (2, u "law"), (0, u "(IIII)Z")] 3

def k1m0 : Method := { name := "<init>", desc := "()V", sig := { parameters := [], returnType := none }, accessFlags := 1, code := none }
def k1c1 : Code := { maxStack := 6, maxLocals := 10, code := code, exceptionTable := #[], attributes := #[] }
def k1m1 : Method := { name := "law", desc := "(IIII)Z", sig := { parameters := [.int, .int, .int, .int], returnType := some .boolean }, accessFlags := 9, code := some k1c1 }
def k1c2 : Code := { maxStack := 2, maxLocals := 1, code := method_3_code, exceptionTable := #[], attributes := #[] }
def k1m2 : Method := { name := "expected", desc := "(Ljava/lang/String;)Lcom/example/spojka/spojka/AutowireMode;", sig := { parameters := [(.object "java/lang/String")], returnType := some (.object "com/example/spojka/spojka/AutowireMode") }, accessFlags := 10, code := some k1c2 }
def k1c3 : Code := { maxStack := 4, maxLocals := 1, code := method_4_code, exceptionTable := #[], attributes := #[] }
def k1m3 : Method := { name := "word", desc := "(I)[C", sig := { parameters := [.int], returnType := some (.array .char) }, accessFlags := 10, code := some k1c3 }
def k1c4 : Code := { maxStack := 4, maxLocals := 1, code := method_5_code, exceptionTable := #[], attributes := #[] }
def k1m4 : Method := { name := "shorter", desc := "(I)[C", sig := { parameters := [.int], returnType := some (.array .char) }, accessFlags := 10, code := some k1c4 }
def k1c5 : Code := { maxStack := 4, maxLocals := 2, code := method_6_code, exceptionTable := #[], attributes := #[] }
def k1m5 : Method := { name := "longer", desc := "(IC)[C", sig := { parameters := [.int, .char], returnType := some (.array .char) }, accessFlags := 10, code := some k1c5 }
/-- com/example/spojka/spojka/AutowireModeNamedPinLaw -/
def k1 : Class := { plain "com/example/spojka/spojka/AutowireModeNamedPinLaw" (some 0) with
  accessFlags := 49
  interfaces := #[]
  cf := some (fileOf pool1 10 #[] #[{ accessFlags := 1, nameIndex := 5, descriptorIndex := 6, attributes := #[] }, { accessFlags := 9, nameIndex := 66, descriptorIndex := 67, attributes := #[] }, { accessFlags := 10, nameIndex := 38, descriptorIndex := 35, attributes := #[] }, { accessFlags := 10, nameIndex := 13, descriptorIndex := 14, attributes := #[] }, { accessFlags := 10, nameIndex := 21, descriptorIndex := 14, attributes := #[] }, { accessFlags := 10, nameIndex := 24, descriptorIndex := 25, attributes := #[] }] 49 2 #[] #[])
  fields := #[]
  methods := #[k1m0, k1m1, k1m2, k1m3, k1m4, k1m5]
  instanceTypes := #[]
  staticTypes := #[]
  resolved := Array.replicate 71 none
  statics := none }

def pool2 : Array CpInfo := pool [(1, .class_ 2), (0, u "java/io/Serializable"), (0, .class_ 4), (0, u "java/lang/Object")] 2

/-- java/io/Serializable -/
def k2 : Class := { plain "java/io/Serializable" (some 0) with
  accessFlags := 1537
  interfaces := #[]
  cf := some (fileOf pool2 1 #[] #[] 1537 3 #[] #[])
  fields := #[]
  methods := #[]
  instanceTypes := #[]
  staticTypes := #[]
  resolved := Array.replicate 7 none
  statics := none }

def pool3 : Array CpInfo := pool [(1, .class_ 2), (0, u "java/lang/Comparable"), (0, .class_ 4), (0, u "java/lang/Object")] 7

/-- java/lang/Comparable -/
def k3 : Class := { plain "java/lang/Comparable" (some 0) with
  accessFlags := 1537
  interfaces := #[]
  cf := some (fileOf pool3 1 #[] #[] 1537 3 #[] #[])
  fields := #[]
  methods := #[]
  instanceTypes := #[]
  staticTypes := #[]
  resolved := Array.replicate 12 none
  statics := none }

def pool4 : Array CpInfo := pool [(2, .class_ 4), (1, u "java/lang/CharSequence"), (42, .class_ 48), (0, u "java/lang/CharSequence$1CodePointIterator"), (10, .class_ 60), (0, u "java/lang/CharSequence$1CharIterator"), (5, .class_ 67), (0, u "java/lang/Object")] 63

/-- java/lang/CharSequence -/
def k4 : Class := { plain "java/lang/CharSequence" (some 0) with
  accessFlags := 1537
  interfaces := #[]
  cf := some (fileOf pool4 2 #[.nestMembers #[47, 59]] #[] 1537 66 #[] #[])
  fields := #[]
  methods := #[]
  instanceTypes := #[]
  staticTypes := #[]
  resolved := Array.replicate 131 none
  statics := none }

def pool5 : Array CpInfo := pool [(1, .class_ 2), (0, u "java/lang/constant/Constable"), (0, .class_ 4), (0, u "java/lang/Object")] 6

/-- java/lang/constant/Constable -/
def k5 : Class := { plain "java/lang/constant/Constable" (some 0) with
  accessFlags := 1537
  interfaces := #[]
  cf := some (fileOf pool5 1 #[] #[] 1537 3 #[] #[])
  fields := #[]
  methods := #[]
  instanceTypes := #[]
  staticTypes := #[]
  resolved := Array.replicate 11 none
  statics := none }

def pool6 : Array CpInfo := pool [(1, .class_ 2), (0, u "java/lang/constant/ConstantDesc"), (0, .class_ 4), (0, u "java/lang/Object")] 32

/-- java/lang/constant/ConstantDesc -/
def k6 : Class := { plain "java/lang/constant/ConstantDesc" (some 0) with
  accessFlags := 1537
  interfaces := #[]
  cf := some (fileOf pool6 1 #[] #[] 1537 3 #[] #[])
  fields := #[]
  methods := #[]
  instanceTypes := #[]
  staticTypes := #[]
  resolved := Array.replicate 37 none
  statics := none }

def pool7 : Array CpInfo := pool [(1, .methodref 2 3), (0, .class_ 4), (0, .nameAndType 5 6), (0, u "java/lang/Object"), (0, u "<init>"), (0, u "()V"), (0, .string 8), (0, u ""), (0, .fieldref 10 11), (0, .class_ 12), (0, .nameAndType 13 14), (0, u "java/lang/String"), (0, u "value"), (0, u "[B"), (0, .fieldref 10 16), (0, .nameAndType 17 18), (0, u "coder"), (0, u "B"), (2, u "hash"), (0, u "I"), (2, u "hashIsZero"), (0, u "Z"), (0, .methodref 10 28), (0, .nameAndType 5 29), (0, u "([CIILjava/lang/Void;)V"), (8, .fieldref 10 39), (0, .nameAndType 40 26), (0, u "COMPACT_STRINGS"), (1, .class_ 44), (1, u "java/lang/StringUTF16"), (0, u "compress"), (1, .methodref 42 48), (0, .nameAndType 49 50), (0, u "coderFromArrayLen"), (0, u "([BI)B"), (2, u "toBytes"), (53, .class_ 109), (1, u "java/lang/StringLatin1"), (67, .methodref 42 178), (0, .nameAndType 45 179), (0, u "([CII)[B"), (29, .methodref 10 210), (0, .nameAndType 5 211), (0, u "([BB)V"), (157, u "(C)Z"), (171, .methodref 107 542), (0, .nameAndType 543 544), (0, u "equals"), (0, u "([B[B)Z"), (28, u "(Ljava/lang/Object;)Z"), (1, .class_ 576), (0, u "java/lang/CharSequence"), (22, u "CASE_INSENSITIVE_ORDER"), (0, u "Ljava/util/Comparator;"), (181, u "valueOf"), (0, u "(C)Ljava/lang/String;"), (226, u "([C)V"), (4, .methodref 107 1016), (0, .nameAndType 1017 369), (0, u "canEncode"), (0, .methodref 107 1019), (0, .nameAndType 53 1020), (0, u "(C)[B"), (80, u "serialPersistentFields"), (0, u "[Ljava/io/ObjectStreamField;"), (0, .class_ 1104), (0, u "java/lang/String$CaseInsensitiveComparator"), (1, .class_ 1107), (0, u "java/io/Serializable"), (0, .class_ 1109), (0, u "java/lang/Comparable"), (0, .class_ 1111), (0, u "java/lang/constant/Constable"), (0, .class_ 1113), (0, u "java/lang/constant/ConstantDesc"), (2, u "serialVersionUID"), (0, u "J"), (3, u "REPL"), (0, u "C"), (2, u "LATIN1"), (1, u "UTF16")] 323

def k7m0 : Method := { name := "<init>", desc := "()V", sig := { parameters := [], returnType := none }, accessFlags := 1, code := none }
def k7c1 : Code := { maxStack := 5, maxLocals := 2, code := jdk_42_method_3_code, exceptionTable := #[], attributes := #[] }
def k7m1 : Method := { name := "<init>", desc := "([C)V", sig := { parameters := [(.array .char)], returnType := none }, accessFlags := 1, code := some k7c1 }
def k7c2 : Code := { maxStack := 2, maxLocals := 3, code := jdk_42_method_66_code, exceptionTable := #[], attributes := #[] }
def k7m2 : Method := { name := "equals", desc := "(Ljava/lang/Object;)Z", sig := { parameters := [(.object "java/lang/Object")], returnType := some .boolean }, accessFlags := 1, code := some k7c2 }
def k7c3 : Code := { maxStack := 4, maxLocals := 1, code := jdk_42_method_139_code, exceptionTable := #[], attributes := #[] }
def k7m3 : Method := { name := "valueOf", desc := "(C)Ljava/lang/String;", sig := { parameters := [.char], returnType := some (.object "java/lang/String") }, accessFlags := 9, code := some k7c3 }
def k7c4 : Code := { maxStack := 4, maxLocals := 6, code := jdk_42_method_149_code, exceptionTable := #[], attributes := #[] }
def k7m4 : Method := { name := "<init>", desc := "([CIILjava/lang/Void;)V", sig := { parameters := [(.array .char), .int, .int, (.object "java/lang/Void")], returnType := none }, accessFlags := 2, code := some k7c4 }
def k7c5 : Code := { maxStack := 2, maxLocals := 3, code := jdk_42_method_151_code, exceptionTable := #[], attributes := #[] }
def k7m5 : Method := { name := "<init>", desc := "([BB)V", sig := { parameters := [(.array .byte), .byte], returnType := none }, accessFlags := 0, code := some k7c5 }
/-- java/lang/String -/
def k7 : Class := { plain "java/lang/String" (some 0) with
  accessFlags := 49
  interfaces := #[2, 3, 4, 5, 6]
  cf := some (fileOf pool7 10 #[.nestMembers #[1103]] #[{ accessFlags := 1, nameIndex := 5, descriptorIndex := 6, attributes := #[] }, { accessFlags := 1, nameIndex := 5, descriptorIndex := 1010, attributes := #[] }, { accessFlags := 1, nameIndex := 543, descriptorIndex := 573, attributes := #[] }, { accessFlags := 9, nameIndex := 782, descriptorIndex := 783, attributes := #[] }, { accessFlags := 2, nameIndex := 5, descriptorIndex := 29, attributes := #[] }, { accessFlags := 0, nameIndex := 5, descriptorIndex := 211, attributes := #[] }] 49 2 #[1106, 1108, 575, 1110, 1112] #[{ accessFlags := 18, nameIndex := 13, descriptorIndex := 14, attributes := #[] }, { accessFlags := 18, nameIndex := 17, descriptorIndex := 18, attributes := #[] }, { accessFlags := 2, nameIndex := 21, descriptorIndex := 22, attributes := #[] }, { accessFlags := 2, nameIndex := 25, descriptorIndex := 26, attributes := #[] }, { accessFlags := 26, nameIndex := 1116, descriptorIndex := 1117, attributes := #[] }, { accessFlags := 24, nameIndex := 40, descriptorIndex := 26, attributes := #[] }, { accessFlags := 26, nameIndex := 1101, descriptorIndex := 1102, attributes := #[] }, { accessFlags := 26, nameIndex := 1121, descriptorIndex := 1122, attributes := #[] }, { accessFlags := 25, nameIndex := 599, descriptorIndex := 600, attributes := #[] }, { accessFlags := 24, nameIndex := 1125, descriptorIndex := 18, attributes := #[] }, { accessFlags := 24, nameIndex := 1127, descriptorIndex := 18, attributes := #[] }])
  fields := #[{ name := "value", type := (.array .byte), accessFlags := 18, slot := 0, constantValue := 0 }, { name := "coder", type := .byte, accessFlags := 18, slot := 1, constantValue := 0 }, { name := "hash", type := .int, accessFlags := 2, slot := 2, constantValue := 0 }, { name := "hashIsZero", type := .boolean, accessFlags := 2, slot := 3, constantValue := 0 }, { name := "serialVersionUID", type := .long, accessFlags := 26, slot := 0, constantValue := 0 }, { name := "COMPACT_STRINGS", type := .boolean, accessFlags := 24, slot := 1, constantValue := 0 }, { name := "serialPersistentFields", type := (.array (.object "java/io/ObjectStreamField")), accessFlags := 26, slot := 2, constantValue := 0 }, { name := "REPL", type := .char, accessFlags := 26, slot := 3, constantValue := 0 }, { name := "CASE_INSENSITIVE_ORDER", type := (.object "java/util/Comparator"), accessFlags := 25, slot := 4, constantValue := 0 }, { name := "LATIN1", type := .byte, accessFlags := 24, slot := 5, constantValue := 0 }, { name := "UTF16", type := .byte, accessFlags := 24, slot := 6, constantValue := 0 }]
  methods := #[k7m0, k7m1, k7m2, k7m3, k7m4, k7m5]
  instanceTypes := #[(.array .byte), .byte, .int, .boolean]
  staticTypes := #[.long, .boolean, (.array (.object "java/io/ObjectStreamField")), .char, (.object "java/util/Comparator"), .byte, .byte]
  resolved := Array.replicate 1451 none
  statics := some 0 }

def pool8 : Array CpInfo := pool [(6, .class_ 8), (1, u "java/lang/Object"), (0, u "<init>"), (0, u "()V"), (1, .class_ 14), (1, u "java/lang/StringUTF16"), (31, u "$assertionsDisabled"), (0, u "Z"), (13, u "HI_BYTE_SHIFT"), (0, u "I"), (2, u "LO_BYTE_SHIFT"), (49, .methodref 12 116), (0, .nameAndType 117 118), (0, u "compress"), (0, u "([CI[BII)I"), (3, u "([CII)[B"), (138, u "coderFromArrayLen"), (0, u "([BI)B"), (106, .class_ 371), (1, u "java/lang/StringUTF16$LinesSpliterator"), (58, u "MAX_LENGTH"), (196, .class_ 628), (0, u "java/lang/StringUTF16$CodePointsSpliterator"), (0, .class_ 630), (0, u "java/lang/StringUTF16$CharsSpliterator")] 4

def k8m0 : Method := { name := "<init>", desc := "()V", sig := { parameters := [], returnType := none }, accessFlags := 0, code := none }
def k8c1 : Code := { maxStack := 2, maxLocals := 2, code := jdk_52_method_15_code, exceptionTable := #[], attributes := #[] }
def k8m1 : Method := { name := "coderFromArrayLen", desc := "([BI)B", sig := { parameters := [(.array .byte), .int], returnType := some .byte }, accessFlags := 8, code := some k8c1 }
def k8c2 : Code := { maxStack := 5, maxLocals := 6, code := jdk_52_method_16_code, exceptionTable := #[], attributes := #[] }
def k8m2 : Method := { name := "compress", desc := "([CII)[B", sig := { parameters := [(.array .char), .int, .int], returnType := some (.array .byte) }, accessFlags := 9, code := some k8c2 }
def k8c3 : Code := { maxStack := 3, maxLocals := 7, code := jdk_52_method_21_code, exceptionTable := #[], attributes := #[] }
def k8m3 : Method := { name := "compress", desc := "([CI[BII)I", sig := { parameters := [(.array .char), .int, (.array .byte), .int, .int], returnType := some .int }, accessFlags := 9, code := some k8c3 }
/-- java/lang/StringUTF16 -/
def k8 : Class := { plain "java/lang/StringUTF16" (some 0) with
  accessFlags := 48
  interfaces := #[]
  cf := some (fileOf pool8 12 #[.nestMembers #[627, 629, 369]] #[{ accessFlags := 0, nameIndex := 9, descriptorIndex := 10, attributes := #[] }, { accessFlags := 8, nameIndex := 261, descriptorIndex := 262, attributes := #[] }, { accessFlags := 9, nameIndex := 117, descriptorIndex := 122, attributes := #[] }, { accessFlags := 9, nameIndex := 117, descriptorIndex := 118, attributes := #[] }] 48 6 #[] #[{ accessFlags := 26, nameIndex := 61, descriptorIndex := 62, attributes := #[] }, { accessFlags := 26, nameIndex := 65, descriptorIndex := 62, attributes := #[] }, { accessFlags := 24, nameIndex := 430, descriptorIndex := 62, attributes := #[] }, { accessFlags := 4120, nameIndex := 46, descriptorIndex := 47, attributes := #[] }])
  fields := #[{ name := "HI_BYTE_SHIFT", type := .int, accessFlags := 26, slot := 0, constantValue := 0 }, { name := "LO_BYTE_SHIFT", type := .int, accessFlags := 26, slot := 1, constantValue := 0 }, { name := "MAX_LENGTH", type := .int, accessFlags := 24, slot := 2, constantValue := 0 }, { name := "$assertionsDisabled", type := .boolean, accessFlags := 4120, slot := 3, constantValue := 0 }]
  methods := #[k8m0, k8m1, k8m2, k8m3]
  instanceTypes := #[]
  staticTypes := #[.int, .int, .int, .boolean]
  resolved := Array.replicate 635 none
  statics := none }

def pool9 : Array CpInfo := pool [(2, .class_ 4), (1, u "java/lang/Enum"), (0, u "name"), (0, u "Ljava/lang/String;"), (2, u "ordinal"), (0, u "I"), (1, .class_ 14), (1, u "java/lang/Object"), (4, u "hash"), (86, .class_ 108), (1, u "java/lang/Enum$EnumDesc"), (2, .class_ 112), (0, u "java/lang/constant/Constable"), (0, .class_ 114), (0, u "java/lang/Comparable"), (0, .class_ 116), (0, u "java/io/Serializable")] 87

/-- java/lang/Enum -/
def k9 : Class := { plain "java/lang/Enum" (some 0) with
  accessFlags := 1057
  interfaces := #[5, 3, 2]
  cf := some (fileOf pool9 2 #[.nestMembers #[106]] #[] 1057 12 #[111, 113, 115] #[{ accessFlags := 18, nameIndex := 5, descriptorIndex := 6, attributes := #[] }, { accessFlags := 18, nameIndex := 9, descriptorIndex := 10, attributes := #[] }, { accessFlags := 2, nameIndex := 19, descriptorIndex := 10, attributes := #[] }])
  fields := #[{ name := "name", type := (.object "java/lang/String"), accessFlags := 18, slot := 0, constantValue := 0 }, { name := "ordinal", type := .int, accessFlags := 18, slot := 1, constantValue := 0 }, { name := "hash", type := .int, accessFlags := 2, slot := 2, constantValue := 0 }]
  methods := #[]
  instanceTypes := #[(.object "java/lang/String"), .int, .int]
  staticTypes := #[]
  resolved := Array.replicate 204 none
  statics := none }

def pool10 : Array CpInfo := pool [(1, .class_ 2), (0, u "com/example/spojka/spojka/AutowireMode"), (2, u "NO"), (0, u "Lcom/example/spojka/spojka/AutowireMode;"), (2, u "BY_NAME"), (2, u "BY_TYPE"), (2, u "CONSTRUCTOR"), (0, .fieldref 1 17), (0, .nameAndType 18 19), (0, u "$VALUES"), (0, u "[Lcom/example/spojka/spojka/AutowireMode;"), (0, .methodref 21 22), (0, .class_ 19), (0, .nameAndType 23 24), (0, u "clone"), (0, u "()Ljava/lang/Object;"), (1, .class_ 28), (1, u "java/lang/Enum"), (6, .fieldref 1 36), (0, .nameAndType 37 38), (0, u "value"), (0, u "Ljava/lang/String;"), (0, .methodref 1 40), (0, .nameAndType 41 42), (0, u "values"), (0, u "()[Lcom/example/spojka/spojka/AutowireMode;"), (0, .methodref 44 45), (0, .class_ 46), (0, .nameAndType 47 48), (0, u "java/lang/String"), (0, u "equals"), (0, u "(Ljava/lang/Object;)Z"), (52, u "(Ljava/lang/String;)Lcom/example/spojka/spojka/AutowireMode;"), (3, u "named")] 24

def k10c0 : Code := { maxStack := 1, maxLocals := 0, code := prog_10_method_1_code, exceptionTable := #[], attributes := #[] }
def k10m0 : Method := { name := "values", desc := "()[Lcom/example/spojka/spojka/AutowireMode;", sig := { parameters := [], returnType := some (.array (.object "com/example/spojka/spojka/AutowireMode")) }, accessFlags := 9, code := some k10c0 }
def k10c1 : Code := { maxStack := 2, maxLocals := 5, code := prog_10_method_4_code, exceptionTable := #[], attributes := #[] }
def k10m1 : Method := { name := "named", desc := "(Ljava/lang/String;)Lcom/example/spojka/spojka/AutowireMode;", sig := { parameters := [(.object "java/lang/String")], returnType := some (.object "com/example/spojka/spojka/AutowireMode") }, accessFlags := 8, code := some k10c1 }
/-- com/example/spojka/spojka/AutowireMode -/
def k10 : Class := { plain "com/example/spojka/spojka/AutowireMode" (some 9) with
  accessFlags := 16432
  interfaces := #[]
  cf := some (fileOf pool10 1 #[] #[{ accessFlags := 9, nameIndex := 41, descriptorIndex := 42, attributes := #[] }, { accessFlags := 8, nameIndex := 105, descriptorIndex := 101, attributes := #[] }] 16432 26 #[] #[{ accessFlags := 16409, nameIndex := 5, descriptorIndex := 6, attributes := #[] }, { accessFlags := 16409, nameIndex := 9, descriptorIndex := 6, attributes := #[] }, { accessFlags := 16409, nameIndex := 12, descriptorIndex := 6, attributes := #[] }, { accessFlags := 16409, nameIndex := 15, descriptorIndex := 6, attributes := #[] }, { accessFlags := 18, nameIndex := 37, descriptorIndex := 38, attributes := #[] }, { accessFlags := 4122, nameIndex := 18, descriptorIndex := 19, attributes := #[] }])
  fields := #[{ name := "NO", type := (.object "com/example/spojka/spojka/AutowireMode"), accessFlags := 16409, slot := 0, constantValue := 0 }, { name := "BY_NAME", type := (.object "com/example/spojka/spojka/AutowireMode"), accessFlags := 16409, slot := 1, constantValue := 0 }, { name := "BY_TYPE", type := (.object "com/example/spojka/spojka/AutowireMode"), accessFlags := 16409, slot := 2, constantValue := 0 }, { name := "CONSTRUCTOR", type := (.object "com/example/spojka/spojka/AutowireMode"), accessFlags := 16409, slot := 3, constantValue := 0 }, { name := "value", type := (.object "java/lang/String"), accessFlags := 18, slot := 3, constantValue := 0 }, { name := "$VALUES", type := (.array (.object "com/example/spojka/spojka/AutowireMode")), accessFlags := 4122, slot := 4, constantValue := 0 }]
  methods := #[k10m0, k10m1]
  instanceTypes := #[(.object "java/lang/String"), .int, .int, (.object "java/lang/String")]
  staticTypes := #[(.object "com/example/spojka/spojka/AutowireMode"), (.object "com/example/spojka/spojka/AutowireMode"), (.object "com/example/spojka/spojka/AutowireMode"), (.object "com/example/spojka/spojka/AutowireMode"), (.array (.object "com/example/spojka/spojka/AutowireMode"))]
  resolved := Array.replicate 130 none
  statics := some 1 }

def pool11 : Array CpInfo := pool [(1, .class_ 2), (0, u "java/lang/Cloneable"), (0, .class_ 4), (0, u "java/lang/Object")] 2

/-- java/lang/Cloneable -/
def k11 : Class := { plain "java/lang/Cloneable" (some 0) with
  accessFlags := 1537
  interfaces := #[]
  cf := some (fileOf pool11 1 #[] #[] 1537 3 #[] #[])
  fields := #[]
  methods := #[]
  instanceTypes := #[]
  staticTypes := #[]
  resolved := Array.replicate 7 none
  statics := none }

def pool12 : Array CpInfo := pool [(4, .class_ 6), (1, u "java/lang/Object"), (0, u "<init>"), (0, u "()V"), (5, .class_ 16), (1, u "java/lang/StringLatin1"), (73, u "canEncode"), (14, u "(C)Z"), (15, u "$assertionsDisabled"), (0, u "Z"), (98, .class_ 223), (1, u "java/lang/StringLatin1$LinesSpliterator"), (57, u "equals"), (0, u "([B[B)Z"), (97, u "toBytes"), (1, u "(C)[B"), (7, .class_ 391), (0, u "java/lang/StringLatin1$CharsSpliterator")] 3

def k12m0 : Method := { name := "<init>", desc := "()V", sig := { parameters := [], returnType := none }, accessFlags := 0, code := none }
def k12c1 : Code := { maxStack := 2, maxLocals := 1, code := jdk_43_method_3_code, exceptionTable := #[], attributes := #[] }
def k12m1 : Method := { name := "canEncode", desc := "(C)Z", sig := { parameters := [.char], returnType := some .boolean }, accessFlags := 9, code := some k12c1 }
def k12c2 : Code := { maxStack := 3, maxLocals := 3, code := jdk_43_method_13_code, exceptionTable := #[], attributes := #[] }
def k12m2 : Method := { name := "equals", desc := "([B[B)Z", sig := { parameters := [(.array .byte), (.array .byte)], returnType := some .boolean }, accessFlags := 9, code := some k12c2 }
def k12c3 : Code := { maxStack := 4, maxLocals := 1, code := jdk_43_method_46_code, exceptionTable := #[], attributes := #[] }
def k12m3 : Method := { name := "toBytes", desc := "(C)[B", sig := { parameters := [.char], returnType := some (.array .byte) }, accessFlags := 9, code := some k12c3 }
/-- java/lang/StringLatin1 -/
def k12 : Class := { plain "java/lang/StringLatin1" (some 0) with
  accessFlags := 48
  interfaces := #[]
  cf := some (fileOf pool12 14 #[.nestMembers #[390, 221]] #[{ accessFlags := 0, nameIndex := 7, descriptorIndex := 8, attributes := #[] }, { accessFlags := 9, nameIndex := 90, descriptorIndex := 105, attributes := #[] }, { accessFlags := 9, nameIndex := 281, descriptorIndex := 282, attributes := #[] }, { accessFlags := 9, nameIndex := 380, descriptorIndex := 382, attributes := #[] }] 48 4 #[] #[{ accessFlags := 4120, nameIndex := 121, descriptorIndex := 122, attributes := #[] }])
  fields := #[{ name := "$assertionsDisabled", type := .boolean, accessFlags := 4120, slot := 0, constantValue := 0 }]
  methods := #[k12m0, k12m1, k12m2, k12m3]
  instanceTypes := #[]
  staticTypes := #[.boolean]
  resolved := Array.replicate 395 none
  statics := none }

def pool13 : Array CpInfo := pool [(2, .class_ 4), (1, u "java/lang/Object"), (0, u "<init>"), (0, u "()V"), (17, .class_ 26), (1, u "jdk/internal/util/Preconditions"), (28, .class_ 56), (0, u "jdk/internal/util/Preconditions$4"), (57, .class_ 115), (0, u "jdk/internal/util/Preconditions$1"), (7, u "SIOOBE_FORMATTER"), (0, u "Ljava/util/function/BiFunction;"), (0, .class_ 126), (0, u "jdk/internal/util/Preconditions$2"), (3, u "AIOOBE_FORMATTER"), (0, .class_ 132), (0, u "jdk/internal/util/Preconditions$3"), (3, u "IOOBE_FORMATTER")] 57

def k13m0 : Method := { name := "<init>", desc := "()V", sig := { parameters := [], returnType := none }, accessFlags := 1, code := none }
/-- jdk/internal/util/Preconditions -/
def k13 : Class := { plain "jdk/internal/util/Preconditions" (some 0) with
  accessFlags := 33
  interfaces := #[]
  cf := some (fileOf pool13 24 #[.nestMembers #[55, 131, 125, 114]] #[{ accessFlags := 1, nameIndex := 5, descriptorIndex := 6, attributes := #[] }] 33 2 #[] #[{ accessFlags := 25, nameIndex := 123, descriptorIndex := 124, attributes := #[] }, { accessFlags := 25, nameIndex := 130, descriptorIndex := 124, attributes := #[] }, { accessFlags := 25, nameIndex := 136, descriptorIndex := 124, attributes := #[] }])
  fields := #[{ name := "SIOOBE_FORMATTER", type := (.object "java/util/function/BiFunction"), accessFlags := 25, slot := 0, constantValue := 0 }, { name := "AIOOBE_FORMATTER", type := (.object "java/util/function/BiFunction"), accessFlags := 25, slot := 1, constantValue := 0 }, { name := "IOOBE_FORMATTER", type := (.object "java/util/function/BiFunction"), accessFlags := 25, slot := 2, constantValue := 0 }]
  methods := #[k13m0]
  instanceTypes := #[]
  staticTypes := #[(.object "java/util/function/BiFunction"), (.object "java/util/function/BiFunction"), (.object "java/util/function/BiFunction")]
  resolved := Array.replicate 194 none
  statics := some 2 }

def pool14 : Array CpInfo := pool [(9, u "<init>"), (6, .class_ 18), (1, u "java/lang/Object"), (0, u "()V"), (1, .class_ 23), (1, u "jdk/internal/util/ArraysSupport"), (0, u "LOG2_ARRAY_LONG_INDEX_SCALE"), (0, u "I"), (2, u "U"), (0, u "Ljdk/internal/misc/Unsafe;"), (8, u "BIG_ENDIAN"), (0, u "Z"), (8, u "LOG2_BYTE_BIT_SIZE"), (4, u "LOG2_ARRAY_INT_INDEX_SCALE"), (54, u "JLA"), (0, u "Ljdk/internal/access/JavaLangAccess;"), (11, u "LOG2_ARRAY_BOOLEAN_INDEX_SCALE"), (9, u "LOG2_ARRAY_BYTE_INDEX_SCALE"), (5, u "LOG2_ARRAY_CHAR_INDEX_SCALE"), (5, u "LOG2_ARRAY_SHORT_INDEX_SCALE"), (18, u "LOG2_ARRAY_FLOAT_INDEX_SCALE"), (24, u "LOG2_ARRAY_DOUBLE_INDEX_SCALE"), (89, u "T_BOOLEAN"), (2, u "T_CHAR"), (1, u "T_FLOAT"), (1, u "T_DOUBLE"), (1, u "T_BYTE"), (1, u "T_SHORT"), (1, u "T_INT"), (1, u "T_LONG"), (1, u "SOFT_MAX_ARRAY_LENGTH")] 83

def k14m0 : Method := { name := "<init>", desc := "()V", sig := { parameters := [], returnType := none }, accessFlags := 2, code := none }
/-- jdk/internal/util/ArraysSupport -/
def k14 : Class := { plain "jdk/internal/util/ArraysSupport" (some 0) with
  accessFlags := 33
  interfaces := #[]
  cf := some (fileOf pool14 21 #[] #[{ accessFlags := 2, nameIndex := 9, descriptorIndex := 19, attributes := #[] }] 33 16 #[] #[{ accessFlags := 24, nameIndex := 28, descriptorIndex := 29, attributes := #[] }, { accessFlags := 26, nameIndex := 38, descriptorIndex := 39, attributes := #[] }, { accessFlags := 25, nameIndex := 121, descriptorIndex := 25, attributes := #[] }, { accessFlags := 25, nameIndex := 131, descriptorIndex := 25, attributes := #[] }, { accessFlags := 25, nameIndex := 137, descriptorIndex := 25, attributes := #[] }, { accessFlags := 25, nameIndex := 143, descriptorIndex := 25, attributes := #[] }, { accessFlags := 25, nameIndex := 53, descriptorIndex := 25, attributes := #[] }, { accessFlags := 25, nameIndex := 24, descriptorIndex := 25, attributes := #[] }, { accessFlags := 25, nameIndex := 162, descriptorIndex := 25, attributes := #[] }, { accessFlags := 25, nameIndex := 187, descriptorIndex := 25, attributes := #[] }, { accessFlags := 26, nameIndex := 48, descriptorIndex := 25, attributes := #[] }, { accessFlags := 25, nameIndex := 277, descriptorIndex := 25, attributes := #[] }, { accessFlags := 25, nameIndex := 280, descriptorIndex := 25, attributes := #[] }, { accessFlags := 25, nameIndex := 282, descriptorIndex := 25, attributes := #[] }, { accessFlags := 25, nameIndex := 284, descriptorIndex := 25, attributes := #[] }, { accessFlags := 25, nameIndex := 286, descriptorIndex := 25, attributes := #[] }, { accessFlags := 25, nameIndex := 288, descriptorIndex := 25, attributes := #[] }, { accessFlags := 25, nameIndex := 290, descriptorIndex := 25, attributes := #[] }, { accessFlags := 25, nameIndex := 292, descriptorIndex := 25, attributes := #[] }, { accessFlags := 26, nameIndex := 108, descriptorIndex := 109, attributes := #[] }, { accessFlags := 25, nameIndex := 294, descriptorIndex := 25, attributes := #[] }])
  fields := #[{ name := "U", type := (.object "jdk/internal/misc/Unsafe"), accessFlags := 24, slot := 0, constantValue := 0 }, { name := "BIG_ENDIAN", type := .boolean, accessFlags := 26, slot := 1, constantValue := 0 }, { name := "LOG2_ARRAY_BOOLEAN_INDEX_SCALE", type := .int, accessFlags := 25, slot := 2, constantValue := 0 }, { name := "LOG2_ARRAY_BYTE_INDEX_SCALE", type := .int, accessFlags := 25, slot := 3, constantValue := 0 }, { name := "LOG2_ARRAY_CHAR_INDEX_SCALE", type := .int, accessFlags := 25, slot := 4, constantValue := 0 }, { name := "LOG2_ARRAY_SHORT_INDEX_SCALE", type := .int, accessFlags := 25, slot := 5, constantValue := 0 }, { name := "LOG2_ARRAY_INT_INDEX_SCALE", type := .int, accessFlags := 25, slot := 6, constantValue := 0 }, { name := "LOG2_ARRAY_LONG_INDEX_SCALE", type := .int, accessFlags := 25, slot := 7, constantValue := 0 }, { name := "LOG2_ARRAY_FLOAT_INDEX_SCALE", type := .int, accessFlags := 25, slot := 8, constantValue := 0 }, { name := "LOG2_ARRAY_DOUBLE_INDEX_SCALE", type := .int, accessFlags := 25, slot := 9, constantValue := 0 }, { name := "LOG2_BYTE_BIT_SIZE", type := .int, accessFlags := 26, slot := 10, constantValue := 0 }, { name := "T_BOOLEAN", type := .int, accessFlags := 25, slot := 11, constantValue := 0 }, { name := "T_CHAR", type := .int, accessFlags := 25, slot := 12, constantValue := 0 }, { name := "T_FLOAT", type := .int, accessFlags := 25, slot := 13, constantValue := 0 }, { name := "T_DOUBLE", type := .int, accessFlags := 25, slot := 14, constantValue := 0 }, { name := "T_BYTE", type := .int, accessFlags := 25, slot := 15, constantValue := 0 }, { name := "T_SHORT", type := .int, accessFlags := 25, slot := 16, constantValue := 0 }, { name := "T_INT", type := .int, accessFlags := 25, slot := 17, constantValue := 0 }, { name := "T_LONG", type := .int, accessFlags := 25, slot := 18, constantValue := 0 }, { name := "JLA", type := (.object "jdk/internal/access/JavaLangAccess"), accessFlags := 26, slot := 19, constantValue := 0 }, { name := "SOFT_MAX_ARRAY_LENGTH", type := .int, accessFlags := 25, slot := 20, constantValue := 0 }]
  methods := #[k14m0]
  instanceTypes := #[]
  staticTypes := #[(.object "jdk/internal/misc/Unsafe"), .boolean, .int, .int, .int, .int, .int, .int, .int, .int, .int, .int, .int, .int, .int, .int, .int, .int, .int, (.object "jdk/internal/access/JavaLangAccess"), .int]
  resolved := Array.replicate 378 none
  statics := none }

/-- the primitive byte -/
def k15 : Class := { plain "byte" none with kind := .primitive 'B', accessFlags := 0x411 }
/-- [B -/
def k16 : Class := { plain "[B" (some 0) with kind := .array 15 .byte, interfaces := #[11, 2], accessFlags := 1041 }

/-- the primitive char -/
def k17 : Class := { plain "char" none with kind := .primitive 'C', accessFlags := 0x411 }
/-- [C -/
def k18 : Class := { plain "[C" (some 0) with kind := .array 17 .char, interfaces := #[11, 2], accessFlags := 1041 }

/-- the primitive int -/
def k19 : Class := { plain "int" none with kind := .primitive 'I', accessFlags := 0x411 }
/-- [I -/
def k20 : Class := { plain "[I" (some 0) with kind := .array 19 .int, interfaces := #[11, 2], accessFlags := 1041 }

/-- [Lcom/example/spojka/spojka/AutowireMode; -/
def k21 : Class := { plain "[Lcom/example/spojka/spojka/AutowireMode;" (some 0) with kind := .array 10 (.object "com/example/spojka/spojka/AutowireMode"), interfaces := #[11, 2], accessFlags := 1041 }

def heap : Heap := #[{ cls := 7, slots := #[.long 0, .int 1, .null, .int 0, .null, .int 0, .int 0], vm := .statics 7 },
  { cls := 10, slots := #[.ref 4, .ref 5, .ref 6, .ref 7, .ref 3], vm := .statics 10 },
  { cls := 13, slots := #[.null, .null, .null], vm := .statics 13 },
  { cls := 21, slots := #[.ref 4, .ref 5, .ref 6, .ref 7], vm := .none },
  { cls := 10, slots := #[.null, .int 0, .int 0, .ref 8], vm := .none },
  { cls := 10, slots := #[.null, .int 1, .int 0, .ref 9], vm := .none },
  { cls := 10, slots := #[.null, .int 2, .int 0, .ref 10], vm := .none },
  { cls := 10, slots := #[.null, .int 3, .int 0, .ref 11], vm := .none },
  { cls := 7, slots := #[.ref 12, .int 0, .int 0, .int 0], vm := .none },
  { cls := 7, slots := #[.ref 13, .int 0, .int 0, .int 0], vm := .none },
  { cls := 7, slots := #[.ref 14, .int 0, .int 0, .int 0], vm := .none },
  { cls := 7, slots := #[.ref 15, .int 0, .int 0, .int 0], vm := .none },
  { cls := 16, slots := #[.int 110, .int 111], vm := .none },
  { cls := 16, slots := #[.int 98, .int 121, .int 78, .int 97, .int 109, .int 101], vm := .none },
  { cls := 16, slots := #[.int 98, .int 121, .int 84, .int 121, .int 112, .int 101], vm := .none },
  { cls := 16, slots := #[.int 99, .int 111, .int 110, .int 115, .int 116, .int 114, .int 117, .int 99, .int 116, .int 111, .int 114], vm := .none }]
def classes : Array Class := #[k0, k1, k2, k3, k4, k5, k6, k7, k8, k9, k10, k11, k12, k13, k14, k15, k16, k17, k18, k19, k20, k21]
def interned : List (Array UInt16 × Addr) := []
def slotsUsed : Nat := 76
def theMethod : MethodId := ⟨1, 1⟩
def args0 : Array Value := #[.int 5, .int 6, .int 7, .int 8]
def aboutOver (below : List Frame) : State where
  vm := { classes := classes, interned := interned.toArray }
  heap := heap
  slotsUsed := slotsUsed
  threads := #[{ frames := .invoking theMethod args0 :: below }]
def below0 : List Frame := [.native { method := ⟨0, 0⟩, args := #[] }]
def about1 : State := aboutOver below0
def p0 : Program := .bare "" "" ""
def e0 : Env := launch0.env 0 0 0
theorem w_frames : about1.frames = Frame.invoking theMethod args0 :: below0 := rfl
set_option maxRecDepth 65536 in
theorem w_args : argsFit about1.vm theMethod args0 = true := by decide +kernel
set_option maxRecDepth 65536 in
theorem w_heap : heapFits about1 = true := by decide +kernel
set_option maxRecDepth 65536 in
theorem w_runnable : about1.curStatus? = some .runnable := by decide +kernel
set_option maxRecDepth 65536 in
theorem w_alone : about1.alone = true := by decide +kernel
set_option maxRecDepth 65536 in
theorem w_named : about1.methodNamed? x = some theMethod := by decide +kernel
set_option maxRecDepth 65536 in
theorem w_hears : about1.hears theMethod below0 = true := by decide +kernel
set_option maxRecDepth 65536 in
theorem w_ripe : about1.ripe theMethod args0 below0 = true := by decide +kernel
theorem w_running : about1.status = .running := rfl
set_option maxRecDepth 65536 in
theorem w_room : about1.hasRoom e0.platform room_1 = true :=
  launch0.hasRoom_least _ room_1 (by decide +kernel) (by decide +kernel) (by decide +kernel) (by decide +kernel) (by decide +kernel) (by decide +kernel)
theorem allAtoms_all (ts : List Jvm.Cond) (a : Array Jvm.Value) (st : Jvm.State) : (allAtoms ts).before a st = ts.all (fun c => c.before a st) := by
  induction ts with
  | nil => rfl
  | cons c t ih =>
    show (Jvm.Cond.and c (allAtoms t)).before a st = _
    rw [Jvm.Cond.before_and, ih, List.all_cons]
def words1 : List Jvm.Cond := Jvm.Cond.code x code maxLocals ret :: tables_1
/-- a 'code' word, met by the world's own term for the bytes: nothing is compared byte by byte -/
theorem code_word {y : MethodName} {bytes : ByteArray} {mx : Nat} {rt : Option FieldType} {a : Array Value} {s : State} {m : MethodId} {meth : Method} {c : Code} (h1 : s.methodNamed? y = some m) (h2 : s.vm.method? m = some meth) (h3 : meth.code = some c) (h4 : c.code = bytes)
    (h5 : (c.maxLocals == mx && c.exceptionTable.isEmpty && decide (c.maxStack ≤ mostOperands) && decide (meth.sig.returnType = rt) && !meth.locks && decide (parseMethodDescriptor y.desc = some meth.sig)) = true) : (Jvm.Cond.code y bytes mx rt).before a s = true := by
  simp only [Bool.and_eq_true, beq_iff_eq, Bool.not_eq_true', decide_eq_true_eq] at h5
  obtain ⟨⟨⟨⟨⟨g1, g2⟩, g3⟩, g4⟩, g5⟩, g6⟩ := h5
  simp [Cond.before, Cond.holds, Cond.value, h1, h2, h3, h4, g1, g2, g3, g4, g5, g6]
def isCode : Jvm.Cond → Bool
  | .code _ _ _ _ => true
  | _ => false
theorem all_split {L : List Jvm.Cond} {P : Jvm.Cond → Bool} (h1 : L.all (fun c => isCode c || P c) = true) (h2 : ∀ c ∈ L.filter isCode, P c = true) : L.all P = true := by
  refine List.all_eq_true.mpr fun c hc => ?_
  have h := List.all_eq_true.mp h1 c hc
  rcases Bool.eq_false_or_eq_true (isCode c) with hi | hi
  · exact h2 c (List.mem_filter.mpr ⟨hc, hi⟩)
  · simpa [hi] using h
set_option maxRecDepth 65536 in
theorem w_c0 : (Jvm.Cond.code x code maxLocals ret).before args0 about1 = true := code_word (m := ⟨1, 1⟩) (meth := k1m1) (c := k1c1) (by decide +kernel) rfl rfl rfl (by decide +kernel)
set_option maxRecDepth 65536 in
theorem w_c1 : (Jvm.Cond.code ({ cls := "com/example/spojka/spojka/AutowireModeNamedPinLaw", name := "word", desc := "(I)[C" } : Jvm.MethodName) method_4_code (1 : Nat) (Option.some (Jvm.ClassFile.FieldType.array Jvm.ClassFile.FieldType.char))).before args0 about1 = true := code_word (m := ⟨1, 3⟩) (meth := k1m3) (c := k1c3) (by decide +kernel) rfl rfl rfl (by decide +kernel)
set_option maxRecDepth 65536 in
theorem w_c2 : (Jvm.Cond.code ({ cls := "java/lang/String", name := "<init>", desc := "([C)V" } : Jvm.MethodName) jdk_42_method_3_code (2 : Nat) (Option.none : Option Jvm.ClassFile.FieldType)).before args0 about1 = true := code_word (m := ⟨7, 1⟩) (meth := k7m1) (c := k7c1) (by decide +kernel) rfl rfl rfl (by decide +kernel)
set_option maxRecDepth 65536 in
theorem w_c3 : (Jvm.Cond.code ({ cls := "java/lang/String", name := "<init>", desc := "([CIILjava/lang/Void;)V" } : Jvm.MethodName) jdk_42_method_149_code (6 : Nat) (Option.none : Option Jvm.ClassFile.FieldType)).before args0 about1 = true := code_word (m := ⟨7, 4⟩) (meth := k7m4) (c := k7c4) (by decide +kernel) rfl rfl rfl (by decide +kernel)
set_option maxRecDepth 65536 in
theorem w_c4 : (Jvm.Cond.code ({ cls := "java/lang/Object", name := "<init>", desc := "()V" } : Jvm.MethodName) object_method_1_code (1 : Nat) (Option.none : Option Jvm.ClassFile.FieldType)).before args0 about1 = true := code_word (m := ⟨0, 0⟩) (meth := k0m0) (c := k0c0) (by decide +kernel) rfl rfl rfl (by decide +kernel)
set_option maxRecDepth 65536 in
theorem w_c5 : (Jvm.Cond.code ({ cls := "java/lang/StringUTF16", name := "compress", desc := "([CII)[B" } : Jvm.MethodName) jdk_52_method_16_code (6 : Nat) (Option.some (Jvm.ClassFile.FieldType.array Jvm.ClassFile.FieldType.byte))).before args0 about1 = true := code_word (m := ⟨8, 2⟩) (meth := k8m2) (c := k8c2) (by decide +kernel) rfl rfl rfl (by decide +kernel)
set_option maxRecDepth 65536 in
theorem w_c6 : (Jvm.Cond.code ({ cls := "java/lang/StringUTF16", name := "compress", desc := "([CI[BII)I" } : Jvm.MethodName) jdk_52_method_21_code (7 : Nat) (Option.some Jvm.ClassFile.FieldType.int)).before args0 about1 = true := code_word (m := ⟨8, 3⟩) (meth := k8m3) (c := k8c3) (by decide +kernel) rfl rfl rfl (by decide +kernel)
set_option maxRecDepth 65536 in
theorem w_c7 : (Jvm.Cond.code ({ cls := "java/lang/StringUTF16", name := "coderFromArrayLen", desc := "([BI)B" } : Jvm.MethodName) jdk_52_method_15_code (2 : Nat) (Option.some Jvm.ClassFile.FieldType.byte)).before args0 about1 = true := code_word (m := ⟨8, 1⟩) (meth := k8m1) (c := k8c1) (by decide +kernel) rfl rfl rfl (by decide +kernel)
set_option maxRecDepth 65536 in
theorem w_c8 : (Jvm.Cond.code ({ cls := "com/example/spojka/spojka/AutowireMode", name := "named", desc := "(Ljava/lang/String;)Lcom/example/spojka/spojka/AutowireMode;" } : Jvm.MethodName) prog_10_method_4_code (5 : Nat) (Option.some (Jvm.ClassFile.FieldType.object "com/example/spojka/spojka/AutowireMode"))).before args0 about1 = true := code_word (m := ⟨10, 1⟩) (meth := k10m1) (c := k10c1) (by decide +kernel) rfl rfl rfl (by decide +kernel)
set_option maxRecDepth 65536 in
theorem w_c9 : (Jvm.Cond.code ({ cls := "com/example/spojka/spojka/AutowireMode", name := "values", desc := "()[Lcom/example/spojka/spojka/AutowireMode;" } : Jvm.MethodName) prog_10_method_1_code (0 : Nat) (Option.some (Jvm.ClassFile.FieldType.array (Jvm.ClassFile.FieldType.object "com/example/spojka/spojka/AutowireMode")))).before args0 about1 = true := code_word (m := ⟨10, 0⟩) (meth := k10m0) (c := k10c0) (by decide +kernel) rfl rfl rfl (by decide +kernel)
set_option maxRecDepth 65536 in
theorem w_c10 : (Jvm.Cond.code ({ cls := "java/lang/String", name := "equals", desc := "(Ljava/lang/Object;)Z" } : Jvm.MethodName) jdk_42_method_66_code (3 : Nat) (Option.some Jvm.ClassFile.FieldType.boolean)).before args0 about1 = true := code_word (m := ⟨7, 2⟩) (meth := k7m2) (c := k7c2) (by decide +kernel) rfl rfl rfl (by decide +kernel)
set_option maxRecDepth 65536 in
theorem w_c11 : (Jvm.Cond.code ({ cls := "java/lang/StringLatin1", name := "equals", desc := "([B[B)Z" } : Jvm.MethodName) jdk_43_method_13_code (3 : Nat) (Option.some Jvm.ClassFile.FieldType.boolean)).before args0 about1 = true := code_word (m := ⟨12, 2⟩) (meth := k12m2) (c := k12c2) (by decide +kernel) rfl rfl rfl (by decide +kernel)
set_option maxRecDepth 65536 in
theorem w_c12 : (Jvm.Cond.code ({ cls := "com/example/spojka/spojka/AutowireModeNamedPinLaw", name := "expected", desc := "(Ljava/lang/String;)Lcom/example/spojka/spojka/AutowireMode;" } : Jvm.MethodName) method_3_code (1 : Nat) (Option.some (Jvm.ClassFile.FieldType.object "com/example/spojka/spojka/AutowireMode"))).before args0 about1 = true := code_word (m := ⟨1, 2⟩) (meth := k1m2) (c := k1c2) (by decide +kernel) rfl rfl rfl (by decide +kernel)
set_option maxRecDepth 65536 in
theorem w_c13 : (Jvm.Cond.code ({ cls := "com/example/spojka/spojka/AutowireModeNamedPinLaw", name := "shorter", desc := "(I)[C" } : Jvm.MethodName) method_5_code (1 : Nat) (Option.some (Jvm.ClassFile.FieldType.array Jvm.ClassFile.FieldType.char))).before args0 about1 = true := code_word (m := ⟨1, 4⟩) (meth := k1m4) (c := k1c4) (by decide +kernel) rfl rfl rfl (by decide +kernel)
set_option maxRecDepth 65536 in
theorem w_c14 : (Jvm.Cond.code ({ cls := "com/example/spojka/spojka/AutowireModeNamedPinLaw", name := "longer", desc := "(IC)[C" } : Jvm.MethodName) method_6_code (2 : Nat) (Option.some (Jvm.ClassFile.FieldType.array Jvm.ClassFile.FieldType.char))).before args0 about1 = true := code_word (m := ⟨1, 5⟩) (meth := k1m5) (c := k1c5) (by decide +kernel) rfl rfl rfl (by decide +kernel)
set_option maxRecDepth 65536 in
theorem w_c15 : (Jvm.Cond.code ({ cls := "java/lang/String", name := "valueOf", desc := "(C)Ljava/lang/String;" } : Jvm.MethodName) jdk_42_method_139_code (1 : Nat) (Option.some (Jvm.ClassFile.FieldType.object "java/lang/String"))).before args0 about1 = true := code_word (m := ⟨7, 3⟩) (meth := k7m3) (c := k7c3) (by decide +kernel) rfl rfl rfl (by decide +kernel)
set_option maxRecDepth 65536 in
theorem w_c16 : (Jvm.Cond.code ({ cls := "java/lang/StringLatin1", name := "canEncode", desc := "(C)Z" } : Jvm.MethodName) jdk_43_method_3_code (1 : Nat) (Option.some Jvm.ClassFile.FieldType.boolean)).before args0 about1 = true := code_word (m := ⟨12, 1⟩) (meth := k12m1) (c := k12c1) (by decide +kernel) rfl rfl rfl (by decide +kernel)
set_option maxRecDepth 65536 in
theorem w_c17 : (Jvm.Cond.code ({ cls := "java/lang/StringLatin1", name := "toBytes", desc := "(C)[B" } : Jvm.MethodName) jdk_43_method_46_code (1 : Nat) (Option.some (Jvm.ClassFile.FieldType.array Jvm.ClassFile.FieldType.byte))).before args0 about1 = true := code_word (m := ⟨12, 3⟩) (meth := k12m3) (c := k12c3) (by decide +kernel) rfl rfl rfl (by decide +kernel)
set_option maxRecDepth 65536 in
theorem w_c18 : (Jvm.Cond.code ({ cls := "java/lang/String", name := "<init>", desc := "([BB)V" } : Jvm.MethodName) jdk_42_method_151_code (3 : Nat) (Option.none : Option Jvm.ClassFile.FieldType)).before args0 about1 = true := code_word (m := ⟨7, 5⟩) (meth := k7m5) (c := k7c5) (by decide +kernel) rfl rfl rfl (by decide +kernel)
def codes1 : List Jvm.Cond := [Jvm.Cond.code x code maxLocals ret, Jvm.Cond.code ({ cls := "com/example/spojka/spojka/AutowireModeNamedPinLaw", name := "word", desc := "(I)[C" } : Jvm.MethodName) method_4_code (1 : Nat) (Option.some (Jvm.ClassFile.FieldType.array Jvm.ClassFile.FieldType.char)), Jvm.Cond.code ({ cls := "java/lang/String", name := "<init>", desc := "([C)V" } : Jvm.MethodName) jdk_42_method_3_code (2 : Nat) (Option.none : Option Jvm.ClassFile.FieldType), Jvm.Cond.code ({ cls := "java/lang/String", name := "<init>", desc := "([CIILjava/lang/Void;)V" } : Jvm.MethodName) jdk_42_method_149_code (6 : Nat) (Option.none : Option Jvm.ClassFile.FieldType), Jvm.Cond.code ({ cls := "java/lang/Object", name := "<init>", desc := "()V" } : Jvm.MethodName) object_method_1_code (1 : Nat) (Option.none : Option Jvm.ClassFile.FieldType), Jvm.Cond.code ({ cls := "java/lang/StringUTF16", name := "compress", desc := "([CII)[B" } : Jvm.MethodName) jdk_52_method_16_code (6 : Nat) (Option.some (Jvm.ClassFile.FieldType.array Jvm.ClassFile.FieldType.byte)), Jvm.Cond.code ({ cls := "java/lang/StringUTF16", name := "compress", desc := "([CI[BII)I" } : Jvm.MethodName) jdk_52_method_21_code (7 : Nat) (Option.some Jvm.ClassFile.FieldType.int), Jvm.Cond.code ({ cls := "java/lang/StringUTF16", name := "coderFromArrayLen", desc := "([BI)B" } : Jvm.MethodName) jdk_52_method_15_code (2 : Nat) (Option.some Jvm.ClassFile.FieldType.byte), Jvm.Cond.code ({ cls := "com/example/spojka/spojka/AutowireMode", name := "named", desc := "(Ljava/lang/String;)Lcom/example/spojka/spojka/AutowireMode;" } : Jvm.MethodName) prog_10_method_4_code (5 : Nat) (Option.some (Jvm.ClassFile.FieldType.object "com/example/spojka/spojka/AutowireMode")), Jvm.Cond.code ({ cls := "com/example/spojka/spojka/AutowireMode", name := "values", desc := "()[Lcom/example/spojka/spojka/AutowireMode;" } : Jvm.MethodName) prog_10_method_1_code (0 : Nat) (Option.some (Jvm.ClassFile.FieldType.array (Jvm.ClassFile.FieldType.object "com/example/spojka/spojka/AutowireMode"))), Jvm.Cond.code ({ cls := "java/lang/String", name := "equals", desc := "(Ljava/lang/Object;)Z" } : Jvm.MethodName) jdk_42_method_66_code (3 : Nat) (Option.some Jvm.ClassFile.FieldType.boolean), Jvm.Cond.code ({ cls := "java/lang/StringLatin1", name := "equals", desc := "([B[B)Z" } : Jvm.MethodName) jdk_43_method_13_code (3 : Nat) (Option.some Jvm.ClassFile.FieldType.boolean), Jvm.Cond.code ({ cls := "com/example/spojka/spojka/AutowireModeNamedPinLaw", name := "expected", desc := "(Ljava/lang/String;)Lcom/example/spojka/spojka/AutowireMode;" } : Jvm.MethodName) method_3_code (1 : Nat) (Option.some (Jvm.ClassFile.FieldType.object "com/example/spojka/spojka/AutowireMode")), Jvm.Cond.code ({ cls := "com/example/spojka/spojka/AutowireModeNamedPinLaw", name := "shorter", desc := "(I)[C" } : Jvm.MethodName) method_5_code (1 : Nat) (Option.some (Jvm.ClassFile.FieldType.array Jvm.ClassFile.FieldType.char)), Jvm.Cond.code ({ cls := "com/example/spojka/spojka/AutowireModeNamedPinLaw", name := "longer", desc := "(IC)[C" } : Jvm.MethodName) method_6_code (2 : Nat) (Option.some (Jvm.ClassFile.FieldType.array Jvm.ClassFile.FieldType.char)), Jvm.Cond.code ({ cls := "java/lang/String", name := "valueOf", desc := "(C)Ljava/lang/String;" } : Jvm.MethodName) jdk_42_method_139_code (1 : Nat) (Option.some (Jvm.ClassFile.FieldType.object "java/lang/String")), Jvm.Cond.code ({ cls := "java/lang/StringLatin1", name := "canEncode", desc := "(C)Z" } : Jvm.MethodName) jdk_43_method_3_code (1 : Nat) (Option.some Jvm.ClassFile.FieldType.boolean), Jvm.Cond.code ({ cls := "java/lang/StringLatin1", name := "toBytes", desc := "(C)[B" } : Jvm.MethodName) jdk_43_method_46_code (1 : Nat) (Option.some (Jvm.ClassFile.FieldType.array Jvm.ClassFile.FieldType.byte)), Jvm.Cond.code ({ cls := "java/lang/String", name := "<init>", desc := "([BB)V" } : Jvm.MethodName) jdk_42_method_151_code (3 : Nat) (Option.none : Option Jvm.ClassFile.FieldType)]
set_option maxRecDepth 65536 in
theorem codes_eq : words1.filter isCode = codes1 := rfl
theorem w_codes : ∀ c ∈ words1.filter isCode, c.before args0 about1 = true := by
  rw [codes_eq]
  intro c hc
  simp only [codes1, List.mem_cons, List.not_mem_nil, or_false] at hc
  rcases hc with rfl | rfl | rfl | rfl | rfl | rfl | rfl | rfl | rfl | rfl | rfl | rfl | rfl | rfl | rfl | rfl | rfl | rfl | rfl
  · exact w_c0
  · exact w_c1
  · exact w_c2
  · exact w_c3
  · exact w_c4
  · exact w_c5
  · exact w_c6
  · exact w_c7
  · exact w_c8
  · exact w_c9
  · exact w_c10
  · exact w_c11
  · exact w_c12
  · exact w_c13
  · exact w_c14
  · exact w_c15
  · exact w_c16
  · exact w_c17
  · exact w_c18
set_option maxRecDepth 65536 in
theorem w_t1 : (words1.take 24).all (fun c => isCode c || c.before args0 about1) = true := by decide +kernel
set_option maxRecDepth 65536 in
theorem w_t2 : ((words1.drop 24).take 24).all (fun c => isCode c || c.before args0 about1) = true := by decide +kernel
set_option maxRecDepth 65536 in
theorem w_t3 : (((words1.drop 24).drop 24).take 24).all (fun c => isCode c || c.before args0 about1) = true := by decide +kernel
set_option maxRecDepth 65536 in
theorem w_t4 : ((((words1.drop 24).drop 24).drop 24).take 24).all (fun c => isCode c || c.before args0 about1) = true := by decide +kernel
set_option maxRecDepth 65536 in
theorem w_t5 : ((((words1.drop 24).drop 24).drop 24).drop 24).all (fun c => isCode c || c.before args0 about1) = true := by decide +kernel
theorem w_tables : (allAtoms (Jvm.Cond.code x code maxLocals ret :: tables_1)).before args0 about1 = true := by
  rw [allAtoms_all]
  show words1.all (fun c => c.before args0 about1) = true
  refine all_split ?_ w_codes
  rw [← List.take_append_drop 24 words1, List.all_append, w_t1, ← List.take_append_drop 24 (words1.drop 24), List.all_append, w_t2, ← List.take_append_drop 24 ((words1.drop 24).drop 24), List.all_append, w_t3, ← List.take_append_drop 24 (((words1.drop 24).drop 24).drop 24), List.all_append, w_t4, w_t5]
  rfl
set_option maxRecDepth 65536 in
theorem w_rest : rest_1_c.before args0 about1 = true := by decide +kernel
set_option maxRecDepth 65536 in
theorem w_case : (Jvm.Cond.and given_1 narrow_1).before args0 about1 = true := by decide +kernel
set_option maxRecDepth 65536 in
theorem w_consts : constsHeld consts_1 about1 := Jvm.Lit.constsHeldB_iff.mp (by decide +kernel)
theorem w_applies : (headSpec (Jvm.Cond.code x code maxLocals ret :: tables_1) room_1).applies x e0.platform about1 = true :=
  (Spec.applies_iff w_frames).mpr ⟨w_running, w_runnable, w_alone, w_named, w_hears, w_ripe, w_room, w_tables⟩
theorem atStart : AtStart classFile x code maxLocals ret World_1 tables_1 room_1 Calls_1 rest_1 Pre_1 launch0 p0 e0 about1 theMethod args0 below0 :=
  ⟨lists_1, trivial, launch0.admits_env _ _ _, launch0.least_env, fairChoices_fair.cas, fairChoices_fair.clock, w_frames, w_args, w_heap, w_applies, ⟨w_consts, trivial⟩, w_rest, w_case⟩
end start1
theorem witness_1 : WitnessClaimed_1 := ⟨start1.p0, start1.e0, start1.about1, start1.theMethod, start1.args0, start1.below0, start1.atStart⟩
end Jvm.Pilot.@@N@@
