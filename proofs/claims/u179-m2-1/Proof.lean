import JvmDerived
import JvmDerived.Pilot.@@N@@Statement
import JvmDerived.Pilot.@@N@@Code
set_option linter.unusedVariables false
set_option linter.unusedSimpArgs false
namespace Jvm.RoadKit
open Sem ClassFile Op Lib Jvm.Stand Jvm.Free Jvm.LawKit
section New
variable {p : Program} {l : Launch} {e : Env} {R : Room} {s : State} {m : MethodId} {args : Array Value} {below : List Frame} {meth : Method} {c : Code} {T : State} {locs : List Loc} {cells slots : Nat}
theorem retI (X : Stand p l e R s m args below meth c T locs cells slots) (hx : p.tables.exec = Jvm.exec) {pc : Nat} {Ls : Array Slot} {z : Int32} {rest : List Value} (hret : meth.sig.returnType = some .int) (hd : decode c.code pc = .ok (.ireturn, 1)) {fs : List Frame}
    (hl : ∀ (f : JFrame) (acts : List Action), f.method = m → f.locked = none → f.entered = [] → (doReturn e (T.setTop f) acts (some (.int z))).1 = T.setFrames fs) : Steps p.tables e below (T.setTop (mkF m pc Ls (.int z :: rest))) (T.setFrames fs) := by
  have hm' : T.vm.method? m = some meth := X.method'
  have hn : narrow .int (.int z) = .int z := rfl
  show Steps p.tables e below (T.setTop { method := m, pc := pc, locals := Ls, stack := _ :: rest, locked := none }) _
  jvm_step X.here [X.here.top, hx, hd, hm', hret, hn]
  first | (intro acts; rw [hl _ acts rfl rfl rfl]) | rw [hl _ _ rfl rfl rfl]
  exact Steps.refl _
end New
end Jvm.RoadKit
/- laws to paste: Road.backV, Road.eqW, Road.codOf (cut by pick.py; bodies as the Statement names them) -/
namespace Jvm.Pilot.@@N@@
namespace StrChars
open Jvm Sem ClassFile Op Lib Jvm.Stand Jvm.Free.XT Jvm.Free.ALB Jvm.Free.JM Jvm.Free
open Jvm.Lib.Cold (StaticIs)
/-- a char array whose places are chars -/
def Ch (a : Addr) (A : Cell) (U : State) : Prop := Arr .char a A U ∧ Typed .char A
theorem Ch.mv {a : Addr} {A : Cell} {U U' : State} (h : Ch a A U) (hal : U.vm.Alike U'.vm) (hh : U'.heap = U.heap) : Ch a A U' := ⟨h.1.mv hal hh, h.2⟩
theorem Ch.keep {a : Addr} {A : Cell} {U U' : State} (h : Ch a A U) (hal : U.vm.Alike U'.vm) (hk : U'.heap[a]? = some A) : Ch a A U' := ⟨h.1.keep hal hk, h.2⟩
/-- what place i of a char[]'s cell holds -/
def cv (A : Cell) (i : Nat) : Int32 := match A.slots[i]? with | some (.int x) => x | _ => 0
theorem Ch.get {a : Addr} {A : Cell} {U : State} (h : Ch a A U) {i : Nat} (hi : i < A.slots.size) : A.slots[i]? = some (.int (cv A i)) := by
  have e := Array.getElem?_eq_getElem hi
  have f := h.2 i _ e
  unfold cv; rw [e]
  generalize A.slots[i] = v at f
  cases v <;> simp [fits] at f ⊢
/-- the byte that i2b leaves of a char -/
def lo8 (x : Int32) : Int32 := x.toInt8.toInt32
theorem fits_lo8 (y : Int32) : fits .byte (.int (lo8 y)) = true := by
  have h1 := y.toInt8.le_toInt
  have h2 := y.toInt8.toInt_lt
  simp only [lo8, fits, Bool.and_eq_true, decide_eq_true_eq, Int32.le_iff_toInt_le, Int8.toInt_toInt32, show (-128 : Int32).toInt = -128 from by decide, show (127 : Int32).toInt = 127 from by decide]
  omega
/-- A' is A but that each place j of lo .. hi - 1 holds f j -/
def Laid (A A' : Cell) (lo hi : Nat) (f : Nat → Value) : Prop := A'.cls = A.cls ∧ A'.vm = A.vm ∧ A'.slots.size = A.slots.size ∧ ∀ i, A'.slots[i]? = if lo ≤ i ∧ i < hi then some (f i) else A.slots[i]?
theorem Laid.zero (A : Cell) (lo : Nat) (f : Nat → Value) : Laid A A lo (lo + 0) f := ⟨rfl, rfl, rfl, fun i => by rw [if_neg (by omega)]⟩
theorem Laid.step {A Ak : Cell} {lo k : Nat} {f : Nat → Value} {v : Value} (h : Laid A Ak lo k f) (hlo : lo ≤ k) (hk : k < Ak.slots.size) (hv : v = f k) : Laid A (Ak.setSlot k v) lo (k + 1) f := by
  refine ⟨h.1, h.2.1, by simpa [Cell.setSlot] using h.2.2.1, fun i => ?_⟩
  by_cases e : k = i
  · subst e; rw [Cell.slots_setSlot_self v hk, if_pos (by omega), hv]
  · rw [Cell.slots_setSlot_ne v e, h.2.2.2 i]
    by_cases q : lo ≤ i ∧ i < k
    · rw [if_pos q, if_pos (by omega)]
    · rw [if_neg q, if_neg (by omega)]
def U16 : String := "java/lang/StringUTF16"
namespace Cmp5
def yN : MethodName := ⟨"java/lang/StringUTF16", "compress", "([CI[BII)I"⟩
abbrev yB : ByteArray := jdk_52_method_21_code
theorem d0 : decode yB 0 = .ok (.iconst 0, 1) := by decide +kernel
theorem d1 : decode yB 1 = .ok (.istore 5, 2) := by decide +kernel
theorem d3 : decode yB 3 = .ok (.iload 5, 2) := by decide +kernel
theorem d5 : decode yB 5 = .ok (.iload 4, 2) := by decide +kernel
theorem d7 : decode yB 7 = .ok (.if_icmp (.ge) 37, 3) := by decide +kernel
theorem d10 : decode yB 10 = .ok (.aload_n 0, 1) := by decide +kernel
theorem d11 : decode yB 11 = .ok (.iload_n 1, 1) := by decide +kernel
theorem d12 : decode yB 12 = .ok (.caload, 1) := by decide +kernel
theorem d13 : decode yB 13 = .ok (.istore 6, 2) := by decide +kernel
theorem d15 : decode yB 15 = .ok (.iload 6, 2) := by decide +kernel
theorem d17 : decode yB 17 = .ok (.sipush 255, 3) := by decide +kernel
theorem d20 : decode yB 20 = .ok (.if_icmp (.le) 6, 3) := by decide +kernel
theorem d26 : decode yB 26 = .ok (.aload_n 2, 1) := by decide +kernel
theorem d27 : decode yB 27 = .ok (.iload_n 3, 1) := by decide +kernel
theorem d28 : decode yB 28 = .ok (.iload 6, 2) := by decide +kernel
theorem d30 : decode yB 30 = .ok (.i2b, 1) := by decide +kernel
theorem d31 : decode yB 31 = .ok (.bastore, 1) := by decide +kernel
theorem d32 : decode yB 32 = .ok (.iinc 1 1, 3) := by decide +kernel
theorem d35 : decode yB 35 = .ok (.iinc 3 1, 3) := by decide +kernel
theorem d38 : decode yB 38 = .ok (.iinc 5 1, 3) := by decide +kernel
theorem d41 : decode yB 41 = .ok (.goto (-38), 3) := by decide +kernel
theorem d44 : decode yB 44 = .ok (.iload 4, 2) := by decide +kernel
theorem d46 : decode yB 46 = .ok (.ireturn, 1) := by decide +kernel
def site : List Cond := []
def tab : Cond := tabOf yN yB 7 (some .int) site
def P (b : Addr) (A : Cell) (d : Addr) (B : Cell) (o q len : Nat) (args : Array Value) (s : State) : Prop := args = #[.ref b, .int (Int32.ofNat o), .ref d, .int (Int32.ofNat q), .int (Int32.ofNat len)] ∧ Ch b A s ∧ Arr .byte d B s ∧ b ≠ d ∧ o + len ≤ A.slots.size ∧ q + len ≤ B.slots.size ∧ ∀ i, i < len → ¬ 255 < cv A (o + i)
def E (b : Addr) (A : Cell) (d : Addr) (B : Cell) (o q len : Nat) (r : Option Value) (s u : State) : Prop := r = some (.int (Int32.ofNat len)) ∧ ∃ B', Put d B' s u ∧ Laid B B' q (q + len) (fun j => Value.int (lo8 (cv A (o + (j - q)))))
/-- no char of the range above 255: len; the places written hold each char's low byte -/
theorem law (l : Launch) (b : Addr) (A : Cell) (d : Addr) (B : Cell) (o q len : Nat) : Law l yN 5 5 0 0 yB 7 (some .int) site (P b A d B o q len) (E b A d B o q len) (copyLocs d q len) 0 0 := by
  refine Law.of_walk (plainFor_of_name (by decide +kernel)) (by decide +kernel) (by decide +kernel) (by decide) (fun _ _ h => by rw [h.1]; rfl) (fun _ U U' hal hh h => ⟨h.1, h.2.1.mv hal hh, h.2.2.1.mv hal hh, h.2.2.2⟩) (fun r U U' V V' h1 hal h2 h => ⟨h.1, h.2.elim fun B' q => ⟨B', q.1.mv h1 h2, q.2⟩⟩) ?_
  intro p e s m args below meth c s₁ X0 hexec hbytes hml hret hlk hnm hown hh0 W hP
  obtain ⟨rfl, hA, hB, hne, l1, l2, hp⟩ := hP
  have c1 : Steps p.tables e below (s₁.setTop (entryFrame m #[.ref b, .int (Int32.ofNat o), .ref d, .int (Int32.ofNat q), .int (Int32.ofNat len)] 7)) (s₁.setTop (mkF m 0 #[.val (.ref b), .val (.int (Int32.ofNat o)), .val (.ref d), .val (.int (Int32.ofNat q)), .val (.int (Int32.ofNat len)), .unset, .unset] [])) := entry rfl
  have hA0 := hA.1.mv X0.warmed.alike hh0
  have hB0 := hB.mv X0.warmed.alike hh0
  have a31 := hA.1.2.2.2
  have c2 : Steps p.tables e below (s₁.setTop (entryFrame m #[.ref b, .int (Int32.ofNat o), .ref d, .int (Int32.ofNat q), .int (Int32.ofNat len)] 7)) (s₁.setTop (mkF m 3 #[.val (.ref b), .val (.int (Int32.ofNat o)), .val (.ref d), .val (.int (Int32.ofNat q)), .val (.int (Int32.ofNat len)), .val (.int 0), .unset] [])) := c1.trans (by
    refine iconstV X0.here hexec rfl 0 (hb hbytes d0) (by decide) ?_
    refine XS.istore X0.here hexec rfl (hb hbytes d1) rfl rfl ?_
    exact Steps.refl _)
  have loop : ∀ (r i : Nat), i + r = len → ∀ (z : Slot), (z = .unset ∨ ∃ w, z = .val w ∧ w.category = 1) → ∀ (Tl : State) (Bk : Cell), Stand p l e { frames := 0, locals := 0, cells := 0, slots := 0 } s m #[.ref b, .int (Int32.ofNat o), .ref d, .int (Int32.ofNat q), .int (Int32.ofNat len)] below meth c Tl ([] ++ copyLocs d q i) 0 0 → Put d Bk s₁ Tl → Laid B Bk q (q + i) (fun j => Value.int (lo8 (cv A (o + (j - q))))) →
      Steps p.tables e below (s₁.setTop (entryFrame m #[.ref b, .int (Int32.ofNat o), .ref d, .int (Int32.ofNat q), .int (Int32.ofNat len)] 7)) (Tl.setTop (mkF m 3 #[.val (.ref b), .val (.int (Int32.ofNat (o + i))), .val (.ref d), .val (.int (Int32.ofNat (q + i))), .val (.int (Int32.ofNat len)), .val (.int (Int32.ofNat i)), z] [])) → ∃ (T' : State) (B' : Cell) (z' : Slot), Stand p l e { frames := 0, locals := 0, cells := 0, slots := 0 } s m #[.ref b, .int (Int32.ofNat o), .ref d, .int (Int32.ofNat q), .int (Int32.ofNat len)] below meth c T' ([] ++ copyLocs d q len) 0 0 ∧ Put d B' s₁ T' ∧ Laid B B' q (q + len) (fun j => Value.int (lo8 (cv A (o + (j - q))))) ∧
      Steps p.tables e below (s₁.setTop (entryFrame m #[.ref b, .int (Int32.ofNat o), .ref d, .int (Int32.ofNat q), .int (Int32.ofNat len)] 7)) (T'.setTop (mkF m 3 #[.val (.ref b), .val (.int (Int32.ofNat (o + len))), .val (.ref d), .val (.int (Int32.ofNat (q + len))), .val (.int (Int32.ofNat len)), .val (.int (Int32.ofNat len)), z'] [])) := by
    intro r
    induction r with
    | zero =>
      intro i hi z hz Tl Bk Xl pl fl cl
      have hil : i = len := by omega
      rw [hil] at Xl fl cl
      exact ⟨Tl, Bk, z, Xl, pl, fl, cl⟩
    | succ r ih =>
      intro i hi z hz Tl Bk Xl pl fl cl
      have all := X0.warmed.alike.symm.trans Xl.warmed.alike
      have hAl := hA0.keep all (pl.other hne hA0.1)
      have hBk := hB0.like all pl.1 fl.1 fl.2.1 fl.2.2.1
      have hlt : q + i < Bk.slots.size := by rw [fl.2.2.1]; omega
      have c3 : Steps p.tables e below (s₁.setTop (entryFrame m #[.ref b, .int (Int32.ofNat o), .ref d, .int (Int32.ofNat q), .int (Int32.ofNat len)] 7)) (Tl.setTop (mkF m 12 #[.val (.ref b), .val (.int (Int32.ofNat (o + i))), .val (.ref d), .val (.int (Int32.ofNat (q + i))), .val (.int (Int32.ofNat len)), .val (.int (Int32.ofNat i)), z] [.int (Int32.ofNat (o + i)), .ref b])) := cl.trans (by
        refine XS.iload Xl.here hexec rfl (hb hbytes d3) rfl ?_
        refine XS.iload Xl.here hexec rfl (hb hbytes d5) rfl ?_
        refine XS.icmpNo Xl.here hexec rfl (hb hbytes d7) rfl (ii_ge_f (lt32 (by omega) (by omega))) ?_
        refine XS.aloadN Xl.here hexec rfl (hb hbytes d10) rfl rfl ?_
        refine XS.iloadN Xl.here hexec rfl (hb hbytes d11) rfl ?_
        exact Steps.refl _)
      have c4 : Steps p.tables e below (s₁.setTop (entryFrame m #[.ref b, .int (Int32.ofNat o), .ref d, .int (Int32.ofNat q), .int (Int32.ofNat len)] 7)) (Tl.setTop (mkF m 13 #[.val (.ref b), .val (.int (Int32.ofNat (o + i))), .val (.ref d), .val (.int (Int32.ofNat (q + i))), .val (.int (Int32.ofNat len)), .val (.int (Int32.ofNat i)), z] [.int (cv A (o + i))])) := c3.trans (by
        refine Xl.aget hexec hAl rfl (hA.get (i := o + i) (by omega)) rfl rfl (hb hbytes d12) ?_
        exact Steps.refl _)
      have c5 : Steps p.tables e below (s₁.setTop (entryFrame m #[.ref b, .int (Int32.ofNat o), .ref d, .int (Int32.ofNat q), .int (Int32.ofNat len)] 7)) (Tl.setTop (mkF m 15 #[.val (.ref b), .val (.int (Int32.ofNat (o + i))), .val (.ref d), .val (.int (Int32.ofNat (q + i))), .val (.int (Int32.ofNat len)), .val (.int (Int32.ofNat i)), .val (.int (cv A (o + i)))] [])) := c4.trans (by
        refine XS.istoreS Xl.here hexec rfl (hb hbytes d13) rfl rfl hz ?_
        exact Steps.refl _)
      have c6 : Steps p.tables e below (s₁.setTop (entryFrame m #[.ref b, .int (Int32.ofNat o), .ref d, .int (Int32.ofNat q), .int (Int32.ofNat len)] 7)) (Tl.setTop (mkF m 31 #[.val (.ref b), .val (.int (Int32.ofNat (o + i))), .val (.ref d), .val (.int (Int32.ofNat (q + i))), .val (.int (Int32.ofNat len)), .val (.int (Int32.ofNat i)), .val (.int (cv A (o + i)))] [.int (lo8 (cv A (o + i))), .int (Int32.ofNat (q + i)), .ref d])) := c5.trans (by
        refine XS.iload Xl.here hexec rfl (hb hbytes d15) rfl ?_
        refine sipushV Xl.here hexec rfl 255 (hb hbytes d17) (by decide) ?_
        refine XS.icmpYes Xl.here hexec rfl (pc0 := 20) rfl (hb hbytes d20) rfl (ii_le_t (hp i (by omega))) (by decide) rfl ?_
        refine XS.aloadN Xl.here hexec rfl (hb hbytes d26) rfl rfl ?_
        refine XS.iloadN Xl.here hexec rfl (hb hbytes d27) rfl ?_
        refine XS.iload Xl.here hexec rfl (hb hbytes d28) rfl ?_
        refine i2b Xl.here hexec rfl (hb hbytes d30) rfl ?_
        exact Steps.refl _)
      obtain ⟨T7, X7, p7, st7⟩ := Xl.aput hexec hBk rfl hlt rfl (fits_lo8 (cv A (o + i))) (g := (mkF m 31 #[.val (.ref b), .val (.int (Int32.ofNat (o + i))), .val (.ref d), .val (.int (Int32.ofNat (q + i))), .val (.int (Int32.ofNat len)), .val (.int (Int32.ofNat i)), .val (.int (cv A (o + i)))] [.int (lo8 (cv A (o + i))), .int (Int32.ofNat (q + i)), .ref d])) rfl (rest := []) rfl (hb hbytes d31)
      have c8 : Steps p.tables e below (s₁.setTop (entryFrame m #[.ref b, .int (Int32.ofNat o), .ref d, .int (Int32.ofNat q), .int (Int32.ofNat len)] 7)) (T7.setTop (mkF m 32 #[.val (.ref b), .val (.int (Int32.ofNat (o + i))), .val (.ref d), .val (.int (Int32.ofNat (q + i))), .val (.int (Int32.ofNat len)), .val (.int (Int32.ofNat i)), .val (.int (cv A (o + i)))] [])) := c6.trans (st7 _ (Steps.refl _))
      have c9 : Steps p.tables e below (s₁.setTop (entryFrame m #[.ref b, .int (Int32.ofNat o), .ref d, .int (Int32.ofNat q), .int (Int32.ofNat len)] 7)) (T7.setTop (mkF m 3 #[.val (.ref b), .val (.int (Int32.ofNat (o + i) + 1)), .val (.ref d), .val (.int (Int32.ofNat (q + i) + 1)), .val (.int (Int32.ofNat len)), .val (.int (Int32.ofNat i + 1)), .val (.int (cv A (o + i)))] [])) := c8.trans (by
        refine iincV X7.here hexec rfl 1 (hb hbytes d32) (by decide) rfl rfl ?_
        refine iincV X7.here hexec rfl 1 (hb hbytes d35) (by decide) rfl rfl ?_
        refine iincV X7.here hexec rfl 1 (hb hbytes d38) (by decide) rfl rfl ?_
        refine XS.goto X7.here hexec rfl (pc0 := 41) rfl (hb hbytes d41) (by decide) rfl ?_
        exact Steps.refl _)
      have c10 : Steps p.tables e below (s₁.setTop (entryFrame m #[.ref b, .int (Int32.ofNat o), .ref d, .int (Int32.ofNat q), .int (Int32.ofNat len)] 7)) (T7.setTop (mkF m 3 #[.val (.ref b), .val (.int (Int32.ofNat (o + (i + 1)))), .val (.ref d), .val (.int (Int32.ofNat (q + (i + 1)))), .val (.int (Int32.ofNat len)), .val (.int (Int32.ofNat (i + 1))), .val (.int (cv A (o + i)))] [])) := by
        have := c9
        rw [succ32, succ32, succ32] at this
        exact this
      exact ih (i + 1) (by omega) _ (Or.inr ⟨_, rfl, rfl⟩) T7 _ (by rw [copyLocs_step, ← List.append_assoc]; exact X7) (pl.trans p7) (fl.step (by omega) hlt (by simp)) c10
  obtain ⟨T9, B9, z9, X9, p9, f9, g9⟩ := loop len 0 (by omega) .unset (Or.inl rfl) s₁ B (by simpa [copyLocs] using X0) ⟨hB0.1, fun _ _ => rfl, rfl⟩ (Laid.zero _ _ _) c2
  have c11 : Steps p.tables e below (s₁.setTop (entryFrame m #[.ref b, .int (Int32.ofNat o), .ref d, .int (Int32.ofNat q), .int (Int32.ofNat len)] 7)) (T9.setTop (mkF m 46 #[.val (.ref b), .val (.int (Int32.ofNat (o + len))), .val (.ref d), .val (.int (Int32.ofNat (q + len))), .val (.int (Int32.ofNat len)), .val (.int (Int32.ofNat len)), z9] [.int (Int32.ofNat len)])) := g9.trans (by
    refine XS.iload X9.here hexec rfl (hb hbytes d3) rfl ?_
    refine XS.iload X9.here hexec rfl (hb hbytes d5) rfl ?_
    refine XS.icmpYes X9.here hexec rfl (pc0 := 7) rfl (hb hbytes d7) rfl (ii_ge_t (nlt32 (by omega) (Nat.le_refl _))) (by decide) rfl ?_
    refine XS.iload X9.here hexec rfl (hb hbytes d44) rfl ?_
    exact Steps.refl _)
  exact ⟨T9, some (.int (Int32.ofNat len)), _, _, _, X9, by simp, rfl, rfl, (fun h => by cases h), ⟨rfl, B9, p9.from hh0, f9⟩, fun fs hl => c11.trans (X9.ireturnOut hexec hret rfl (Or.inl rfl) (hb hbytes d46) hl)⟩
end Cmp5
namespace Cmp3
def yN : MethodName := ⟨"java/lang/StringUTF16", "compress", "([CII)[B"⟩
abbrev yB : ByteArray := jdk_52_method_16_code
theorem d0 : decode yB 0 = .ok (.iload_n 2, 1) := by decide +kernel
theorem d1 : decode yB 1 = .ok (.newarray .byte, 2) := by decide +kernel
theorem d3 : decode yB 3 = .ok (.astore_n 3, 1) := by decide +kernel
theorem d4 : decode yB 4 = .ok (.aload_n 0, 1) := by decide +kernel
theorem d5 : decode yB 5 = .ok (.iload_n 1, 1) := by decide +kernel
theorem d6 : decode yB 6 = .ok (.aload_n 3, 1) := by decide +kernel
theorem d7 : decode yB 7 = .ok (.iconst 0, 1) := by decide +kernel
theorem d8 : decode yB 8 = .ok (.iload_n 2, 1) := by decide +kernel
theorem d9 : decode yB 9 = .ok (.invokestatic 115, 3) := by decide +kernel
theorem d12 : decode yB 12 = .ok (.istore 4, 2) := by decide +kernel
theorem d14 : decode yB 14 = .ok (.iload 4, 2) := by decide +kernel
theorem d16 : decode yB 16 = .ok (.iload_n 2, 1) := by decide +kernel
theorem d17 : decode yB 17 = .ok (.if_icmp (.eq) 40, 3) := by decide +kernel
theorem d57 : decode yB 57 = .ok (.aload_n 3, 1) := by decide +kernel
theorem d58 : decode yB 58 = .ok (.areturn, 1) := by decide +kernel
def site : List Cond := [.arrayClass .byte, Cmp5.tab] ++ staticW U16 115 Cmp5.yN
def tab : Cond := tabOf yN yB 6 (some (.array .byte)) site
def P (b : Addr) (A : Cell) (o len : Nat) (args : Array Value) (s : State) : Prop := args = #[.ref b, .int (Int32.ofNat o), .int (Int32.ofNat len)] ∧ Ch b A s ∧ o + len ≤ A.slots.size ∧ len ≤ 536870912 ∧ ∀ i, i < len → ¬ 255 < cv A (o + i)
def E (b : Addr) (A : Cell) (o len : Nat) (r : Option Value) (s u : State) : Prop := NewArr .byte "[B" len (fun j => .int (lo8 (cv A (o + j)))) r s u ∧ u.heap.size = s.heap.size + 1
/-- no char of the range above 255: a new byte[] of their low bytes -/
theorem law (l : Launch) (b : Addr) (A : Cell) (o len : Nat) : Law l yN 3 3 1 18 yB 6 (some (.array .byte)) site (P b A o len) (E b A o len) [] 1 len := by
  refine Law.of_walk (plainFor_of_name (by decide +kernel)) (by decide +kernel) (by decide +kernel) (by decide) (fun _ _ h => by rw [h.1]; rfl) (fun _ U U' hal hh h => ⟨h.1, h.2.1.mv hal hh, h.2.2⟩) (fun r U U' V V' h1 hal h2 h => ⟨NewArr.mv r U U' V V' h1 hal h2 h.1, by rw [h1, h2]; exact h.2⟩) ?_
  intro p e s m args below meth c s₁ X0 hexec hbytes hml hret hlk hnm hown hh0 W hP
  obtain ⟨rfl, hA, l1, l2, hp⟩ := hP
  have a31 := hA.1.2.2.2
  have c1 : Steps p.tables e below (s₁.setTop (entryFrame m #[.ref b, .int (Int32.ofNat o), .int (Int32.ofNat len)] 6)) (s₁.setTop (mkF m 0 #[.val (.ref b), .val (.int (Int32.ofNat o)), .val (.int (Int32.ofNat len)), .unset, .unset, .unset] [])) := entry rfl
  have c2 : Steps p.tables e below (s₁.setTop (entryFrame m #[.ref b, .int (Int32.ofNat o), .int (Int32.ofNat len)] 6)) (s₁.setTop (mkF m 1 #[.val (.ref b), .val (.int (Int32.ofNat o)), .val (.int (Int32.ofNat len)), .unset, .unset, .unset] [.int (Int32.ofNat len)])) := c1.trans (by
    refine XS.iloadN X0.here hexec rfl (hb hbytes d0) rfl ?_
    exact Steps.refl _)
  obtain ⟨T3, B3, X3, ba3, bs3, bv3, bh3, bf3, st3⟩ := X0.anew hexec (atype := .byte) (wk W (.arrayClass .byte)) rfl (by show len * 1 ≤ _; omega) (by omega) (g := (mkF m 1 #[.val (.ref b), .val (.int (Int32.ofNat o)), .val (.int (Int32.ofNat len)), .unset, .unset, .unset] [.int (Int32.ofNat len)])) rfl (hb hbytes d1) (rest := []) rfl (Nat.le_refl _) (by show 0 + len ≤ len; omega)
  rw [hh0] at ba3 st3
  have kp3 : XT.Kept s T3 := (XT.Kept.of_eq hh0).push bh3
  have hA3 := hA.keep X3.warmed.alike (kp3 _ _ hA.1.1)
  have hne : b ≠ s.heap.size := hA.1.ne
  have c4 : Steps p.tables e below (s₁.setTop (entryFrame m #[.ref b, .int (Int32.ofNat o), .int (Int32.ofNat len)] 6)) (T3.setTop (mkF m 3 #[.val (.ref b), .val (.int (Int32.ofNat o)), .val (.int (Int32.ofNat len)), .unset, .unset, .unset] [.ref s.heap.size])) := c2.trans (st3 _ (Steps.refl _))
  have c5 : Steps p.tables e below (s₁.setTop (entryFrame m #[.ref b, .int (Int32.ofNat o), .int (Int32.ofNat len)] 6)) (T3.setTop (mkF m 9 #[.val (.ref b), .val (.int (Int32.ofNat o)), .val (.int (Int32.ofNat len)), .val (.ref s.heap.size), .unset, .unset] [.int (Int32.ofNat len), .int 0, .ref s.heap.size, .int (Int32.ofNat o), .ref b])) := c4.trans (by
    refine XS.astoreN X3.here hexec rfl (hb hbytes d3) rfl rfl rfl ?_
    refine XS.aloadN X3.here hexec rfl (hb hbytes d4) rfl rfl ?_
    refine XS.iloadN X3.here hexec rfl (hb hbytes d5) rfl ?_
    refine XS.aloadN X3.here hexec rfl (hb hbytes d6) rfl rfl ?_
    refine iconstV X3.here hexec rfl 0 (hb hbytes d7) (by decide) ?_
    refine XS.iloadN X3.here hexec rfl (hb hbytes d8) rfl ?_
    exact Steps.refl _)
  obtain ⟨v6, T6, X6, E6, g6⟩ := X3.callS hexec (Cmp5.law l b A s.heap.size B3 o 0 len) hown (wks W (staticW U16 115 Cmp5.yN)) (wk W Cmp5.tab) (W := 0) (Nat.le_of_ble_eq_true rfl) (Nat.le_of_ble_eq_true rfl) (Nat.le_refl _) (by show 0 + len + 0 ≤ len; omega) (g := (mkF m 9 #[.val (.ref b), .val (.int (Int32.ofNat o)), .val (.int (Int32.ofNat len)), .val (.ref s.heap.size), .unset, .unset] [.int (Int32.ofNat len), .int (Int32.ofNat 0), .ref s.heap.size, .int (Int32.ofNat o), .ref b])) rfl (by rw [hml]; rfl) c5 (argsL := [.ref b, .int (Int32.ofNat o), .ref s.heap.size, .int (Int32.ofNat 0), .int (Int32.ofNat len)]) (rest := []) rfl rfl (by show 2 * 0 + 0 ≤ _; decide) (hb hbytes d9) (⟨rfl, hA3, ba3, hne, l1, by rw [bs3]; simp, hp⟩)
  obtain ⟨rfl, B6, p6, f6⟩ := E6
  have c7 : Steps p.tables e below (s₁.setTop (entryFrame m #[.ref b, .int (Int32.ofNat o), .int (Int32.ofNat len)] 6)) (T6.setTop (mkF m 12 #[.val (.ref b), .val (.int (Int32.ofNat o)), .val (.int (Int32.ofNat len)), .val (.ref s.heap.size), .unset, .unset] [.int (Int32.ofNat len)])) := g6
  have c8 : Steps p.tables e below (s₁.setTop (entryFrame m #[.ref b, .int (Int32.ofNat o), .int (Int32.ofNat len)] 6)) (T6.setTop (mkF m 58 #[.val (.ref b), .val (.int (Int32.ofNat o)), .val (.int (Int32.ofNat len)), .val (.ref s.heap.size), .val (.int (Int32.ofNat len)), .unset] [.ref s.heap.size])) := c7.trans (by
    refine XS.istore X6.here hexec rfl (hb hbytes d12) rfl rfl ?_
    refine XS.iload X6.here hexec rfl (hb hbytes d14) rfl ?_
    refine XS.iloadN X6.here hexec rfl (hb hbytes d16) rfl ?_
    refine XS.icmpYes X6.here hexec rfl (pc0 := 17) rfl (hb hbytes d17) rfl (ii_eq_t rfl) (by decide) rfl ?_
    refine XS.aloadN X6.here hexec rfl (hb hbytes d57) rfl rfl ?_
    exact Steps.refl _)
  have X8 := X6.wide (L' := []) (cells' := 1) (slots' := len) (fun x hx hlt => by
    simp only [List.nil_append, copyLocs, List.mem_map, List.mem_range] at hx
    obtain ⟨i, -, rfl⟩ := hx
    exact absurd hlt (Nat.lt_irrefl _)) (Nat.le_refl _) (by omega)
  exact ⟨T6, some (.ref s.heap.size), _, _, _, X8, rfl, rfl, rfl, (fun h => by cases h), ⟨⟨rfl, B6, ba3.like (X3.warmed.alike.symm.trans X6.warmed.alike) p6.1 f6.1 f6.2.1 f6.2.2.1, f6.2.1.trans bv3, by rw [X6.warmed.alike.findClass, f6.1]; exact bf3, by rw [f6.2.2.1, bs3]; simp, fun j hj => by rw [f6.2.2.2 j, if_pos (by omega)]; rfl, kp3.put p6 (Nat.le_refl _)⟩, by rw [p6.2.2, bh3, hh0]; simp⟩, fun fs hl => c8.trans (X8.areturnOut hexec rfl hret rfl (hb hbytes d58) hl)⟩
end Cmp3
namespace CodL
def yN : MethodName := ⟨"java/lang/StringUTF16", "coderFromArrayLen", "([BI)B"⟩
abbrev yB : ByteArray := jdk_52_method_15_code
theorem d0 : decode yB 0 = .ok (.iload_n 1, 1) := by decide +kernel
theorem d1 : decode yB 1 = .ok (.aload_n 0, 1) := by decide +kernel
theorem d2 : decode yB 2 = .ok (.arraylength, 1) := by decide +kernel
theorem d3 : decode yB 3 = .ok (.isub, 1) := by decide +kernel
theorem d4 : decode yB 4 = .ok (.bipush 31, 2) := by decide +kernel
theorem d6 : decode yB 6 = .ok (.iushr, 1) := by decide +kernel
theorem d7 : decode yB 7 = .ok (.i2b, 1) := by decide +kernel
theorem d8 : decode yB 8 = .ok (.ireturn, 1) := by decide +kernel
def site : List Cond := []
def tab : Cond := tabOf yN yB 2 (some .byte) site
def P (d : Addr) (B : Cell) (args : Array Value) (s : State) : Prop := args = #[.ref d, .int (Int32.ofNat B.slots.size)] ∧ Arr .byte d B s
def E (r : Option Value) (s u : State) : Prop := XT.PureE (some (.int 0)) r s u
/-- an array as long as the number of chars: LATIN1 -/
theorem law (l : Launch) (d : Addr) (B : Cell) : Law l yN 2 2 0 0 yB 2 (some .byte) site (P d B) E [] 0 0 := by
  refine Law.of_walk (plainFor_of_name (by decide +kernel)) (by decide +kernel) (by decide +kernel) (by decide) (fun _ _ h => by rw [h.1]; rfl) (fun _ U U' hal hh h => ⟨h.1, h.2.mv hal hh⟩) (fun r U U' V V' h1 hal h2 h => XT.PureE.mv r U U' V V' h1 hal h2 h) ?_
  intro p e s m args below meth c s₁ X0 hexec hbytes hml hret hlk hnm hown hh0 W hP
  obtain ⟨rfl, hB⟩ := hP
  have hB0 := hB.mv X0.warmed.alike hh0
  have c1 : Steps p.tables e below (s₁.setTop (entryFrame m #[.ref d, .int (Int32.ofNat B.slots.size)] 2)) (s₁.setTop (mkF m 0 #[.val (.ref d), .val (.int (Int32.ofNat B.slots.size))] [])) := entry rfl
  have c2 : Steps p.tables e below (s₁.setTop (entryFrame m #[.ref d, .int (Int32.ofNat B.slots.size)] 2)) (s₁.setTop (mkF m 2 #[.val (.ref d), .val (.int (Int32.ofNat B.slots.size))] [.ref d, .int (Int32.ofNat B.slots.size)])) := c1.trans (by
    refine XS.iloadN X0.here hexec rfl (hb hbytes d0) rfl ?_
    refine XS.aloadN X0.here hexec rfl (hb hbytes d1) rfl rfl ?_
    exact Steps.refl _)
  have c3 : Steps p.tables e below (s₁.setTop (entryFrame m #[.ref d, .int (Int32.ofNat B.slots.size)] 2)) (s₁.setTop (mkF m 8 #[.val (.ref d), .val (.int (Int32.ofNat B.slots.size))] [.int (lo8 (ushr (Int32.ofNat B.slots.size - Int32.ofNat B.slots.size) 31))])) := c2.trans (by
    refine X0.alen hexec hB0 rfl rfl (hb hbytes d2) ?_
    refine XS.isub X0.here hexec rfl (hb hbytes d3) rfl ?_
    refine bipushV X0.here hexec rfl 31 (hb hbytes d4) (by decide) ?_
    refine iushr X0.here hexec rfl (hb hbytes d6) rfl ?_
    refine i2b X0.here hexec rfl (hb hbytes d7) rfl ?_
    exact Steps.refl _)
  have e0 : lo8 (ushr (Int32.ofNat B.slots.size - Int32.ofNat B.slots.size) 31) = 0 := by rw [Int32.sub_self]; decide
  rw [e0] at c3
  exact ⟨s₁, some (.int 0), _, _, _, X0, rfl, rfl, rfl, (fun h => by cases h), ⟨rfl, hh0⟩, fun fs hl => c3.trans (X0.ireturnOut hexec hret rfl (Or.inr (Or.inr (Or.inl rfl))) (hb hbytes d8) hl)⟩
end CodL
/-- the String at a is Latin-1 over a new byte[] (the heap's one new cell): the low bytes of the len chars of A from o on; every cell but a is kept -/
def Got (a : Addr) (D : Cell) (fV fC : Field) (A : Cell) (o len : Nat) (r : Option Value) (s u : State) : Prop := r = none ∧ ∃ D' V : Cell, Blank "java/lang/String" a D' u ∧ Same D D' [fV.slot, fC.slot] ∧ D'.slots[fV.slot]? = some (.ref s.heap.size) ∧ D'.slots[fC.slot]? = some (.int 0) ∧ Arr .byte s.heap.size V u ∧ V.vm = .none ∧ u.vm.findClass "[B" = some V.cls ∧ V.slots.size = len ∧ (∀ j, j < len → V.slots[j]? = some (.int (lo8 (cv A (o + j))))) ∧ (∀ (y : Addr) (c : Cell), y ≠ a → s.heap[y]? = some c → u.heap[y]? = some c) ∧ u.heap.size = s.heap.size + 1
theorem Got.mv {a : Addr} {D A : Cell} {fV fC : Field} {o len : Nat} : ∀ r (U U' V V' : State), U'.heap = U.heap → V.vm.Alike V'.vm → V'.heap = V.heap → Got a D fV fC A o len r U V → Got a D fV fC A o len r U' V' :=
  fun r U U' V V' h1 hal h2 ⟨e0, D', X, a1, a2, a3, a4, a5, a6, a7, a8, a9, a10, a11⟩ => ⟨e0, D', X, a1.mv hal h2, a2, by rw [h1]; exact a3, a4, by rw [h1]; exact a5.mv hal h2, a6, by rw [hal.findClass]; exact a7, a8, a9, by rw [h1, h2]; exact a10, by rw [h1, h2]; exact a11⟩
namespace New4
def yN : MethodName := ⟨"java/lang/String", "<init>", "([CIILjava/lang/Void;)V"⟩
abbrev yB : ByteArray := jdk_42_method_149_code
theorem d0 : decode yB 0 = .ok (.aload_n 0, 1) := by decide +kernel
theorem d1 : decode yB 1 = .ok (.invokespecial 1, 3) := by decide +kernel
theorem d4 : decode yB 4 = .ok (.iload_n 3, 1) := by decide +kernel
theorem d5 : decode yB 5 = .ok (.ifCond (.ne) 22, 3) := by decide +kernel
theorem d27 : decode yB 27 = .ok (.getstatic 38, 3) := by decide +kernel
theorem d30 : decode yB 30 = .ok (.ifCond (.eq) 28, 3) := by decide +kernel
theorem d33 : decode yB 33 = .ok (.aload_n 1, 1) := by decide +kernel
theorem d34 : decode yB 34 = .ok (.iload_n 2, 1) := by decide +kernel
theorem d35 : decode yB 35 = .ok (.iload_n 3, 1) := by decide +kernel
theorem d36 : decode yB 36 = .ok (.invokestatic 177, 3) := by decide +kernel
theorem d39 : decode yB 39 = .ok (.astore 5, 2) := by decide +kernel
theorem d41 : decode yB 41 = .ok (.aload_n 0, 1) := by decide +kernel
theorem d42 : decode yB 42 = .ok (.aload 5, 2) := by decide +kernel
theorem d44 : decode yB 44 = .ok (.iload_n 3, 1) := by decide +kernel
theorem d45 : decode yB 45 = .ok (.invokestatic 47, 3) := by decide +kernel
theorem d48 : decode yB 48 = .ok (.putfield 15, 3) := by decide +kernel
theorem d51 : decode yB 51 = .ok (.aload_n 0, 1) := by decide +kernel
theorem d52 : decode yB 52 = .ok (.aload 5, 2) := by decide +kernel
theorem d54 : decode yB 54 = .ok (.putfield 9, 3) := by decide +kernel
theorem d57 : decode yB 57 = .ok (.return_, 1) := by decide +kernel
def site : List Cond := [.fieldLink "java/lang/String" 38 "java/lang/String" "COMPACT_STRINGS" "Z", Cmp3.tab, CodL.tab, .laysFinal "java/lang/String" "java/lang/String" "value" "[B", .fieldLink "java/lang/String" 9 "java/lang/String" "value" "[B", .laysFinal "java/lang/String" "java/lang/String" "coder" "B", .fieldLink "java/lang/String" 15 "java/lang/String" "coder" "B"] ++ objW "java/lang/String" 1 ++ staticW "java/lang/String" 177 Cmp3.yN ++ staticW "java/lang/String" 47 CodL.yN
def tab : Cond := tabOf yN yB 6 none site
def P (a : Addr) (D : Cell) (fV fC : Field) (b : Addr) (A : Cell) (z : Int32) (o len : Nat) (args : Array Value) (s : State) : Prop := args = #[.ref a, .ref b, .int (Int32.ofNat o), .int (Int32.ofNat len), .null] ∧ Blank "java/lang/String" a D s ∧ Found "java/lang/String" "value" "[B" fV s ∧ Found "java/lang/String" "coder" "B" fC s ∧ Ch b A s ∧ StaticIs s "java/lang/String" "COMPACT_STRINGS" "Z" (.int z) ∧ ¬ z = 0 ∧ 0 < len ∧ o + len ≤ A.slots.size ∧ len ≤ 536870912 ∧ ∀ i, i < len → ¬ 255 < cv A (o + i)
def E (a : Addr) (D : Cell) (fV fC : Field) (A : Cell) (o len : Nat) (r : Option Value) (s u : State) : Prop := Got a D fV fC A o len r s u
/-- len > 0, no char of the range above 255: a Latin-1 String of their low bytes -/
theorem law (l : Launch) (a : Addr) (D : Cell) (fV fC : Field) (b : Addr) (A : Cell) (z : Int32) (o len : Nat) : Law l yN 5 4 2 35 yB 6 none site (P a D fV fC b A z o len) (E a D fV fC A o len) [⟨a, fC.slot⟩, ⟨a, fV.slot⟩] 1 len := by
  refine Law.of_walk (plainFor_of_name (by decide +kernel)) (by decide +kernel) (by decide +kernel) (by decide) (fun _ _ h => by rw [h.1]; rfl) (fun _ U U' hal hh h => ⟨h.1, h.2.1.mv hal hh, h.2.2.1.al hal, h.2.2.2.1.al hal, h.2.2.2.2.1.mv hal hh, h.2.2.2.2.2.1.there hal hh, h.2.2.2.2.2.2⟩) (fun r U U' V V' h1 hal h2 h => Got.mv r U U' V V' h1 hal h2 h) ?_
  intro p e s m args below meth c s₁ X0 hexec hbytes hml hret hlk hnm hown hh0 W hP
  obtain ⟨rfl, hB, f1, f2, hA, s1, hz, l0, l1, l2, hp⟩ := hP
  have a31 := hA.1.2.2.2
  have c1 : Steps p.tables e below (s₁.setTop (entryFrame m #[.ref a, .ref b, .int (Int32.ofNat o), .int (Int32.ofNat len), .null] 6)) (s₁.setTop (mkF m 0 #[.val (.ref a), .val (.ref b), .val (.int (Int32.ofNat o)), .val (.int (Int32.ofNat len)), .val .null, .unset] [])) := entry rfl
  have c2 : Steps p.tables e below (s₁.setTop (entryFrame m #[.ref a, .ref b, .int (Int32.ofNat o), .int (Int32.ofNat len), .null] 6)) (s₁.setTop (mkF m 1 #[.val (.ref a), .val (.ref b), .val (.int (Int32.ofNat o)), .val (.int (Int32.ofNat len)), .val .null, .unset] [.ref a])) := c1.trans (by
    refine XS.aloadN X0.here hexec rfl (hb hbytes d0) rfl rfl ?_
    exact Steps.refl _)
  obtain ⟨T3, X3, q3, st3⟩ := X0.oinit hexec hown (wks W (objW "java/lang/String" 1)) (g := (mkF m 1 #[.val (.ref a), .val (.ref b), .val (.int (Int32.ofNat o)), .val (.int (Int32.ofNat len)), .val .null, .unset] [.ref a])) rfl (by rw [hml]; rfl) (rest := []) rfl (hb hbytes d1) (W := 0) (by show 2 * 0 + 0 ≤ _; decide) (Nat.le_of_ble_eq_true rfl) (Nat.le_of_ble_eq_true rfl)
  have hh3 := q3.trans hh0
  have c4 : Steps p.tables e below (s₁.setTop (entryFrame m #[.ref a, .ref b, .int (Int32.ofNat o), .int (Int32.ofNat len), .null] 6)) (T3.setTop (mkF m 27 #[.val (.ref a), .val (.ref b), .val (.int (Int32.ofNat o)), .val (.int (Int32.ofNat len)), .val .null, .unset] [])) := (c2.trans (st3 _ (Steps.refl _))).trans (by
    refine XS.iloadN X3.here hexec rfl (hb hbytes d4) rfl ?_
    refine XS.ifYes X3.here hexec rfl (pc0 := 5) rfl (hb hbytes d5) rfl (i0_ne_t (nz32 (by omega) l0)) (by decide) rfl ?_
    exact Steps.refl _)
  obtain ⟨T5, X5, q5, st5⟩ := X3.sget hexec hown (wk W (.fieldLink "java/lang/String" 38 "java/lang/String" "COMPACT_STRINGS" "Z")) s1 (fun _ _ h => by rw [hh3]; exact h) (g := (mkF m 27 #[.val (.ref a), .val (.ref b), .val (.int (Int32.ofNat o)), .val (.int (Int32.ofNat len)), .val .null, .unset] [])) rfl (hb hbytes d27)
  have hh5 := q5.trans hh3
  have c6 : Steps p.tables e below (s₁.setTop (entryFrame m #[.ref a, .ref b, .int (Int32.ofNat o), .int (Int32.ofNat len), .null] 6)) (T5.setTop (mkF m 30 #[.val (.ref a), .val (.ref b), .val (.int (Int32.ofNat o)), .val (.int (Int32.ofNat len)), .val .null, .unset] [.int z])) := c4.trans (st5 _ (Steps.refl _))
  have c7 : Steps p.tables e below (s₁.setTop (entryFrame m #[.ref a, .ref b, .int (Int32.ofNat o), .int (Int32.ofNat len), .null] 6)) (T5.setTop (mkF m 36 #[.val (.ref a), .val (.ref b), .val (.int (Int32.ofNat o)), .val (.int (Int32.ofNat len)), .val .null, .unset] [.int (Int32.ofNat len), .int (Int32.ofNat o), .ref b])) := c6.trans (by
    refine XS.ifNo X5.here hexec rfl (hb hbytes d30) rfl (i0_eq_f hz) ?_
    refine XS.aloadN X5.here hexec rfl (hb hbytes d33) rfl rfl ?_
    refine XS.iloadN X5.here hexec rfl (hb hbytes d34) rfl ?_
    refine XS.iloadN X5.here hexec rfl (hb hbytes d35) rfl ?_
    exact Steps.refl _)
  obtain ⟨v8, T8, X8, E8, g8⟩ := X5.callS hexec (Cmp3.law l b A o len) hown (wks W (staticW "java/lang/String" 177 Cmp3.yN)) (wk W Cmp3.tab) (W := 0) (Nat.le_of_ble_eq_true rfl) (Nat.le_of_ble_eq_true rfl) (Nat.le_refl _) (by show 0 + len ≤ len; omega) (g := (mkF m 36 #[.val (.ref a), .val (.ref b), .val (.int (Int32.ofNat o)), .val (.int (Int32.ofNat len)), .val .null, .unset] [.int (Int32.ofNat len), .int (Int32.ofNat o), .ref b])) rfl (by rw [hml]; rfl) c7 (argsL := [.ref b, .int (Int32.ofNat o), .int (Int32.ofNat len)]) (rest := []) rfl rfl (by show 2 * 0 + 0 ≤ _; decide) (hb hbytes d36) (⟨rfl, hA.mv X5.warmed.alike hh5, l1, l2, hp⟩)
  obtain ⟨e8, z8⟩ := E8
  obtain ⟨rfl, N, n1, n2, n3, n4, n5, n6⟩ := NewArr.mv _ T5 s _ _ hh5.symm (Vm.Alike.refl _) rfl e8
  rw [hh5] at z8
  have hB1 := hB.keep X8.warmed.alike (n6 _ _ hB.1)
  have hne : s.heap.size ≠ a := (Nat.ne_of_lt (Array.getElem?_eq_some_iff.mp hB.1).1).symm
  have c9 : Steps p.tables e below (s₁.setTop (entryFrame m #[.ref a, .ref b, .int (Int32.ofNat o), .int (Int32.ofNat len), .null] 6)) (T8.setTop (mkF m 39 #[.val (.ref a), .val (.ref b), .val (.int (Int32.ofNat o)), .val (.int (Int32.ofNat len)), .val .null, .unset] [.ref s.heap.size])) := g8
  have c10 : Steps p.tables e below (s₁.setTop (entryFrame m #[.ref a, .ref b, .int (Int32.ofNat o), .int (Int32.ofNat len), .null] 6)) (T8.setTop (mkF m 45 #[.val (.ref a), .val (.ref b), .val (.int (Int32.ofNat o)), .val (.int (Int32.ofNat len)), .val .null, .val (.ref s.heap.size)] [.int (Int32.ofNat N.slots.size), .ref s.heap.size, .ref a])) := by
    have hc : Steps p.tables e below (s₁.setTop (entryFrame m #[.ref a, .ref b, .int (Int32.ofNat o), .int (Int32.ofNat len), .null] 6)) (T8.setTop (mkF m 45 #[.val (.ref a), .val (.ref b), .val (.int (Int32.ofNat o)), .val (.int (Int32.ofNat len)), .val .null, .val (.ref s.heap.size)] [.int (Int32.ofNat len), .ref s.heap.size, .ref a])) := c9.trans (by
      refine XS.astore X8.here hexec rfl (hb hbytes d39) rfl rfl rfl ?_
      refine XS.aloadN X8.here hexec rfl (hb hbytes d41) rfl rfl ?_
      refine XS.aload X8.here hexec rfl (hb hbytes d42) rfl rfl ?_
      refine XS.iloadN X8.here hexec rfl (hb hbytes d44) rfl ?_
      exact Steps.refl _)
    rw [n4]; exact hc
  obtain ⟨v11, T11, X11, E11, g11⟩ := X8.callS hexec (CodL.law l s.heap.size N) hown (wks W (staticW "java/lang/String" 47 CodL.yN)) (wk W CodL.tab) (W := 1) (Nat.le_of_ble_eq_true rfl) (Nat.le_of_ble_eq_true rfl) (Nat.le_refl _) (by show 0 + len + 0 ≤ len; omega) (g := (mkF m 45 #[.val (.ref a), .val (.ref b), .val (.int (Int32.ofNat o)), .val (.int (Int32.ofNat len)), .val .null, .val (.ref s.heap.size)] [.int (Int32.ofNat N.slots.size), .ref s.heap.size, .ref a])) rfl (by rw [hml]; rfl) c10 (argsL := [.ref s.heap.size, .int (Int32.ofNat N.slots.size)]) (rest := [.ref a]) rfl rfl (by show 2 * 0 + (1 + 0) ≤ _; decide) (hb hbytes d45) (⟨rfl, n1⟩)
  obtain ⟨rfl, q11⟩ := E11
  have hB11 := hB1.mv (X8.warmed.alike.symm.trans X11.warmed.alike) q11
  have c12 : Steps p.tables e below (s₁.setTop (entryFrame m #[.ref a, .ref b, .int (Int32.ofNat o), .int (Int32.ofNat len), .null] 6)) (T11.setTop (mkF m 48 #[.val (.ref a), .val (.ref b), .val (.int (Int32.ofNat o)), .val (.int (Int32.ofNat len)), .val .null, .val (.ref s.heap.size)] [.int 0, .ref a])) := g11
  obtain ⟨T13, X13, p13, bl13, sl13, st13⟩ := X11.finit hexec hown (wk W (.fieldLink "java/lang/String" 15 "java/lang/String" "coder" "B")) (Or.inr ⟨_, (wk W (.laysFinal "java/lang/String" "java/lang/String" "coder" "B"))⟩) (Or.inl ⟨rfl, hnm⟩) f2 (Or.inl rfl) hB11 (t := .byte) (by decide +kernel) rfl (g := (mkF m 48 #[.val (.ref a), .val (.ref b), .val (.int (Int32.ofNat o)), .val (.int (Int32.ofNat len)), .val .null, .val (.ref s.heap.size)] [.int 0, .ref a])) rfl (rest := []) rfl (hb hbytes d48)
  have c14 : Steps p.tables e below (s₁.setTop (entryFrame m #[.ref a, .ref b, .int (Int32.ofNat o), .int (Int32.ofNat len), .null] 6)) (T13.setTop (mkF m 54 #[.val (.ref a), .val (.ref b), .val (.int (Int32.ofNat o)), .val (.int (Int32.ofNat len)), .val .null, .val (.ref s.heap.size)] [.ref s.heap.size, .ref a])) := (c12.trans (st13 _ (Steps.refl _))).trans (by
    refine XS.aloadN X13.here hexec rfl (hb hbytes d51) rfl rfl ?_
    refine XS.aload X13.here hexec rfl (hb hbytes d52) rfl rfl ?_
    exact Steps.refl _)
  obtain ⟨T15, X15, p15, bl15, sl15, st15⟩ := X13.finit hexec hown (wk W (.fieldLink "java/lang/String" 9 "java/lang/String" "value" "[B")) (Or.inr ⟨_, (wk W (.laysFinal "java/lang/String" "java/lang/String" "value" "[B"))⟩) (Or.inl ⟨rfl, hnm⟩) f1 (Or.inl rfl) bl13 (t := (.array .byte)) (by decide +kernel) rfl (g := (mkF m 54 #[.val (.ref a), .val (.ref b), .val (.int (Int32.ofNat o)), .val (.int (Int32.ofNat len)), .val .null, .val (.ref s.heap.size)] [.ref s.heap.size, .ref a])) rfl (rest := []) rfl (hb hbytes d54)
  have c16 : Steps p.tables e below (s₁.setTop (entryFrame m #[.ref a, .ref b, .int (Int32.ofNat o), .int (Int32.ofNat len), .null] 6)) (T15.setTop (mkF m 57 #[.val (.ref a), .val (.ref b), .val (.int (Int32.ofNat o)), .val (.int (Int32.ofNat len)), .val .null, .val (.ref s.heap.size)] [])) := c14.trans (st15 _ (Steps.refl _))
  have ap := apart (Or.inr ⟨_, (wk W (.laysFinal "java/lang/String" "java/lang/String" "value" "[B"))⟩) (Or.inr ⟨_, (wk W (.laysFinal "java/lang/String" "java/lang/String" "coder" "B"))⟩) f1 f2 (t₁ := .array .byte) (t₂ := .byte) (by decide +kernel) (by decide +kernel) (by decide)
  have al := X8.warmed.alike.symm.trans X15.warmed.alike
  have n7 : T11.heap[s.heap.size]? = some N := by rw [q11]; exact n1.1
  exact ⟨T15, none, _, _, _, X15, by simp, rfl, by omega, (fun _ => rfl), ⟨rfl, _, N, bl15, ((Same.refl D _).set _ (by simp)).set _ (by simp), sl15, (Cell.slots_setSlot_ne _ ap).trans sl13, n1.keep al (p15.other hne (p13.other hne n7)), n2, by rw [al.findClass]; exact n3, n4, n5, fun y c h1 h2 => p15.other h1 (p13.other h1 (by rw [q11]; exact n6 y c h2)), by rw [p15.2.2, p13.2.2, q11]; exact z8⟩, fun fs hl => c16.trans (X15.returnOut hexec hret (hb hbytes d57) hl)⟩
end New4
namespace New1
def yN : MethodName := ⟨"java/lang/String", "<init>", "([C)V"⟩
abbrev yB : ByteArray := jdk_42_method_3_code
theorem d0 : decode yB 0 = .ok (.aload_n 0, 1) := by decide +kernel
theorem d1 : decode yB 1 = .ok (.aload_n 1, 1) := by decide +kernel
theorem d2 : decode yB 2 = .ok (.iconst 0, 1) := by decide +kernel
theorem d3 : decode yB 3 = .ok (.aload_n 1, 1) := by decide +kernel
theorem d4 : decode yB 4 = .ok (.arraylength, 1) := by decide +kernel
theorem d5 : decode yB 5 = .ok (.aconst_null, 1) := by decide +kernel
theorem d6 : decode yB 6 = .ok (.invokespecial 27, 3) := by decide +kernel
theorem d9 : decode yB 9 = .ok (.return_, 1) := by decide +kernel
def site : List Cond := [New4.tab] ++ initW "java/lang/String" 27 New4.yN
def tab : Cond := tabOf yN yB 2 none site
def P (a : Addr) (D : Cell) (fV fC : Field) (b : Addr) (A : Cell) (z : Int32) (args : Array Value) (s : State) : Prop := args = #[.ref a, .ref b] ∧ Blank "java/lang/String" a D s ∧ Found "java/lang/String" "value" "[B" fV s ∧ Found "java/lang/String" "coder" "B" fC s ∧ Ch b A s ∧ StaticIs s "java/lang/String" "COMPACT_STRINGS" "Z" (.int z) ∧ ¬ z = 0 ∧ 0 < A.slots.size ∧ A.slots.size ≤ 536870912 ∧ ∀ i, i < A.slots.size → ¬ 255 < cv A i
def E (a : Addr) (D : Cell) (fV fC : Field) (A : Cell) (r : Option Value) (s u : State) : Prop := Got a D fV fC A 0 A.slots.size r s u
/-- new String(chars), not empty, no char above 255: a Latin-1 String of their low bytes -/
theorem law (l : Launch) (a : Addr) (D : Cell) (fV fC : Field) (b : Addr) (A : Cell) (z : Int32) : Law l yN 2 1 3 52 yB 2 none site (P a D fV fC b A z) (E a D fV fC A) [⟨a, fC.slot⟩, ⟨a, fV.slot⟩] 1 A.slots.size := by
  refine Law.of_walk (plainFor_of_name (by decide +kernel)) (by decide +kernel) (by decide +kernel) (by decide) (fun _ _ h => by rw [h.1]; rfl) (fun _ U U' hal hh h => ⟨h.1, h.2.1.mv hal hh, h.2.2.1.al hal, h.2.2.2.1.al hal, h.2.2.2.2.1.mv hal hh, h.2.2.2.2.2.1.there hal hh, h.2.2.2.2.2.2⟩) (fun r U U' V V' h1 hal h2 h => Got.mv r U U' V V' h1 hal h2 h) ?_
  intro p e s m args below meth c s₁ X0 hexec hbytes hml hret hlk hnm hown hh0 W hP
  obtain ⟨rfl, hB, f1, f2, hA, s1, hz, l0, l2, hp⟩ := hP
  have c1 : Steps p.tables e below (s₁.setTop (entryFrame m #[.ref a, .ref b] 2)) (s₁.setTop (mkF m 0 #[.val (.ref a), .val (.ref b)] [])) := entry rfl
  have c2 : Steps p.tables e below (s₁.setTop (entryFrame m #[.ref a, .ref b] 2)) (s₁.setTop (mkF m 6 #[.val (.ref a), .val (.ref b)] [.null, .int (Int32.ofNat A.slots.size), .int 0, .ref b, .ref a])) := c1.trans (by
    refine XS.aloadN X0.here hexec rfl (hb hbytes d0) rfl rfl ?_
    refine XS.aloadN X0.here hexec rfl (hb hbytes d1) rfl rfl ?_
    refine iconstV X0.here hexec rfl 0 (hb hbytes d2) (by decide) ?_
    refine XS.aloadN X0.here hexec rfl (hb hbytes d3) rfl rfl ?_
    refine X0.alen hexec (hA.1.mv X0.warmed.alike hh0) rfl rfl (hb hbytes d4) ?_
    refine XS.aconstNull X0.here hexec rfl (hb hbytes d5) ?_
    exact Steps.refl _)
  obtain ⟨v3, T3, X3, E3, g3⟩ := X0.callN hexec (New4.law l a D fV fC b A z 0 A.slots.size) rfl hown (wks W (initW "java/lang/String" 27 New4.yN)) (W New4.tab (by simp only [site, List.mem_cons, List.mem_append, true_or, or_true])) (W := 0) (Nat.le_of_ble_eq_true rfl) (Nat.le_of_ble_eq_true rfl) (Nat.le_refl _) (by show 0 + A.slots.size ≤ A.slots.size; omega) (g := (mkF m 6 #[.val (.ref a), .val (.ref b)] [.null, .int (Int32.ofNat A.slots.size), .int (Int32.ofNat 0), .ref b, .ref a])) rfl (by rw [hml]; rfl) c2 (argsL := [.ref b, .int (Int32.ofNat 0), .int (Int32.ofNat A.slots.size), .null]) (rest := []) rfl rfl (by show 2 * 0 + 0 ≤ _; decide) (hb hbytes d6) (⟨rfl, hB.mv X0.warmed.alike hh0, f1.al X0.warmed.alike, f2.al X0.warmed.alike, hA.mv X0.warmed.alike hh0, s1.there X0.warmed.alike hh0, hz, l0, by omega, l2, fun i hi => by rw [Nat.zero_add]; exact hp i hi⟩)
  have e0 := Got.mv _ s₁ s _ _ hh0.symm (Vm.Alike.refl _) rfl E3
  obtain rfl := e0.1
  have c4 : Steps p.tables e below (s₁.setTop (entryFrame m #[.ref a, .ref b] 2)) (T3.setTop (mkF m 9 #[.val (.ref a), .val (.ref b)] [])) := g3
  exact ⟨T3, none, _, _, _, X3, by simp, rfl, by omega, (fun _ => rfl), e0, fun fs hl => c4.trans (X3.returnOut hexec hret (hb hbytes d9) hl)⟩
theorem pays {l : Launch} {R : Room} {p : Program} {e : Env} {below : List Frame} {s : State} {sargs : Array Value} {len W : Nat} (a : Addr) (D : Cell) (fV fC : Field) (b : Addr) (A : Cell) (z : Int32) (htab : tab.before sargs s = true) (hfr : 4 ≤ R.frames) (hlo : W + 65 ≤ R.locals) :
    Back l R p e below s sargs yN len W (fun A₁ a₁ => A₁.cells + 1 ≤ R.cells ∧ A₁.slots + A.slots.size ≤ R.slots ∧ P a D fV fC b A z a₁ A₁.U) (fun A₁ _ v₁ B₁ => E a D fV fC A v₁ A₁.U B₁.U ∧ B₁.locs = A₁.locs ++ [⟨a, fC.slot⟩, ⟨a, fV.slot⟩] ∧ B₁.cells = A₁.cells + 1 ∧ B₁.slots = A₁.slots + A.slots.size) :=
  (law l a D fV fC b A z).pays htab hfr (by omega)
end New1
/-- the byte, read back as charAt reads it, is the char -/
theorem lo8_mask {x : Int32} (h0 : ¬ x < 0) (h1 : ¬ 255 < x) : lo8 x &&& 255 = x := by
  have t : ∀ k : Fin 256, lo8 (Int32.ofNat k.val) &&& 255 = Int32.ofNat k.val := by decide +kernel
  rw [Int32.lt_iff_toInt_lt] at h0 h1
  have e0 : (0 : Int32).toInt = 0 := rfl
  have e1 : (255 : Int32).toInt = 255 := rfl
  obtain ⟨k, hk⟩ : ∃ k : Nat, x.toInt = k := ⟨x.toInt.toNat, by omega⟩
  have hx : x = Int32.ofNat k := Int32.toInt_inj.mp (by rw [hk, Int32.toInt_ofNat_small (by omega)])
  rw [hx]
  exact t ⟨k, by omega⟩
end StrChars
namespace StrChars.Road
open Jvm Sem ClassFile Op Lib Jvm.Stand Jvm.Free Jvm.Free.XT
open Jvm.Lib.Cold (StaticIs)
abbrev ST : String := "java/lang/String"
/-- every table word that New1's law asks, flat -/
abbrev words : List Jvm.Cond := [.code New1.yN New1.yB 2 none, .initialized ST, .methodLink ST 27 New4.yN, .instanceMethod New4.yN,
  .code New4.yN New4.yB 6 none, .fieldLink ST 38 ST "COMPACT_STRINGS" "Z", .laysFinal ST ST "value" "[B", .fieldLink ST 9 ST "value" "[B", .laysFinal ST ST "coder" "B", .fieldLink ST 15 ST "coder" "B",
  .methodLink ST 1 Lib.objectInit, .instanceMethod Lib.objectInit, .code Lib.objectInit ⟨#[0xb1]⟩ 1 none, .methodLink ST 177 Cmp3.yN, .static Cmp3.yN, .methodLink ST 47 CodL.yN, .static CodL.yN,
  .code Cmp3.yN Cmp3.yB 6 (some (.array .byte)), .initialized U16, .arrayClass .byte, .methodLink U16 115 Cmp5.yN, .static Cmp5.yN, .code Cmp5.yN Cmp5.yB 7 (some .int), .code CodL.yN CodL.yB 2 (some .byte)]
theorem tab_of {a : Array Value} {s : State} (h : ∀ w ∈ words, w.before a s = true) : New1.tab.before a s = true := by
  have h5 : Cmp5.tab.before a s = true := unparts (wk h (.code Cmp5.yN Cmp5.yB 7 (some .int))) (wks h (.initialized Cmp5.yN.cls :: Cmp5.site))
  have hc : CodL.tab.before a s = true := unparts (wk h (.code CodL.yN CodL.yB 2 (some .byte))) (wks h (.initialized CodL.yN.cls :: CodL.site))
  have q5 : ∀ w ∈ Cmp5.tab :: words, w.before a s = true := fun w hw => (List.mem_cons.mp hw).elim (fun e => e ▸ h5) (h w)
  have h3 : Cmp3.tab.before a s = true := unparts (wk q5 (.code Cmp3.yN Cmp3.yB 6 (some (.array .byte)))) (wks q5 (.initialized Cmp3.yN.cls :: Cmp3.site))
  have q3 : ∀ w ∈ Cmp3.tab :: CodL.tab :: words, w.before a s = true := fun w hw => (List.mem_cons.mp hw).elim (fun e => e ▸ h3) fun hw => (List.mem_cons.mp hw).elim (fun e => e ▸ hc) (h w)
  have h4 : New4.tab.before a s = true := unparts (wk q3 (.code New4.yN New4.yB 6 none)) (wks q3 (.initialized New4.yN.cls :: New4.site))
  have q4 : ∀ w ∈ New4.tab :: words, w.before a s = true := fun w hw => (List.mem_cons.mp hw).elim (fun e => e ▸ h4) (h w)
  exact unparts (wk q4 (.code New1.yN New1.yB 2 none)) (wks q4 (.initialized New1.yN.cls :: New1.site))
/-- the words ride from the start Z to the walk's own state -/
theorem moved {Z s : State} {a0 args : Array Value} (hZ : Z.Warmed39 s.vm) (hw : ∀ d ∈ words, d.before a0 Z = true) : ∀ d ∈ words, d.before args s = true := fun d hd => by
  have q := hw d hd
  have t : ∀ d ∈ words, d = .arrayClass .byte ∨ (d.onTables && d.keepsFace) = true := by decide +kernel
  rcases t d hd with rfl | t
  · exact RoadKit.mvA hZ q
  · exact RoadKit.mv hZ q t
/-- WHAT COMES BACK, over the tables of the start Z: h the heap at the call, h' behind it -/
def Q (Z : State) (x : Addr) (A : Cell) (h : Heap) (v : Option Value) (h' : Heap) (L : List Loc) : Prop := v = none ∧ (∀ y ∈ L, y.base = x) ∧ RoadKit.Keep h h' [x] ∧ h'.size = h.size + 1 ∧ RoadKit.Exa Z h' x ST ∧ RoadKit.Fld Z h' x ST "value" "[B" (.ref h.size) ∧ RoadKit.Fld Z h' x ST "coder" "B" (.int 0) ∧
  (∃ V : Cell, RoadKit.Arr Z h' h.size V .byte ∧ V.vm = .none ∧ Z.vm.findClass "[B" = some V.cls ∧ V.slots.size = A.slots.size ∧ ∀ j, j < A.slots.size → V.slots[j]? = some (.int (lo8 (cv A j)))) ∧
  ∀ (O n d : String) (w : Value), RoadKit.Fld Z h x O n d w → RoadKit.slotOf Z O n d ≠ RoadKit.slotOf Z ST "value" "[B" → RoadKit.slotOf Z O n d ≠ RoadKit.slotOf Z ST "coder" "B" → RoadKit.Fld Z h' x O n d w
/-- **new String(chars) AT A CALL, IN THE ROAD'S FORM**: for specialBack behind newO: x the fresh String, b the char[] with the cell A -/
theorem back {p : Program} {l : Launch} {e : Env} {R : Room} {s : State} {args : Array Value} {below : List Frame} {len W : Nat} {Z : State} {a0 : Array Value} {h : Heap} (hZ : Z.Warmed39 s.vm) (hw : ∀ d ∈ words, d.before a0 Z = true) {kI : Nat} (wi : (Jvm.Cond.instantiable ST kI).before a0 Z = true)
    {x b : Addr} {A : Cell} {z : Int32} {v0 c0 : Value} (E : RoadKit.Exa Z h x ST) (V : RoadKit.Fld Z h x ST "value" "[B" v0) (C : RoadKit.Fld Z h x ST "coder" "B" c0) (K : RoadKit.Arr Z h b A .char) (hty : Typed .char A) (S : RoadKit.Sta Z h ST "COMPACT_STRINGS" "Z" (.int z)) (hz : ¬ z = 0)
    (l0 : 0 < A.slots.size) (l2 : A.slots.size ≤ 536870912) (hp : ∀ i, i < A.slots.size → ¬ 255 < cv A i) (hfr : 4 ≤ R.frames) (hlo : W + 65 ≤ R.locals) :
    Back l R p e below s args New1.yN len W (fun P a => a = #[.ref x, .ref b] ∧ P.U.heap = h ∧ P.cells + 1 ≤ R.cells ∧ P.slots + A.slots.size ≤ R.slots)
      (fun P _ v B => ∃ L, Q Z x A h v B.U.heap L ∧ B.locs = P.locs ++ L ∧ B.cells = P.cells + 1 ∧ B.slots = P.slots + A.slots.size) := by
  intro m meth c P g ig mk a X hg hsize hdg hW hn hp'
  obtain ⟨rfl, rfl, r1, r2⟩ := hp'
  have al : Z.vm.Alike P.U.vm := hZ.alike.trans X.warmed.alike
  obtain ⟨D, cfV, kV, iV, fV, hD, gV, stV, knV, obV, asV, slV⟩ := id V
  obtain ⟨D', cfC, kC, iC, fC, hD', gC, stC, -, -, asC, slC⟩ := id C
  cases hD.symm.trans hD'
  obtain ⟨D2, kD, e1, e2, e3, e4, e5⟩ := id E
  cases hD.symm.trans e1
  obtain ⟨c2, k2, i1, i2, i3, -⟩ := Cond.instantiable_spec wi
  cases e2.symm.trans i1
  cases e3.symm.trans i2
  obtain ⟨kU, u1, u2⟩ := al.2.2 _ _ e3
  have hB : Blank ST x D P.U := ⟨hD, ⟨knV, fun q hq => by rw [hq] at obV; cases obV⟩, by rw [al.findClass]; exact e2, kU, u1, by rw [u2]; exact i3, by rw [u2]; exact e5 i3⟩
  have F1 : Found ST "value" "[B" fV P.U := ⟨SBG.found_only al ⟨cfV, kV, iV, gV⟩, stV⟩
  have F2 : Found ST "coder" "B" fC P.U := ⟨SBG.found_only al ⟨cfC, kC, iC, gC⟩, stC⟩
  have hA : Ch b A P.U := ⟨⟨K.1, State.isArrayOf_alike al K.2.1, K.2.2, by omega⟩, hty⟩
  have hS : StaticIs P.U ST "COMPACT_STRINGS" "Z" (.int z) := by
    obtain ⟨cfS, iS, kS, fS, st, cS, t1, t2, t3, t4, t5, t6, t7⟩ := S
    exact StaticIs.there (s := { Z with heap := P.U.heap }) ⟨cfS, iS, kS, fS, st, cS, t1, t2, t3, t4, t5, (fun q => by rw [q] at t6; cases t6), t7⟩ al rfl
  obtain ⟨v, B, X', ⟨⟨hv, E', V', q1, q2, q3, q4, q5, q6, q7, q8, q9, q10, q11⟩, hl, hc, hs⟩, st⟩ := New1.pays x D fV fC b A z (tab_of (moved hZ hw)) hfr hlo m meth c P g ig mk _ X hg hsize hdg hW hn ⟨r1, r2, rfl, hB, F1, F2, hA, hS, hz, l0, l2, hp⟩
  have al' : Z.vm.Alike B.U.vm := hZ.alike.trans X'.warmed.alike
  have hsz : E'.slots.size = D.slots.size := by
    obtain ⟨-, -, -, kB, w1, w2, w3⟩ := q1
    obtain ⟨kB', y1, y2⟩ := al'.2.2 _ _ e3
    rw [q2.2.1] at w1
    cases w1.symm.trans y1
    rw [w3, e5 i3, y2]
  refine ⟨v, B, X', ⟨_, ⟨hv, ?_, ⟨by omega, fun y cy hy hn' => q10 y cy (by simpa using hn') hy, fun y cy hy => ?_⟩, q11, ⟨E', _, q1.1, by rw [q2.2.1]; exact e2, by rw [q2.2.1]; exact e3, by rw [q2.1]; exact obV, fun _ => by rw [hsz]; exact e5 i3⟩,
    ⟨E', cfV, kV, iV, fV, q1.1, gV, stV, by rw [q2.1]; exact knV, by rw [q2.1]; exact obV, by rw [q2.2.1]; exact asV, q3⟩, ⟨E', cfC, kC, iC, fC, q1.1, gC, stC, by rw [q2.1]; exact knV, by rw [q2.1]; exact obV, by rw [q2.2.1]; exact asC, q4⟩,
    ⟨V', ⟨q5.1, State.isArrayOf_alike al'.symm q5.2.1, q5.2.2.1⟩, q6, by rw [← al'.findClass]; exact q7, q8, fun j hj => by have := q9 j hj; rwa [Nat.zero_add] at this⟩, fun O n d w F n1 n2 => ?_⟩, hl, hc, hs⟩, st⟩
  · intro y hy
    simp only [List.mem_cons, List.not_mem_nil, or_false] at hy
    rcases hy with rfl | rfl <;> rfl
  · by_cases q : y = x
    · subst q
      cases hD.symm.trans hy
      exact ⟨E', q1.1, q2.2.1, q2.1, hsz⟩
    · exact ⟨cy, q10 y cy q hy, rfl, rfl, rfl⟩
  · obtain ⟨D3, cf, k, i, f, g1, g2, g3, g4, g5, g6, g7⟩ := F
    cases hD.symm.trans g1
    simp only [RoadKit.slotOf, g2, gV, gC, Option.map_some, Option.getD_some] at n1 n2
    exact ⟨E', cf, k, i, f, q1.1, g2, g3, by rw [q2.1]; exact g4, by rw [q2.1]; exact g5, by rw [q2.2.1]; exact g6, by rw [q2.2.2 f.slot (by simp [n1, n2])]; exact g7⟩
end StrChars.Road
namespace StrChars.Road
open Jvm Sem ClassFile Op Lib Jvm.Stand Jvm.Free Jvm.Free.XT
/-- WHAT COMES BACK, the byte[] as a list of values -/
def QA (Z : State) (x : Addr) (zn : Int32) (cs : List Int32) (h : Heap) (v : Option Value) (h' : Heap) (L : List Loc) : Prop := v = none ∧ (∀ y ∈ L, y.base = x) ∧ RoadKit.Keep h h' [x] ∧ h'.size = h.size + 1 ∧ RoadKit.Exa Z h' x ST ∧ RoadKit.Fld Z h' x ST "value" "[B" (.ref h.size) ∧ RoadKit.Fld Z h' x ST "coder" "B" (.int 0) ∧
  (∃ kb, Z.vm.findClass "[B" = some kb ∧ RoadKit.Arv Z h' h.size kb .byte zn (cs.map fun c => .int (lo8 c)) (.int 0)) ∧
  ∀ (O n d : String) (w : Value), RoadKit.Fld Z h x O n d w → RoadKit.slotOf Z O n d ≠ RoadKit.slotOf Z ST "value" "[B" → RoadKit.slotOf Z O n d ≠ RoadKit.slotOf Z ST "coder" "B" → RoadKit.Fld Z h' x O n d w
/-- **new String(chars) AT A CALL, THE ARRAYS AS LISTS**: the char[] at b holds cs, not empty, no char above 255 -/
theorem backArv {p : Program} {l : Launch} {e : Env} {R : Room} {s : State} {args : Array Value} {below : List Frame} {len W : Nat} {Z : State} {a0 : Array Value} {h : Heap} (hZ : Z.Warmed39 s.vm) (hw : ∀ d ∈ words, d.before a0 Z = true) {kI : Nat} (wi : (Jvm.Cond.instantiable ST kI).before a0 Z = true)
    {x b : Addr} {k : ClassId} {zn z : Int32} {cs : List Int32} {dv v0 c0 : Value} (E : RoadKit.Exa Z h x ST) (V : RoadKit.Fld Z h x ST "value" "[B" v0) (C : RoadKit.Fld Z h x ST "coder" "B" c0) (K : RoadKit.Arv Z h b k .char zn (cs.map Value.int) dv) (S : RoadKit.Sta Z h ST "COMPACT_STRINGS" "Z" (.int z)) (hz : ¬ z = 0)
    (hlen : zn.toNatClampNeg = cs.length) (h0 : 0 < cs.length) (hbig : cs.length ≤ 536870912) (hall : ∀ c ∈ cs, ¬ 255 < c) (hfr : 4 ≤ R.frames) (hlo : W + 65 ≤ R.locals) :
    Back l R p e below s args New1.yN len W (fun P a => a = #[.ref x, .ref b] ∧ P.U.heap = h ∧ P.cells + 1 ≤ R.cells ∧ P.slots + cs.length ≤ R.slots)
      (fun P _ v B => ∃ L, QA Z x zn cs h v B.U.heap L ∧ B.locs = P.locs ++ L ∧ B.cells = P.cells + 1 ∧ B.slots = P.slots + cs.length) := by
  obtain ⟨A, K1, K2, K3, K4, K5, K6⟩ := K
  have e : A.slots.size = cs.length := K3.trans hlen
  have hat : ∀ (i : Nat) (hi : i < cs.length), A.slots[i]? = some (.int cs[i]) := fun i hi => by rw [K5 i (by omega)]; simp [List.getD_eq_getElem?_getD, hi]
  have hcv : ∀ (i : Nat) (hi : i < cs.length), cv A i = cs[i] := fun i hi => by unfold cv; rw [hat i hi]
  have hty : Typed .char A := fun i v hv => by
    have hi : i < A.slots.size := (Array.getElem?_eq_some_iff.mp hv).1
    have q := K5 i hi
    rw [hv] at q
    rw [Option.some.inj q]
    exact K6 i hi
  refine Back.mono (back hZ hw wi E V C K1 hty S hz (by omega) (by omega) (fun i hi => by rw [hcv i (by omega)]; exact hall _ (List.getElem_mem _)) hfr hlo) (fun P a hp => ⟨hp.1, hp.2.1, hp.2.2.1, by rw [e]; exact hp.2.2.2⟩) (fun P a v B hp hq => ?_)
  obtain ⟨L, ⟨q1, q2, q3, q4, q5, q6, q7, ⟨V', v1, v2, v3, v4, v5⟩, q9⟩, hl, hc, hs⟩ := hq
  refine ⟨L, ⟨q1, q2, q3, q4, q5, q6, q7, ⟨V'.cls, v3, V', v1, rfl, by rw [v4, e, hlen], K4, fun i hi => ?_, fun i hi => ?_⟩, q9⟩, hl, hc, by rw [hs, e]⟩
  · have hi' : i < cs.length := by omega
    rw [v5 i (by omega), hcv i hi']; simp [List.getD_eq_getElem?_getD, hi']
  · have hi' : i < cs.length := by omega
    simp only [List.getD_eq_getElem?_getD, List.getElem?_map, List.getElem?_eq_getElem hi', Option.map_some, Option.getD_some]
    exact fits_lo8 _
end StrChars.Road
namespace StrChars.Road
open Jvm Sem ClassFile Op Lib Jvm.Stand Jvm.Free Jvm.Free.XT
/-- WHAT COMES BACK, in the writer's own shape -/
def QV (Z : State) (x : Addr) (N : Int32) (bs : List Int32) (h : Heap) (n0 : Nat) (v : Option Value) (h' : Heap) (L : List Loc) : Prop := v = none ∧ RoadKit.Fr n0 L ∧ RoadKit.Keep h h' [x] ∧ RoadKit.Exa Z h' x ST ∧ RoadKit.Fld Z h' x ST "coder" "B" (.int 0) ∧
  ∃ (t : Addr) (kb : ClassId), n0 ≤ t ∧ h.size ≤ t ∧ ¬ t = x ∧ RoadKit.Fld Z h' x ST "value" "[B" (.ref t) ∧ RoadKit.Arv Z h' t kb .byte N (bs.map Value.int) (.int 0)
/-- **new String(chars) AT A CALL, FOR THE WRITER**: a char[] of n known ints, each 0 to 255 -/
theorem backV {p : Program} {l : Launch} {e : Env} {R : Room} {s : State} {args : Array Value} {below : List Frame} {len W : Nat} {Z : State} {a0 : Array Value} {h : Heap} (hZ : Z.Warmed39 s.vm) (hw : ∀ d ∈ words, d.before a0 Z = true) {kI : Nat} (wi : (Jvm.Cond.instantiable ST kI).before a0 Z = true)
    {x b : Addr} {kC : ClassId} {cs bs : List Int32} {d v0 c0 : Value} {z N : Int32} {n n0 : Nat} (hx0 : n0 ≤ x) (hh0 : n0 ≤ h.size) (E : RoadKit.Exa Z h x ST) (V : RoadKit.Fld Z h x ST "value" "[B" v0) (C : RoadKit.Fld Z h x ST "coder" "B" c0) (K : RoadKit.Arv Z h b kC .char N (cs.map Value.int) d) (S : RoadKit.Sta Z h ST "COMPACT_STRINGS" "Z" (.int z)) (hz : ¬ z = 0)
    (hn : cs.length = n) (hN : N = Int32.ofNat n) (l0 : 0 < n) (l2 : n ≤ 4000) (hp : ∀ c ∈ cs, ¬ c < 0 ∧ ¬ (255 : Int32) < c) (hb : bs = cs.map (fun c => c.toInt8.toInt32)) (hfr : 4 ≤ R.frames) (hlo : W + 65 ≤ R.locals) :
    Back l R p e below s args (⟨"java/lang/String", "<init>", "([C)V"⟩ : MethodName) len W (fun P a => a = #[.ref x, .ref b] ∧ P.U.heap = h ∧ P.cells + 1 ≤ R.cells ∧ P.slots + n ≤ R.slots)
      (fun P _ v B => ∃ L, QV Z x N bs h n0 v B.U.heap L ∧ B.locs = P.locs ++ L ∧ B.cells = P.cells + 1 ∧ B.slots = P.slots + n) := by
  subst hn hN hb
  refine Back.mono (backArv hZ hw wi E V C K S hz (n32 (by omega)) l0 (by omega) (fun c hc => (hp c hc).2) hfr hlo) (fun P a hp => hp) (fun P a v B hp hq => ?_)
  obtain ⟨L, ⟨q1, q2, q3, q4, q5, q6, q7, ⟨kb, v1, v2⟩, q9⟩, hl, hc, hs⟩ := hq
  exact ⟨L, ⟨q1, fun y hy => by rw [q2 y hy]; exact hx0, q3, q5, q7, h.size, kb, hh0, Nat.le_refl _, Nat.ne_of_gt E.lt, q6, by rw [List.map_map]; exact v2⟩, hl, hc, hs⟩
end StrChars.Road
namespace StrChars
open Jvm Sem ClassFile Op Lib Jvm.Stand Jvm.Free.XT Jvm.Free.ALB Jvm.Free.JM Jvm.Free
open Jvm.Lib.Cold (StaticIs)
def hi8 (x : Int32) : Int32 := lo8 (x >>> ((8 : Int32) &&& 31))
/-- what StringUTF16.getChar makes of two bytes -/
def pairCh (u v : Int32) : Int32 := (((u &&& 255) <<< ((0 : Int32) &&& 31)) ||| ((v &&& 255) <<< ((8 : Int32) &&& 31))).toUInt32.toUInt16.toUInt32.toInt32
theorem lo8_and (x : Int32) : (lo8 x &&& 255).toBitVec.toNat = x.toBitVec.toNat % 256 := by
  have h : (lo8 x).toBitVec = (x.toBitVec.signExtend 8).signExtend 32 := by rw [lo8, Int8.toBitVec_toInt32, Int32.toBitVec_toInt8]
  rw [Int32.toBitVec_and, BitVec.toNat_and, h]
  have e : ((x.toBitVec.signExtend 8).signExtend 32).toNat % 256 = x.toBitVec.toNat % 256 := by
    rw [BitVec.toNat_signExtend]
    have hlt := x.toBitVec.isLt
    simp only [BitVec.toNat_setWidth, BitVec.toNat_signExtend]
    split <;> split <;> omega
  rw [← e]
  exact Nat.and_two_pow_sub_one_eq_mod _ 8
theorem pair_says {c : Int32} (h0 : ¬ c < 0) (h1 : ¬ 65535 < c) : pairCh (lo8 c) (hi8 c) = c := by
  rw [Int32.lt_iff_toInt_lt] at h0 h1
  have e0 : (0 : Int32).toInt = 0 := rfl
  have e1 : (65535 : Int32).toInt = 65535 := rfl
  have hc : c.toInt = c.toBitVec.toNat := by
    have := c.toBitVec.isLt
    have e : c.toInt = c.toBitVec.toInt := rfl
    rw [e] at h0 h1
    rw [e]
    rw [BitVec.toInt_eq_toNat_cond] at h0 h1 ⊢
    split at h0 <;> split <;> omega
  have hn : c.toBitVec.toNat < 65536 := by omega
  have a1 := lo8_and c
  have a2 : (hi8 c &&& 255).toBitVec.toNat = c.toBitVec.toNat / 256 := by
    rw [hi8, lo8_and]
    have e : ((8 : Int32) &&& 31) = 8 := by decide
    rw [e, Int32.toBitVec_shiftRight]
    have e2 : ((8 : Int32).toBitVec.smod 32) = 8#32 := by decide
    rw [e2, BitVec.sshiftRight_eq', BitVec.toNat_sshiftRight_of_msb_false (by rw [BitVec.msb_eq_false_iff_two_mul_lt]; omega)]
    show c.toBitVec.toNat >>> 8 % 256 = _
    rw [Nat.shiftRight_eq_div_pow]
    omega
  unfold pairCh
  apply Int32.toBitVec_inj.mp
  apply BitVec.eq_of_toNat_eq
  have f0 : ((0 : Int32) &&& 31) = 0 := by decide
  have f8 : ((8 : Int32) &&& 31) = 8 := by decide
  rw [f0, f8]
  have g : (((lo8 c &&& 255) <<< (0 : Int32)) ||| ((hi8 c &&& 255) <<< (8 : Int32))).toBitVec.toNat = c.toBitVec.toNat := by
    rw [Int32.toBitVec_or, Int32.toBitVec_shiftLeft, Int32.toBitVec_shiftLeft]
    have s0 : ((0 : Int32).toBitVec.smod 32) = 0#32 := by decide
    have s8 : ((8 : Int32).toBitVec.smod 32) = 8#32 := by decide
    rw [s0, s8, BitVec.toNat_or]
    simp only [BitVec.shiftLeft_eq', BitVec.toNat_shiftLeft, a1, a2]
    show (c.toBitVec.toNat % 256) <<< 0 % 2 ^ 32 ||| (c.toBitVec.toNat / 256) <<< 8 % 2 ^ 32 = _
    rw [Nat.shiftLeft_zero, Nat.mod_eq_of_lt (show c.toBitVec.toNat % 256 < 2 ^ 32 by omega), Nat.mod_eq_of_lt (show (c.toBitVec.toNat / 256) <<< 8 < 2 ^ 32 by rw [Nat.shiftLeft_eq]; omega), Nat.or_comm, ← Nat.shiftLeft_add_eq_or_of_lt (by omega), Nat.shiftLeft_eq]
    omega
  show BitVec.toNat (((((lo8 c &&& 255) <<< (0 : Int32)) ||| ((hi8 c &&& 255) <<< (8 : Int32))).toBitVec.setWidth 16).setWidth 32) = _
  rw [BitVec.toNat_setWidth, BitVec.toNat_setWidth, g]
  omega
end StrChars
namespace StrChars
open Jvm Sem ClassFile Op Lib Jvm.Stand Jvm.Free.XT Jvm.Free.ALB Jvm.Free.JM Jvm.Free
open Jvm.Lib.Cold (StaticIs)
/-- the array's cell V codes the n chars f 0 .. f (n - 1) by the coder cd, as the JDK does: coder 1 just where some char is above 255 -/
def Cod (cd : Int32) (n : Nat) (f : Nat → Int32) (V : Cell) : Prop := (cd = 0 ∧ V.slots.size = n ∧ ∀ j, j < n → V.slots[j]? = some (.int (lo8 (f j))) ∧ ¬ 255 < f j) ∨ (cd = 1 ∧ V.slots.size = 2 * n ∧ (∀ j, j < n → V.slots[2 * j]? = some (.int (lo8 (f j))) ∧ V.slots[2 * j + 1]? = some (.int (hi8 (f j)))) ∧ ∃ j, j < n ∧ 255 < f j)
/-- **x is a String of the n chars f 0 .. f (n - 1)**, Latin-1 or UTF-16; its array at t has the cell V -/
def Txt (x t : Addr) (V : Cell) (cd : Int32) (n : Nat) (f : Nat → Int32) (U : State) : Prop := Exact "java/lang/String" x U ∧ Has x "java/lang/String" "value" "[B" (.ref t) U ∧ Has x "java/lang/String" "coder" "B" (.int cd) U ∧ XT.Arr .byte t V U ∧ Cod cd n f V ∧ ∀ j, j < n → ¬ f j < 0 ∧ ¬ 65535 < f j
theorem Txt.mv {x t : Addr} {V : Cell} {cd : Int32} {n : Nat} {f : Nat → Int32} {U U' : State} (h : Txt x t V cd n f U) (hal : U.vm.Alike U'.vm) (hh : U'.heap = U.heap) : Txt x t V cd n f U' := ⟨h.1.mv hal hh, h.2.1.mv hal hh, h.2.2.1.mv hal hh, h.2.2.2.1.mv hal hh, h.2.2.2.2⟩
end StrChars
namespace StrChars.Road
open Jvm Sem ClassFile Op Lib Jvm.Stand Jvm.Free Jvm.Free.XT
open Jvm.Lib.Cold (StaticIs)
theorem consq {a : Array Value} {s : State} {c : Jvm.Cond} {L : List Jvm.Cond} (h0 : c.before a s = true) (h : ∀ w ∈ L, w.before a s = true) : ∀ w ∈ c :: L, w.before a s = true := fun w hw => (List.mem_cons.mp hw).elim (fun e => e ▸ h0) (h w)
/-- the bytes of the chars cs, low before high -/
def wideBytes : List Int32 → List Value
  | [] => []
  | c :: cs => .int (lo8 c) :: .int (hi8 c) :: wideBytes cs
theorem wide_lo (d : Value) : ∀ (cs : List Int32) (j : Nat), j < cs.length → (wideBytes cs).getD (2 * j) d = .int (lo8 (cs.getD j 0))
  | [], j, h => absurd h (Nat.not_lt_zero j)
  | c :: cs, 0, _ => rfl
  | c :: cs, j + 1, h => by
    have q := wide_lo d cs j (by simpa using h)
    rw [show 2 * (j + 1) = 2 * j + 1 + 1 from by omega]
    simpa [wideBytes] using q
theorem wide_hi (d : Value) : ∀ (cs : List Int32) (j : Nat), j < cs.length → (wideBytes cs).getD (2 * j + 1) d = .int (hi8 (cs.getD j 0))
  | [], j, h => absurd h (Nat.not_lt_zero j)
  | c :: cs, 0, _ => rfl
  | c :: cs, j + 1, h => by
    have q := wide_hi d cs j (by simpa using h)
    rw [show 2 * (j + 1) + 1 = 2 * j + 1 + 1 + 1 from by omega]
    simpa [wideBytes] using q
theorem low_at (d : Value) (cs : List Int32) (j : Nat) (h : j < cs.length) : (cs.map fun c => Value.int (lo8 c)).getD j d = .int (lo8 (cs.getD j 0)) := by
  simp [List.getD_eq_getElem?_getD, h]
/-- an array of N2 bytes vs codes the chars cs by the coder cd -/
def CodA (cs : List Int32) (cd N2 : Int32) (vs : List Value) : Prop := (cd = 0 ∧ N2 = Int32.ofNat cs.length ∧ vs = (cs.map fun c => Value.int (lo8 c)) ∧ ∀ c ∈ cs, ¬ 255 < c) ∨ (cd = 1 ∧ N2 = Int32.ofNat (2 * cs.length) ∧ vs = wideBytes cs ∧ ∃ c ∈ cs, 255 < c)
theorem CodA.cod {cs : List Int32} {cd N2 : Int32} {vs : List Value} {V : Cell} (h : CodA cs cd N2 vs) (hn : 2 * cs.length < 2 ^ 31) (hs : V.slots.size = N2.toNatClampNeg) (hv : RoadKit.Has V vs (.int 0)) : Cod cd cs.length (fun j => cs.getD j 0) V := by
  rcases h with ⟨rfl, rfl, rfl, h⟩ | ⟨rfl, rfl, rfl, c, hc, hw⟩
  · rw [n32 (by omega)] at hs
    exact Or.inl ⟨rfl, hs, fun j hj => ⟨by rw [hv j (by omega), low_at _ _ _ hj], by
      have e : cs.getD j 0 = cs[j] := by simp [List.getD_eq_getElem?_getD, hj]
      show ¬ 255 < cs.getD j 0
      rw [e]; exact h _ (List.getElem_mem _)⟩⟩
  · rw [n32 (by omega)] at hs
    obtain ⟨j, hj, rfl⟩ := List.getElem_of_mem hc
    exact Or.inr ⟨rfl, hs, fun j hj => ⟨by rw [hv _ (by omega), wide_lo _ _ _ hj], by rw [hv _ (by omega), wide_hi _ _ _ hj]⟩, j, hj, by
      have e : cs.getD j 0 = cs[j] := by simp [List.getD_eq_getElem?_getD, hj]
      show 255 < cs.getD j 0
      rw [e]; exact hw⟩
/-- an object of exactly java/lang/String, its two fields found: as the laws ask it -/
theorem strObj {Z U : State} {a0 : Array Value} {kI : Nat} (wi : (Jvm.Cond.instantiable ST kI).before a0 Z = true) (al : Z.vm.Alike U.vm) {x : Addr} {v0 c0 : Value} (E : RoadKit.Exa Z U.heap x ST) (V : RoadKit.Fld Z U.heap x ST "value" "[B" v0) (C : RoadKit.Fld Z U.heap x ST "coder" "B" c0) :
    ∃ (D : Cell) (fV fC : Field), Blank ST x D U ∧ Found ST "value" "[B" fV U ∧ Found ST "coder" "B" fC U ∧ D.slots[fV.slot]? = some v0 ∧ D.slots[fC.slot]? = some c0 ∧ RoadKit.slotOf Z ST "value" "[B" = fV.slot ∧ RoadKit.slotOf Z ST "coder" "B" = fC.slot := by
  obtain ⟨D, cfV, kV, iV, fV, hD, gV, stV, knV, obV, asV, slV⟩ := V
  obtain ⟨D', cfC, kC, iC, fC, hD', gC, stC, -, -, asC, slC⟩ := C
  cases hD.symm.trans hD'
  obtain ⟨D2, kD, e1, e2, e3, e4, e5⟩ := E
  cases hD.symm.trans e1
  obtain ⟨c2, k2, i1, i2, i3, -⟩ := Cond.instantiable_spec wi
  cases e2.symm.trans i1
  cases e3.symm.trans i2
  obtain ⟨kU, u1, u2⟩ := al.2.2 _ _ e3
  exact ⟨D, fV, fC, ⟨hD, ⟨knV, fun q hq => by rw [hq] at obV; cases obV⟩, by rw [al.findClass]; exact e2, kU, u1, by rw [u2]; exact i3, by rw [u2]; exact e5 i3⟩, ⟨SBG.found_only al ⟨cfV, kV, iV, gV⟩, stV⟩, ⟨SBG.found_only al ⟨cfC, kC, iC, gC⟩, stC⟩, slV, slC, by simp [RoadKit.slotOf, gV], by simp [RoadKit.slotOf, gC]⟩
theorem sta_is {Z U : State} (al : Z.vm.Alike U.vm) {C n d : String} {v : Value} (S : RoadKit.Sta Z U.heap C n d v) : StaticIs U C n d v := by
  obtain ⟨cfS, iS, kS, fS, st, cS, t1, t2, t3, t4, t5, t6, t7⟩ := S
  exact StaticIs.there (s := { Z with heap := U.heap }) ⟨cfS, iS, kS, fS, st, cS, t1, t2, t3, t4, t5, (fun q => by rw [q] at t6; cases t6), t7⟩ al rfl
end StrChars.Road
namespace StrChars
open Jvm Sem ClassFile Op Lib Jvm.Stand Jvm.Free.XT Jvm.Free.ALB Jvm.Free.JM Jvm.Free
open Jvm.Lib.Cold (StaticIs)
/-- what place i of a byte[]'s cell holds -/
def yv (A : Cell) (i : Nat) : Int32 := match A.slots[i]? with | some (.int x) => x | _ => 0
theorem yv_get {a : Addr} {A : Cell} {U : State} (h : XT.Arr .byte a A U) (ht : Typed .byte A) {i : Nat} (hi : i < A.slots.size) : A.slots[i]? = some (.int (yv A i)) := by
  have e := Array.getElem?_eq_getElem hi
  have f := ht i _ e
  unfold yv; rw [e]
  generalize A.slots[i] = v at f
  cases v <;> simp [fits] at f ⊢
/-- the two arrays are equal, place for place -/
def EqC (A B : Cell) : Prop := A.slots.size = B.slots.size ∧ ∀ i, i < A.slots.size → yv A i = yv B i
/-- a boolean that says whether p -/
def Says01 (q : Prop) (r : Option Value) (s u : State) : Prop := ∃ v : Int32, r = some (.int v) ∧ u.heap = s.heap ∧ ((v = 1 ∧ q) ∨ (v = 0 ∧ ¬ q))
theorem Says01.mv {q : Prop} : ∀ r (U U' V V' : State), U'.heap = U.heap → V.vm.Alike V'.vm → V'.heap = V.heap → Says01 q r U V → Says01 q r U' V' :=
  fun r U U' V V' h1 _ h2 ⟨v, a, b, c⟩ => ⟨v, a, by rw [h1, h2]; exact b, c⟩
namespace LEq
def yN : MethodName := ⟨"java/lang/StringLatin1", "equals", "([B[B)Z"⟩
abbrev yB : ByteArray := jdk_43_method_13_code
theorem d0 : decode yB 0 = .ok (.aload_n 0, 1) := by decide +kernel
theorem d1 : decode yB 1 = .ok (.arraylength, 1) := by decide +kernel
theorem d2 : decode yB 2 = .ok (.aload_n 1, 1) := by decide +kernel
theorem d3 : decode yB 3 = .ok (.arraylength, 1) := by decide +kernel
theorem d4 : decode yB 4 = .ok (.if_icmp (.ne) 30, 3) := by decide +kernel
theorem d7 : decode yB 7 = .ok (.iconst 0, 1) := by decide +kernel
theorem d8 : decode yB 8 = .ok (.istore_n 2, 1) := by decide +kernel
theorem d9 : decode yB 9 = .ok (.iload_n 2, 1) := by decide +kernel
theorem d10 : decode yB 10 = .ok (.aload_n 0, 1) := by decide +kernel
theorem d11 : decode yB 11 = .ok (.arraylength, 1) := by decide +kernel
theorem d12 : decode yB 12 = .ok (.if_icmp (.ge) 20, 3) := by decide +kernel
theorem d15 : decode yB 15 = .ok (.aload_n 0, 1) := by decide +kernel
theorem d16 : decode yB 16 = .ok (.iload_n 2, 1) := by decide +kernel
theorem d17 : decode yB 17 = .ok (.baload, 1) := by decide +kernel
theorem d18 : decode yB 18 = .ok (.aload_n 1, 1) := by decide +kernel
theorem d19 : decode yB 19 = .ok (.iload_n 2, 1) := by decide +kernel
theorem d20 : decode yB 20 = .ok (.baload, 1) := by decide +kernel
theorem d21 : decode yB 21 = .ok (.if_icmp (.eq) 5, 3) := by decide +kernel
theorem d24 : decode yB 24 = .ok (.iconst 0, 1) := by decide +kernel
theorem d25 : decode yB 25 = .ok (.ireturn, 1) := by decide +kernel
theorem d26 : decode yB 26 = .ok (.iinc 2 1, 3) := by decide +kernel
theorem d29 : decode yB 29 = .ok (.goto (-20), 3) := by decide +kernel
theorem d32 : decode yB 32 = .ok (.iconst 1, 1) := by decide +kernel
theorem d33 : decode yB 33 = .ok (.ireturn, 1) := by decide +kernel
theorem d34 : decode yB 34 = .ok (.iconst 0, 1) := by decide +kernel
theorem d35 : decode yB 35 = .ok (.ireturn, 1) := by decide +kernel
def site : List Cond := []
def tab : Cond := tabOf yN yB 3 (some .boolean) site
def P (a : Addr) (A : Cell) (b : Addr) (B : Cell) (args : Array Value) (s : State) : Prop := args = #[.ref a, .ref b] ∧ XT.Arr .byte a A s ∧ Typed .byte A ∧ XT.Arr .byte b B s ∧ Typed .byte B
/-- whether two byte[] are equal, place for place -/
theorem law (l : Launch) (a : Addr) (A : Cell) (b : Addr) (B : Cell) : Law l yN 2 2 0 0 yB 3 (some .boolean) site (P a A b B) (Says01 (EqC A B)) [] 0 0 := by
  refine Law.of_walk (plainFor_of_name (by decide +kernel)) (by decide +kernel) (by decide +kernel) (by decide) (fun _ _ h => by rw [h.1]; rfl) (fun _ U U' hal hh h => ⟨h.1, h.2.1.mv hal hh, h.2.2.1, h.2.2.2.1.mv hal hh, h.2.2.2.2⟩) (fun r U U' V V' h1 hal h2 h => Says01.mv r U U' V V' h1 hal h2 h) ?_
  intro p e s m args below meth c s₁ X0 hexec hbytes hml hret hlk hnm hown hh0 W hP
  obtain ⟨rfl, hA, tA, hB, tB⟩ := hP
  have a31 := hA.2.2.2
  have b31 := hB.2.2.2
  have hA0 := hA.mv X0.warmed.alike hh0
  have hB0 := hB.mv X0.warmed.alike hh0
  have c1 : Steps p.tables e below (s₁.setTop (entryFrame m #[.ref a, .ref b] 3)) (s₁.setTop (mkF m 0 #[.val (.ref a), .val (.ref b), .unset] [])) := entry rfl
  have c2 : Steps p.tables e below (s₁.setTop (entryFrame m #[.ref a, .ref b] 3)) (s₁.setTop (mkF m 4 #[.val (.ref a), .val (.ref b), .unset] [.int (Int32.ofNat B.slots.size), .int (Int32.ofNat A.slots.size)])) := c1.trans (by
    refine XS.aloadN X0.here hexec rfl (hb hbytes d0) rfl rfl ?_
    refine X0.alen hexec hA0 rfl rfl (hb hbytes d1) ?_
    refine XS.aloadN X0.here hexec rfl (hb hbytes d2) rfl rfl ?_
    refine X0.alen hexec hB0 rfl rfl (hb hbytes d3) ?_
    exact Steps.refl _)
  by_cases hs : A.slots.size = B.slots.size
  · have c3 : Steps p.tables e below (s₁.setTop (entryFrame m #[.ref a, .ref b] 3)) (s₁.setTop (mkF m 9 #[.val (.ref a), .val (.ref b), .val (.int 0)] [])) := c2.trans (by
      refine XS.icmpNo X0.here hexec rfl (hb hbytes d4) rfl (ii_ne_f (by rw [hs])) ?_
      refine iconstV X0.here hexec rfl 0 (hb hbytes d7) (by decide) ?_
      refine XS.istoreN X0.here hexec rfl (hb hbytes d8) rfl rfl ?_
      exact Steps.refl _)
    have loop : ∀ (r i : Nat), i + r = A.slots.size → (∀ j, j < i → yv A j = yv B j) → Steps p.tables e below (s₁.setTop (entryFrame m #[.ref a, .ref b] 3)) (s₁.setTop (mkF m 9 #[.val (.ref a), .val (.ref b), .val (.int (Int32.ofNat i))] [])) → ∃ (pc : Nat) (Ls : Array Slot) (v : Int32), (pc = 25 ∨ pc = 33) ∧ ((v = 1 ∧ EqC A B) ∨ (v = 0 ∧ ¬ EqC A B)) ∧ Steps p.tables e below (s₁.setTop (entryFrame m #[.ref a, .ref b] 3)) (s₁.setTop (mkF m pc Ls [.int v])) := by
      intro r
      induction r with
      | zero =>
        intro i hi he cl
        exact ⟨33, _, 1, Or.inr rfl, Or.inl ⟨rfl, hs, fun j hj => he j (by omega)⟩, cl.trans (by
          refine XS.iloadN X0.here hexec rfl (hb hbytes d9) rfl ?_
          refine XS.aloadN X0.here hexec rfl (hb hbytes d10) rfl rfl ?_
          refine X0.alen hexec hA0 rfl rfl (hb hbytes d11) ?_
          refine XS.icmpYes X0.here hexec rfl (pc0 := 12) rfl (hb hbytes d12) rfl (ii_ge_t (nlt32 (by omega) (by omega))) (by decide) rfl ?_
          refine iconstV X0.here hexec rfl 1 (hb hbytes d32) (by decide) ?_
          exact Steps.refl _)⟩
      | succ r ih =>
        intro i hi he cl
        have c4 : Steps p.tables e below (s₁.setTop (entryFrame m #[.ref a, .ref b] 3)) (s₁.setTop (mkF m 21 #[.val (.ref a), .val (.ref b), .val (.int (Int32.ofNat i))] [.int (yv B i), .int (yv A i)])) := cl.trans (by
          refine XS.iloadN X0.here hexec rfl (hb hbytes d9) rfl ?_
          refine XS.aloadN X0.here hexec rfl (hb hbytes d10) rfl rfl ?_
          refine X0.alen hexec hA0 rfl rfl (hb hbytes d11) ?_
          refine XS.icmpNo X0.here hexec rfl (hb hbytes d12) rfl (ii_ge_f (lt32 (by omega) (by omega))) ?_
          refine XS.aloadN X0.here hexec rfl (hb hbytes d15) rfl rfl ?_
          refine XS.iloadN X0.here hexec rfl (hb hbytes d16) rfl ?_
          refine X0.aget hexec hA0 rfl (yv_get hA tA (i := i) (by omega)) rfl rfl (hb hbytes d17) ?_
          refine XS.aloadN X0.here hexec rfl (hb hbytes d18) rfl rfl ?_
          refine XS.iloadN X0.here hexec rfl (hb hbytes d19) rfl ?_
          refine X0.aget hexec hB0 rfl (yv_get hB tB (i := i) (by omega)) rfl rfl (hb hbytes d20) ?_
          exact Steps.refl _)
        by_cases hv : yv A i = yv B i
        · have c5 : Steps p.tables e below (s₁.setTop (entryFrame m #[.ref a, .ref b] 3)) (s₁.setTop (mkF m 9 #[.val (.ref a), .val (.ref b), .val (.int (Int32.ofNat i + 1))] [])) := c4.trans (by
            refine XS.icmpYes X0.here hexec rfl (pc0 := 21) rfl (hb hbytes d21) rfl (ii_eq_t hv) (by decide) rfl ?_
            refine iincV X0.here hexec rfl 1 (hb hbytes d26) (by decide) rfl rfl ?_
            refine XS.goto X0.here hexec rfl (pc0 := 29) rfl (hb hbytes d29) (by decide) rfl ?_
            exact Steps.refl _)
          rw [succ32] at c5
          exact ih (i + 1) (by omega) (fun j hj => by
            by_cases e : j = i
            · rw [e]; exact hv
            · exact he j (by omega)) c5
        · exact ⟨25, _, 0, Or.inl rfl, Or.inr ⟨rfl, fun q => hv (q.2 i (by omega))⟩, c4.trans (by
            refine XS.icmpNo X0.here hexec rfl (hb hbytes d21) rfl (ii_eq_f hv) ?_
            refine iconstV X0.here hexec rfl 0 (hb hbytes d24) (by decide) ?_
            exact Steps.refl _)⟩
    obtain ⟨pc, Ls, v, hpc, hv, cz⟩ := loop A.slots.size 0 (by omega) (fun j hj => absurd hj (Nat.not_lt_zero j)) c3
    have nv : narrow .boolean (.int v) = .int v := by rcases hv with ⟨rfl, -⟩ | ⟨rfl, -⟩ <;> rfl
    rcases hpc with rfl | rfl
    · exact ⟨s₁, some (.int v), _, _, _, X0, rfl, rfl, rfl, (fun h => by cases h), ⟨v, rfl, hh0, hv⟩, fun fs hl => cz.trans (X0.ireturnOut hexec hret nv (Or.inr (Or.inl rfl)) (hb hbytes d25) hl)⟩
    · exact ⟨s₁, some (.int v), _, _, _, X0, rfl, rfl, rfl, (fun h => by cases h), ⟨v, rfl, hh0, hv⟩, fun fs hl => cz.trans (X0.ireturnOut hexec hret nv (Or.inr (Or.inl rfl)) (hb hbytes d33) hl)⟩
  · have c3 : Steps p.tables e below (s₁.setTop (entryFrame m #[.ref a, .ref b] 3)) (s₁.setTop (mkF m 35 #[.val (.ref a), .val (.ref b), .unset] [.int 0])) := c2.trans (by
      refine XS.icmpYes X0.here hexec rfl (pc0 := 4) rfl (hb hbytes d4) rfl (ii_ne_t (ne32 a31 b31 hs)) (by decide) rfl ?_
      refine iconstV X0.here hexec rfl 0 (hb hbytes d34) (by decide) ?_
      exact Steps.refl _)
    exact ⟨s₁, some (.int 0), _, _, _, X0, rfl, rfl, rfl, (fun h => by cases h), ⟨0, rfl, hh0, Or.inr ⟨rfl, fun q => hs q.1⟩⟩, fun fs hl => c3.trans (X0.ireturnOut hexec hret rfl (Or.inr (Or.inl rfl)) (hb hbytes d35) hl)⟩
end LEq
theorem Cod.ty {cd : Int32} {n : Nat} {f : Nat → Int32} {V : Cell} (h : Cod cd n f V) : Typed .byte V := fun i v hv => by
  have hi : i < V.slots.size := (Array.getElem?_eq_some_iff.mp hv).1
  rcases h with ⟨-, k1, k2⟩ | ⟨-, k1, k2, -⟩
  · rw [(k2 i (by omega)).1] at hv; cases hv; exact fits_lo8 _
  · rcases Nat.mod_two_eq_zero_or_one i with e | e
    · obtain ⟨j, rfl⟩ : ∃ j, i = 2 * j := ⟨i / 2, by omega⟩
      rw [(k2 j (by omega)).1] at hv; cases hv; exact fits_lo8 _
    · obtain ⟨j, rfl⟩ : ∃ j, i = 2 * j + 1 := ⟨i / 2, by omega⟩
      rw [(k2 j (by omega)).2] at hv; cases hv; exact fits_lo8 _
/-- the same text -/
def SameT (n : Nat) (f : Nat → Int32) (k : Nat) (g : Nat → Int32) : Prop := n = k ∧ ∀ j, j < n → f j = g j
theorem lo8_inj {x y : Int32} (h0 : ¬ x < 0) (h1 : ¬ 255 < x) (k0 : ¬ y < 0) (k1 : ¬ 255 < y) (h : lo8 x = lo8 y) : x = y := by
  rw [← lo8_mask h0 h1, ← lo8_mask k0 k1, h]
/-- arrays coded by one coder are equal just where the texts are -/
theorem Cod.eqv {cd : Int32} {n k : Nat} {f g : Nat → Int32} {V V' : Cell} (h : Cod cd n f V) (h' : Cod cd k g V') (hf : ∀ j, j < n → ¬ f j < 0 ∧ ¬ 65535 < f j) (hg : ∀ j, j < k → ¬ g j < 0 ∧ ¬ 65535 < g j) : EqC V V' ↔ SameT n f k g := by
  have yvv : ∀ {W : Cell} {i : Nat} {x : Int32}, W.slots[i]? = some (.int x) → yv W i = x := fun q => by unfold yv; rw [q]
  rcases h with ⟨rfl, k1, k2⟩ | ⟨rfl, k1, k2, -⟩
  · rcases h' with ⟨-, m1, m2⟩ | ⟨e, -⟩
    · constructor
      · rintro ⟨e1, e2⟩
        refine ⟨by omega, fun j hj => ?_⟩
        have q := e2 j (by omega)
        rw [yvv (k2 j hj).1, yvv (m2 j (by omega)).1] at q
        exact lo8_inj (hf j hj).1 (k2 j hj).2 (hg j (by omega)).1 (m2 j (by omega)).2 q
      · rintro ⟨rfl, e2⟩
        refine ⟨by omega, fun j hj => ?_⟩
        rw [yvv (k2 j (by omega)).1, yvv (m2 j (by omega)).1, e2 j (by omega)]
    · exact absurd e (by decide)
  · rcases h' with ⟨e, -⟩ | ⟨-, m1, m2, -⟩
    · exact absurd e (by decide)
    · constructor
      · rintro ⟨e1, e2⟩
        refine ⟨by omega, fun j hj => ?_⟩
        have q1 := e2 (2 * j) (by omega)
        have q2 := e2 (2 * j + 1) (by omega)
        rw [yvv (k2 j hj).1, yvv (m2 j (by omega)).1] at q1
        rw [yvv (k2 j hj).2, yvv (m2 j (by omega)).2] at q2
        rw [← pair_says (hf j hj).1 (hf j hj).2, ← pair_says (hg j (by omega)).1 (hg j (by omega)).2, q1, q2]
      · rintro ⟨rfl, e2⟩
        refine ⟨by omega, fun i hi => ?_⟩
        rcases Nat.mod_two_eq_zero_or_one i with e | e
        · obtain ⟨j, rfl⟩ : ∃ j, i = 2 * j := ⟨i / 2, by omega⟩
          rw [yvv (k2 j (by omega)).1, yvv (m2 j (by omega)).1, e2 j (by omega)]
        · obtain ⟨j, rfl⟩ : ∃ j, i = 2 * j + 1 := ⟨i / 2, by omega⟩
          rw [yvv (k2 j (by omega)).2, yvv (m2 j (by omega)).2, e2 j (by omega)]
/-- two codings differ: so do the texts -/
theorem Cod.dif {cd cd' : Int32} {n k : Nat} {f g : Nat → Int32} {V V' : Cell} (h : Cod cd n f V) (h' : Cod cd' k g V') (hne : ¬ cd = cd') : ¬ SameT n f k g := by
  rintro ⟨rfl, e⟩
  rcases h with ⟨rfl, -, k2⟩ | ⟨rfl, -, -, j, hj, hw⟩
  · rcases h' with ⟨rfl, -⟩ | ⟨-, -, -, j, hj, hw⟩
    · exact hne rfl
    · exact (k2 j hj).2 (by rw [e j hj]; exact hw)
  · rcases h' with ⟨-, -, m2⟩ | ⟨rfl, -⟩
    · exact (m2 j hj).2 (by rw [← e j hj]; exact hw)
    · exact hne rfl
/-- an object of exactly C is an instance of C -/
theorem cinst {p : Program} {l : Launch} {e : Env} {R : Room} {s : State} {m : MethodId} {args : Array Value} {below : List Frame} {meth : Method} {c : Code} {T : State} {locs : List Loc} {cells slots : Nat} (X : Stand p l e R s m args below meth c T locs cells slots) (hexec : p.tables.exec = Jvm.exec) {own C : String} {index : Nat} (hown : s.vm.findClass own = some m.cls) (hlink : (Cond.classLink own index C).before args s = true) {a : Addr} (hE : Exact C a T)
    {g : JFrame} (hg : g.method = m) {rest : List Value} (hstack : g.stack = .ref a :: rest) (hdg : decode c.code g.pc = .ok (.instanceof index, 3)) :
    ∃ T', Stand p l e R s m args below meth c T' locs cells slots ∧ T'.heap = T.heap ∧ ∀ target, Steps p.tables e below (T'.setTop { g with pc := g.pc + 3, stack := .int 1 :: rest }) target → Steps p.tables e below (T.setTop g) target := by
  obtain ⟨cB, h1, D, h2, h3, h4⟩ := hE
  have h1' : s.vm.findClass C = some cB := by rw [← X.warmed.alike.findClass]; exact h1
  obtain ⟨vm', X', st⟩ := X.instanceofYes hexec hown hlink h2 h4 h1' (by rw [h3]; exact Jvm.Free.SB.assignable_self _ _) hg hstack hdg
  exact ⟨_, X', rfl, st⟩
theorem cself {p : Program} {l : Launch} {e : Env} {R : Room} {s : State} {m : MethodId} {args : Array Value} {below : List Frame} {meth : Method} {c : Code} {T : State} {locs : List Loc} {cells slots : Nat} (X : Stand p l e R s m args below meth c T locs cells slots) (hexec : p.tables.exec = Jvm.exec) {own C : String} {index : Nat} (hown : s.vm.findClass own = some m.cls) (hlink : (Cond.classLink own index C).before args s = true) {a : Addr} (hE : Exact C a T)
    {g : JFrame} (hg : g.method = m) {rest : List Value} (hstack : g.stack = .ref a :: rest) (hdg : decode c.code g.pc = .ok (.checkcast index, 3)) :
    ∃ T', Stand p l e R s m args below meth c T' locs cells slots ∧ T'.heap = T.heap ∧ ∀ target, Steps p.tables e below (T'.setTop { g with pc := g.pc + 3, stack := .ref a :: rest }) target → Steps p.tables e below (T.setTop g) target := by
  obtain ⟨cB, h1, D, h2, h3, h4⟩ := hE
  have h1' : s.vm.findClass C = some cB := by rw [← X.warmed.alike.findClass]; exact h1
  obtain ⟨vm', X', st⟩ := X.checkcastYes hexec hown hlink h2 h4 h1' (by rw [h3]; exact Jvm.Free.SB.assignable_self _ _) hg hstack hdg
  exact ⟨_, X', rfl, fun t h => st t (by rw [← hstack] at h; exact h)⟩
namespace SEq
def yN : MethodName := ⟨"java/lang/String", "equals", "(Ljava/lang/Object;)Z"⟩
abbrev yB : ByteArray := jdk_42_method_66_code
theorem d0 : decode yB 0 = .ok (.aload_n 0, 1) := by decide +kernel
theorem d1 : decode yB 1 = .ok (.aload_n 1, 1) := by decide +kernel
theorem d2 : decode yB 2 = .ok (.if_acmp (.ne) 5, 3) := by decide +kernel
theorem d5 : decode yB 5 = .ok (.iconst 1, 1) := by decide +kernel
theorem d6 : decode yB 6 = .ok (.ireturn, 1) := by decide +kernel
theorem d7 : decode yB 7 = .ok (.aload_n 1, 1) := by decide +kernel
theorem d8 : decode yB 8 = .ok (.instanceof 10, 3) := by decide +kernel
theorem d11 : decode yB 11 = .ok (.ifCond (.eq) 43, 3) := by decide +kernel
theorem d14 : decode yB 14 = .ok (.aload_n 1, 1) := by decide +kernel
theorem d15 : decode yB 15 = .ok (.checkcast 10, 3) := by decide +kernel
theorem d18 : decode yB 18 = .ok (.astore_n 2, 1) := by decide +kernel
theorem d19 : decode yB 19 = .ok (.getstatic 38, 3) := by decide +kernel
theorem d22 : decode yB 22 = .ok (.ifCond (.eq) 14, 3) := by decide +kernel
theorem d25 : decode yB 25 = .ok (.aload_n 0, 1) := by decide +kernel
theorem d26 : decode yB 26 = .ok (.getfield 15, 3) := by decide +kernel
theorem d29 : decode yB 29 = .ok (.aload_n 2, 1) := by decide +kernel
theorem d30 : decode yB 30 = .ok (.getfield 15, 3) := by decide +kernel
theorem d33 : decode yB 33 = .ok (.if_icmp (.ne) 21, 3) := by decide +kernel
theorem d36 : decode yB 36 = .ok (.aload_n 0, 1) := by decide +kernel
theorem d37 : decode yB 37 = .ok (.getfield 9, 3) := by decide +kernel
theorem d40 : decode yB 40 = .ok (.aload_n 2, 1) := by decide +kernel
theorem d41 : decode yB 41 = .ok (.getfield 9, 3) := by decide +kernel
theorem d44 : decode yB 44 = .ok (.invokestatic 541, 3) := by decide +kernel
theorem d47 : decode yB 47 = .ok (.ifCond (.eq) 7, 3) := by decide +kernel
theorem d50 : decode yB 50 = .ok (.iconst 1, 1) := by decide +kernel
theorem d51 : decode yB 51 = .ok (.goto 4, 3) := by decide +kernel
theorem d54 : decode yB 54 = .ok (.iconst 0, 1) := by decide +kernel
theorem d55 : decode yB 55 = .ok (.ireturn, 1) := by decide +kernel
def site : List Cond := [.classLink "java/lang/String" 10 "java/lang/String", .fieldLink "java/lang/String" 38 "java/lang/String" "COMPACT_STRINGS" "Z", .fieldLink "java/lang/String" 15 "java/lang/String" "coder" "B", .fieldLink "java/lang/String" 9 "java/lang/String" "value" "[B", LEq.tab] ++ staticW "java/lang/String" 541 LEq.yN
def tab : Cond := tabOf yN yB 3 (some .boolean) site
def P (x t : Addr) (V : Cell) (cd : Int32) (n : Nat) (f : Nat → Int32) (y t' : Addr) (V' : Cell) (cd' : Int32) (k : Nat) (g : Nat → Int32) (z : Int32) (args : Array Value) (s : State) : Prop := args = #[.ref x, .ref y] ∧ Txt x t V cd n f s ∧ Txt y t' V' cd' k g s ∧ StaticIs s "java/lang/String" "COMPACT_STRINGS" "Z" (.int z) ∧ ¬ z = 0
/-- equals(Object) of two Strings: whether the texts are the same -/
theorem law (l : Launch) (x t : Addr) (V : Cell) (cd : Int32) (n : Nat) (f : Nat → Int32) (y t' : Addr) (V' : Cell) (cd' : Int32) (k : Nat) (g : Nat → Int32) (z : Int32) : Law l yN 2 1 1 14 yB 3 (some .boolean) site (P x t V cd n f y t' V' cd' k g z) (Says01 (SameT n f k g)) [] 0 0 := by
  refine Law.of_walk (plainFor_of_name (by decide +kernel)) (by decide +kernel) (by decide +kernel) (by decide) (fun _ _ h => by rw [h.1]; rfl) (fun _ U U' hal hh h => ⟨h.1, h.2.1.mv hal hh, h.2.2.1.mv hal hh, h.2.2.2.1.there hal hh, h.2.2.2.2⟩) (fun r U U' V V' h1 hal h2 h => Says01.mv r U U' V V' h1 hal h2 h) ?_
  intro p e s m args below meth c s₁ X0 hexec hbytes hml hret hlk hnm hown hh0 W hP
  obtain ⟨rfl, hx, hy, s1, hz⟩ := hP
  have c1 : Steps p.tables e below (s₁.setTop (entryFrame m #[.ref x, .ref y] 3)) (s₁.setTop (mkF m 2 #[.val (.ref x), .val (.ref y), .unset] [.ref y, .ref x])) := Steps.trans (entry rfl) (by
    show Steps p.tables e below (s₁.setTop (mkF m 0 #[.val (.ref x), .val (.ref y), .unset] [])) _
    refine XS.aloadN X0.here hexec rfl (hb hbytes d0) rfl rfl ?_
    refine XS.aloadN X0.here hexec rfl (hb hbytes d1) rfl rfl ?_
    exact Steps.refl _)
  by_cases hxy : x = y
  · have c2 : Steps p.tables e below (s₁.setTop (entryFrame m #[.ref x, .ref y] 3)) (s₁.setTop (mkF m 6 #[.val (.ref x), .val (.ref y), .unset] [.int 1])) := c1.trans (by
      refine acmpNo X0.here hexec rfl (hb hbytes d2) rfl rfl rfl (by simp [acmp, hxy]) ?_
      refine iconstV X0.here hexec rfl 1 (hb hbytes d5) (by decide) ?_
      exact Steps.refl _)
    subst hxy
    have ec : cd = cd' := by
      obtain ⟨D, fd, a1, a2, a3⟩ := hx.2.2.1
      obtain ⟨D', fd', b1, b2, b3⟩ := hy.2.2.1
      cases a1.symm.trans b1
      obtain ⟨q1, q2, q3, q4⟩ := a2.1
      obtain ⟨r1, r2, r3, r4⟩ := b2.1
      cases q4.symm.trans r4
      cases a3.symm.trans b3; rfl
    have et : t = t' := by
      obtain ⟨D, fd, a1, a2, a3⟩ := hx.2.1
      obtain ⟨D', fd', b1, b2, b3⟩ := hy.2.1
      cases a1.symm.trans b1
      obtain ⟨q1, q2, q3, q4⟩ := a2.1
      obtain ⟨r1, r2, r3, r4⟩ := b2.1
      cases q4.symm.trans r4
      cases a3.symm.trans b3; rfl
    subst ec et
    have ev : V = V' := by cases hx.2.2.2.1.1.symm.trans hy.2.2.2.1.1; rfl
    subst ev
    have hs : SameT n f k g := (Cod.eqv hx.2.2.2.2.1 hy.2.2.2.2.1 hx.2.2.2.2.2 hy.2.2.2.2.2).mp ⟨rfl, fun _ _ => rfl⟩
    exact ⟨s₁, some (.int 1), _, _, _, X0, rfl, rfl, rfl, (fun h => by cases h), ⟨1, rfl, hh0, Or.inl ⟨rfl, hs⟩⟩, fun fs hl => c2.trans (X0.ireturnOut hexec hret rfl (Or.inr (Or.inl rfl)) (hb hbytes d6) hl)⟩
  · have c2 : Steps p.tables e below (s₁.setTop (entryFrame m #[.ref x, .ref y] 3)) (s₁.setTop (mkF m 8 #[.val (.ref x), .val (.ref y), .unset] [.ref y])) := c1.trans (by
      refine acmpYes X0.here hexec rfl (pc0 := 2) rfl (hb hbytes d2) rfl rfl rfl (by simp [acmp, hxy]) (by decide) rfl ?_
      refine XS.aloadN X0.here hexec rfl (hb hbytes d7) rfl rfl ?_
      exact Steps.refl _)
    obtain ⟨T3, X3, q3, st3⟩ := cinst X0 hexec hown (wk W (.classLink "java/lang/String" 10 "java/lang/String")) (hy.mv X0.warmed.alike hh0).1 (g := (mkF m 8 #[.val (.ref x), .val (.ref y), .unset] [.ref y])) rfl (rest := []) rfl (hb hbytes d8)
    have hh3 := q3.trans hh0
    have c4 : Steps p.tables e below (s₁.setTop (entryFrame m #[.ref x, .ref y] 3)) (T3.setTop (mkF m 15 #[.val (.ref x), .val (.ref y), .unset] [.ref y])) := (c2.trans (st3 _ (Steps.refl _))).trans (by
      refine XS.ifNo X3.here hexec rfl (hb hbytes d11) rfl (i0_eq_f (by decide)) ?_
      refine XS.aloadN X3.here hexec rfl (hb hbytes d14) rfl rfl ?_
      exact Steps.refl _)
    obtain ⟨T5, X5, q5, st5⟩ := cself X3 hexec hown (wk W (.classLink "java/lang/String" 10 "java/lang/String")) (hy.mv X3.warmed.alike hh3).1 (g := (mkF m 15 #[.val (.ref x), .val (.ref y), .unset] [.ref y])) rfl (rest := []) rfl (hb hbytes d15)
    have hh5 := q5.trans hh3
    have c6 : Steps p.tables e below (s₁.setTop (entryFrame m #[.ref x, .ref y] 3)) (T5.setTop (mkF m 19 #[.val (.ref x), .val (.ref y), .val (.ref y)] [])) := (c4.trans (st5 _ (Steps.refl _))).trans (by
      refine XS.astoreN X5.here hexec rfl (hb hbytes d18) rfl rfl rfl ?_
      exact Steps.refl _)
    obtain ⟨T7, X7, q7, st7⟩ := X5.sget hexec hown (wk W (.fieldLink "java/lang/String" 38 "java/lang/String" "COMPACT_STRINGS" "Z")) s1 (fun _ _ h => by rw [hh5]; exact h) (g := (mkF m 19 #[.val (.ref x), .val (.ref y), .val (.ref y)] [])) rfl (hb hbytes d19)
    have hh7 := q7.trans hh5
    have c8 : Steps p.tables e below (s₁.setTop (entryFrame m #[.ref x, .ref y] 3)) (T7.setTop (mkF m 26 #[.val (.ref x), .val (.ref y), .val (.ref y)] [.ref x])) := (c6.trans (st7 _ (Steps.refl _))).trans (by
      refine XS.ifNo X7.here hexec rfl (hb hbytes d22) rfl (i0_eq_f hz) ?_
      refine XS.aloadN X7.here hexec rfl (hb hbytes d25) rfl rfl ?_
      exact Steps.refl _)
    obtain ⟨T9, X9, q9, st9⟩ := X7.hget hexec hown (wk W (.fieldLink "java/lang/String" 15 "java/lang/String" "coder" "B")) (hx.mv X7.warmed.alike hh7).2.2.1 (g := (mkF m 26 #[.val (.ref x), .val (.ref y), .val (.ref y)] [.ref x])) rfl (rest := []) rfl (hb hbytes d26)
    have hh9 := q9.trans hh7
    have c10 : Steps p.tables e below (s₁.setTop (entryFrame m #[.ref x, .ref y] 3)) (T9.setTop (mkF m 30 #[.val (.ref x), .val (.ref y), .val (.ref y)] [.ref y, .int cd])) := (c8.trans (st9 _ (Steps.refl _))).trans (by
      refine XS.aloadN X9.here hexec rfl (hb hbytes d29) rfl rfl ?_
      exact Steps.refl _)
    obtain ⟨T11, X11, q11, st11⟩ := X9.hget hexec hown (wk W (.fieldLink "java/lang/String" 15 "java/lang/String" "coder" "B")) (hy.mv X9.warmed.alike hh9).2.2.1 (g := (mkF m 30 #[.val (.ref x), .val (.ref y), .val (.ref y)] [.ref y, .int cd])) rfl (rest := [.int cd]) rfl (hb hbytes d30)
    have hh11 := q11.trans hh9
    have c12 : Steps p.tables e below (s₁.setTop (entryFrame m #[.ref x, .ref y] 3)) (T11.setTop (mkF m 33 #[.val (.ref x), .val (.ref y), .val (.ref y)] [.int cd', .int cd])) := c10.trans (st11 _ (Steps.refl _))
    by_cases hcd : cd = cd'
    · subst hcd
      have c13 : Steps p.tables e below (s₁.setTop (entryFrame m #[.ref x, .ref y] 3)) (T11.setTop (mkF m 37 #[.val (.ref x), .val (.ref y), .val (.ref y)] [.ref x])) := c12.trans (by
        refine XS.icmpNo X11.here hexec rfl (hb hbytes d33) rfl (ii_ne_f rfl) ?_
        refine XS.aloadN X11.here hexec rfl (hb hbytes d36) rfl rfl ?_
        exact Steps.refl _)
      obtain ⟨T14, X14, q14, st14⟩ := X11.hget hexec hown (wk W (.fieldLink "java/lang/String" 9 "java/lang/String" "value" "[B")) (hx.mv X11.warmed.alike hh11).2.1 (g := (mkF m 37 #[.val (.ref x), .val (.ref y), .val (.ref y)] [.ref x])) rfl (rest := []) rfl (hb hbytes d37)
      have hh14 := q14.trans hh11
      have c15 : Steps p.tables e below (s₁.setTop (entryFrame m #[.ref x, .ref y] 3)) (T14.setTop (mkF m 41 #[.val (.ref x), .val (.ref y), .val (.ref y)] [.ref y, .ref t])) := (c13.trans (st14 _ (Steps.refl _))).trans (by
        refine XS.aloadN X14.here hexec rfl (hb hbytes d40) rfl rfl ?_
        exact Steps.refl _)
      obtain ⟨T16, X16, q16, st16⟩ := X14.hget hexec hown (wk W (.fieldLink "java/lang/String" 9 "java/lang/String" "value" "[B")) (hy.mv X14.warmed.alike hh14).2.1 (g := (mkF m 41 #[.val (.ref x), .val (.ref y), .val (.ref y)] [.ref y, .ref t])) rfl (rest := [.ref t]) rfl (hb hbytes d41)
      have hh16 := q16.trans hh14
      have c17 : Steps p.tables e below (s₁.setTop (entryFrame m #[.ref x, .ref y] 3)) (T16.setTop (mkF m 44 #[.val (.ref x), .val (.ref y), .val (.ref y)] [.ref t', .ref t])) := c15.trans (st16 _ (Steps.refl _))
      obtain ⟨v18, T18, X18, E18, g18⟩ := X16.callS hexec (LEq.law l t V t' V') hown (wks W (staticW "java/lang/String" 541 LEq.yN)) (wk W LEq.tab) (W := 0) (Nat.le_of_ble_eq_true rfl) (Nat.le_of_ble_eq_true rfl) (Nat.le_refl _) (Nat.le_refl _) (g := (mkF m 44 #[.val (.ref x), .val (.ref y), .val (.ref y)] [.ref t', .ref t])) rfl (by rw [hml]; rfl) c17 (argsL := [.ref t, .ref t']) (rest := []) rfl rfl (by show 2 * 0 + 0 ≤ _; decide) (hb hbytes d44) (⟨rfl, hx.2.2.2.1.mv X16.warmed.alike hh16, hx.2.2.2.2.1.ty, hy.2.2.2.1.mv X16.warmed.alike hh16, hy.2.2.2.2.1.ty⟩)
      obtain ⟨v, rfl, q18, hv⟩ := E18
      have iff := Cod.eqv hx.2.2.2.2.1 hy.2.2.2.2.1 hx.2.2.2.2.2 hy.2.2.2.2.2
      rcases hv with ⟨rfl, he⟩ | ⟨rfl, he⟩
      · have c19 : Steps p.tables e below (s₁.setTop (entryFrame m #[.ref x, .ref y] 3)) (T18.setTop (mkF m 55 #[.val (.ref x), .val (.ref y), .val (.ref y)] [.int 1])) := Steps.trans g18 (by
          refine XS.ifNo X18.here hexec rfl (hb hbytes d47) rfl (i0_eq_f (by decide)) ?_
          refine iconstV X18.here hexec rfl 1 (hb hbytes d50) (by decide) ?_
          refine XS.goto X18.here hexec rfl (pc0 := 51) rfl (hb hbytes d51) (by decide) rfl ?_
          exact Steps.refl _)
        exact ⟨T18, some (.int 1), _, _, _, X18, rfl, rfl, rfl, (fun h => by cases h), ⟨1, rfl, q18.trans hh16, Or.inl ⟨rfl, iff.mp he⟩⟩, fun fs hl => c19.trans (X18.ireturnOut hexec hret rfl (Or.inr (Or.inl rfl)) (hb hbytes d55) hl)⟩
      · have c19 : Steps p.tables e below (s₁.setTop (entryFrame m #[.ref x, .ref y] 3)) (T18.setTop (mkF m 55 #[.val (.ref x), .val (.ref y), .val (.ref y)] [.int 0])) := Steps.trans g18 (by
          refine XS.ifYes X18.here hexec rfl (pc0 := 47) rfl (hb hbytes d47) rfl (i0_eq_t rfl) (by decide) rfl ?_
          refine iconstV X18.here hexec rfl 0 (hb hbytes d54) (by decide) ?_
          exact Steps.refl _)
        exact ⟨T18, some (.int 0), _, _, _, X18, rfl, rfl, rfl, (fun h => by cases h), ⟨0, rfl, q18.trans hh16, Or.inr ⟨rfl, fun q => he (iff.mpr q)⟩⟩, fun fs hl => c19.trans (X18.ireturnOut hexec hret rfl (Or.inr (Or.inl rfl)) (hb hbytes d55) hl)⟩
    · have c13 : Steps p.tables e below (s₁.setTop (entryFrame m #[.ref x, .ref y] 3)) (T11.setTop (mkF m 55 #[.val (.ref x), .val (.ref y), .val (.ref y)] [.int 0])) := c12.trans (by
        refine XS.icmpYes X11.here hexec rfl (pc0 := 33) rfl (hb hbytes d33) rfl (ii_ne_t hcd) (by decide) rfl ?_
        refine iconstV X11.here hexec rfl 0 (hb hbytes d54) (by decide) ?_
        exact Steps.refl _)
      exact ⟨T11, some (.int 0), _, _, _, X11, rfl, rfl, rfl, (fun h => by cases h), ⟨0, rfl, hh11, Or.inr ⟨rfl, Cod.dif hx.2.2.2.2.1 hy.2.2.2.2.1 hcd⟩⟩, fun fs hl => c13.trans (X11.ireturnOut hexec hret rfl (Or.inr (Or.inl rfl)) (hb hbytes d55) hl)⟩
theorem pays {l : Launch} {R : Room} {p : Program} {e : Env} {below : List Frame} {s : State} {sargs : Array Value} {len W : Nat} (x t : Addr) (V : Cell) (cd : Int32) (n : Nat) (f : Nat → Int32) (y t' : Addr) (V' : Cell) (cd' : Int32) (k : Nat) (g : Nat → Int32) (z : Int32) (htab : tab.before sargs s = true) (hfr : 2 ≤ R.frames) (hlo : W + 28 ≤ R.locals) :
    Back l R p e below s sargs yN len W (fun A₁ a₁ => A₁.cells + 0 ≤ R.cells ∧ A₁.slots + 0 ≤ R.slots ∧ P x t V cd n f y t' V' cd' k g z a₁ A₁.U) (fun A₁ _ v₁ B₁ => Says01 (SameT n f k g) v₁ A₁.U B₁.U ∧ B₁.locs = A₁.locs ++ [] ∧ B₁.cells = A₁.cells + 0 ∧ B₁.slots = A₁.slots + 0) :=
  (law l x t V cd n f y t' V' cd' k g z).pays htab hfr (by omega)
end SEq
end StrChars
namespace StrChars.Road
open Jvm Sem ClassFile Op Lib Jvm.Stand Jvm.Free Jvm.Free.XT
open Jvm.Lib.Cold (StaticIs)
/-- the words of String.equals(Object) -/
abbrev wordsEq : List Jvm.Cond := [.code SEq.yN SEq.yB 3 (some .boolean), .initialized ST, .classLink ST 10 ST, .fieldLink ST 38 ST "COMPACT_STRINGS" "Z", .fieldLink ST 15 ST "coder" "B", .fieldLink ST 9 ST "value" "[B", .methodLink ST 541 LEq.yN, .static LEq.yN, .code LEq.yN LEq.yB 3 (some .boolean), .initialized "java/lang/StringLatin1"]
theorem tabEq_of {a : Array Value} {s : State} (h : ∀ w ∈ wordsEq, w.before a s = true) : SEq.tab.before a s = true := by
  have hl : LEq.tab.before a s = true := unparts (wk h (.code LEq.yN LEq.yB 3 (some .boolean))) (wks h (.initialized LEq.yN.cls :: LEq.site))
  have q := consq hl h
  exact unparts (wk q (.code SEq.yN SEq.yB 3 (some .boolean))) (wks q (.initialized SEq.yN.cls :: SEq.site))
theorem movedEq {Z s : State} {a0 args : Array Value} (hZ : Z.Warmed39 s.vm) (hw : ∀ d ∈ wordsEq, d.before a0 Z = true) : ∀ d ∈ wordsEq, d.before args s = true := fun d hd => by
  have t : ∀ d ∈ wordsEq, (d.onTables && d.keepsFace) = true := by decide +kernel
  exact RoadKit.mv hZ (hw d hd) (t d hd)
/-- the road's facts of a String, as the laws ask it -/
theorem txt_of {Z U : State} {a0 : Array Value} {kI : Nat} (wi : (Jvm.Cond.instantiable ST kI).before a0 Z = true) (al : Z.vm.Alike U.vm) {x t : Addr} {kb : ClassId} {cs : List Int32} {cd N2 : Int32} {vs : List Value} (E : RoadKit.Exa Z U.heap x ST) (V : RoadKit.Fld Z U.heap x ST "value" "[B" (.ref t)) (C : RoadKit.Fld Z U.heap x ST "coder" "B" (.int cd)) (K : RoadKit.Arv Z U.heap t kb .byte N2 vs (.int 0)) (hc : CodA cs cd N2 vs) (hb : ∀ c ∈ cs, ¬ c < 0 ∧ ¬ (65535 : Int32) < c) (l2 : cs.length ≤ 4000) :
    ∃ A, Txt x t A cd cs.length (fun j => cs.getD j 0) U := by
  obtain ⟨A, K1, K2, K3, K4, K5, K6⟩ := K
  have hcod := hc.cod (by omega) K3 K5
  obtain ⟨D, fV, fC, hB, F1, F2, g1, g2, -, -⟩ := strObj wi al E V C
  exact ⟨A, ⟨_, hB.2.2.1, D, hB.1, rfl, by cases q : D.vm <;> first | rfl | exact absurd q (hB.2.1.2 _)⟩, Has.of hB F1 g1, Has.of hB F2 g2, ⟨K1.1, State.isArrayOf_alike al K1.2.1, K1.2.2, by rcases hcod with ⟨-, q, -⟩ | ⟨-, q, -⟩ <;> omega⟩, hcod, fun j hj => by
    have e : cs.getD j 0 = cs[j] := by simp [List.getD_eq_getElem?_getD, hj]
    show ¬ cs.getD j 0 < 0 ∧ ¬ 65535 < cs.getD j 0
    rw [e]; exact hb _ (List.getElem_mem _)⟩
theorem same_list (cs ds : List Int32) : SameT cs.length (fun j => cs.getD j 0) ds.length (fun j => ds.getD j 0) ↔ cs = ds := by
  constructor
  · rintro ⟨e, q⟩
    refine List.ext_getElem e fun j h1 h2 => ?_
    have := q j h1
    simpa [List.getD_eq_getElem?_getD, h1, h2] using this
  · rintro rfl
    exact ⟨rfl, fun _ _ => rfl⟩
/-- **equals(Object) OF TWO SUCH STRINGS**: 1 just where the chars are the same -/
theorem eqW {p : Program} {l : Launch} {e : Env} {R : Room} {s : State} {args : Array Value} {below : List Frame} {len W : Nat} {Z : State} {a0 : Array Value} {h : Heap} (hZ : Z.Warmed39 s.vm) (hw : ∀ d ∈ wordsEq, d.before a0 Z = true) {kI : Nat} (wi : (Jvm.Cond.instantiable ST kI).before a0 Z = true)
    {x t : Addr} {kb : ClassId} {cs : List Int32} {cd N2 : Int32} {vs : List Value} (E : RoadKit.Exa Z h x ST) (V : RoadKit.Fld Z h x ST "value" "[B" (.ref t)) (C : RoadKit.Fld Z h x ST "coder" "B" (.int cd)) (K : RoadKit.Arv Z h t kb .byte N2 vs (.int 0)) (hc : CodA cs cd N2 vs) (hb : ∀ c ∈ cs, ¬ c < 0 ∧ ¬ (65535 : Int32) < c) (l2 : cs.length ≤ 4000)
    {y t' : Addr} {kb' : ClassId} {ds : List Int32} {cd' N2' : Int32} {vs' : List Value} (E' : RoadKit.Exa Z h y ST) (V' : RoadKit.Fld Z h y ST "value" "[B" (.ref t')) (C' : RoadKit.Fld Z h y ST "coder" "B" (.int cd')) (K' : RoadKit.Arv Z h t' kb' .byte N2' vs' (.int 0)) (hc' : CodA ds cd' N2' vs') (hb' : ∀ c ∈ ds, ¬ c < 0 ∧ ¬ (65535 : Int32) < c) (l2' : ds.length ≤ 4000)
    {z : Int32} (S : RoadKit.Sta Z h ST "COMPACT_STRINGS" "Z" (.int z)) (hz : ¬ z = 0) (hfr : 2 ≤ R.frames) (hlo : W + 28 ≤ R.locals) :
    Back l R p e below s args (⟨"java/lang/String", "equals", "(Ljava/lang/Object;)Z"⟩ : MethodName) len W (fun P a => a = #[.ref x, .ref y] ∧ P.U.heap = h ∧ P.cells + 0 ≤ R.cells ∧ P.slots + 0 ≤ R.slots)
      (fun P _ v B => ∃ L, (((v = some (.int 1) ∧ cs = ds) ∨ (v = some (.int 0) ∧ ¬ cs = ds)) ∧ L = [] ∧ B.U.heap = h) ∧ B.locs = P.locs ++ L ∧ B.cells = P.cells + 0 ∧ B.slots = P.slots + 0) := by
  intro m meth c P g ig mk a X hg hsize hdg hW hn hp'
  obtain ⟨rfl, rfl, r1, r2⟩ := hp'
  have al : Z.vm.Alike P.U.vm := hZ.alike.trans X.warmed.alike
  obtain ⟨A, hx⟩ := txt_of wi al E V C K hc hb l2
  obtain ⟨A', hy⟩ := txt_of wi al E' V' C' K' hc' hb' l2'
  obtain ⟨v, B, X', ⟨⟨w, hv, hh, hq⟩, hl, hk, hs⟩, st⟩ := SEq.pays x t A cd cs.length (fun j => cs.getD j 0) y t' A' cd' ds.length (fun j => ds.getD j 0) z (tabEq_of (movedEq hZ hw)) hfr hlo m meth c P g ig mk _ X hg hsize hdg hW hn ⟨r1, r2, rfl, hx, hy, sta_is al S, hz⟩
  refine ⟨v, B, X', ⟨[], ⟨?_, rfl, hh⟩, hl, hk, hs⟩, st⟩
  rcases hq with ⟨rfl, q⟩ | ⟨rfl, q⟩
  · exact Or.inl ⟨hv, (same_list cs ds).mp q⟩
  · exact Or.inr ⟨hv, fun e => q ((same_list cs ds).mpr e)⟩
end StrChars.Road
namespace StrChars.Road
open Jvm Sem ClassFile Op Lib Jvm.Stand Jvm.Free Jvm.Free.XT
open Jvm.Lib.Cold (StaticIs)
/-- what backV says of its String, as the contracts of this text ask it: cs's low bytes, coder 0 -/
theorem codOf {cs : List Int32} {n : Nat} (hn : cs.length = n) (hb : ∀ c ∈ cs, ¬ 255 < c) : CodA cs 0 (Int32.ofNat n) ((cs.map lo8).map Value.int) := Or.inl ⟨rfl, by rw [hn], by simp [List.map_map, Function.comp_def], hb⟩
end StrChars.Road
end Jvm.Pilot.@@N@@

namespace Jvm.Pilot.@@N@@
open Jvm Jvm.ClassFile Sem Op Lib Jvm.Free Jvm.Stand Jvm.LawKit Jvm.RoadKit Bundle Jvm.Pilot.@@N@@.Jvm.D
/-- what is left of a walk: from the frame f of T the run comes to its end, where Qe holds -/
def own_Rest (p : Program) (e : Env) (below : List Frame) (Qe : Outcome → State → Prop) (T : State) (f : JFrame) : Prop :=
  ∃ s₂ o, Steps p.tables e below (T.setTop f) s₂ ∧ s₂.status = .running ∧ Ended s₂ below o ∧ Qe o s₂
abbrev own_S (p : Program) (e : Env) (below : List Frame) (T : State) (f : JFrame) (t : State) : Prop := Steps p.tables e below (T.setTop f) t
theorem own_by {p : Program} {e : Env} {below : List Frame} {Qe : Outcome → State → Prop} {T T' : State} {f f' : JFrame}
    (h : ∀ t, Steps p.tables e below (T'.setTop f') t → Steps p.tables e below (T.setTop f) t) (k : own_Rest p e below Qe T' f') : own_Rest p e below Qe T f := by
  obtain ⟨s₂, o, h1, h2⟩ := k
  exact ⟨s₂, o, h _ h1, h2⟩
theorem own_at {p : Program} {e : Env} {below : List Frame} {Qe : Outcome → State → Prop} {T : State} {f f' : JFrame}
    (h : ∀ {t}, Steps p.tables e below (T.setTop f') t → Steps p.tables e below (T.setTop f) t) (k : own_Rest p e below Qe T f') :
    ∃ s₂ o, Steps p.tables e below (T.setTop f) s₂ ∧ s₂.status = .running ∧ Ended s₂ below o ∧ Qe o s₂ := by
  obtain ⟨s₂, o, h1, h2⟩ := k
  exact ⟨s₂, o, h h1, h2⟩
theorem own_cat1 {v : Value} (h : v.isRef = true) : v.category = 1 := by cases v <;> simp_all [Value.isRef, Value.category]
theorem own_catr (a : Addr) : (Value.ref a).category = 1 := rfl
theorem own_catn : Value.null.category = 1 := rfl
theorem own_c255 (x : Int32) : ¬ (x &&& (255 : Int32)).toUInt32.toUInt16.toUInt32.toInt32 < 0 ∧ ¬ (255 : Int32) < (x &&& (255 : Int32)).toUInt32.toUInt16.toUInt32.toInt32 := by
  have h1 := c_mask x 255 8 (by decide) (by decide)
  have h2 := c_i2c (x &&& (255 : Int32))
  simp only [Int32.lt_iff_toInt_lt, Int32.reduceToInt]
  omega
theorem own_narc {z : Int32} (h : ¬ z < 0 ∧ ¬ (255 : Int32) < z) : nar .char z = z := by
  have h2 := c_i2c z
  obtain ⟨h3, h4⟩ := h
  simp only [Int32.lt_iff_toInt_lt, Int32.reduceToInt] at h3 h4
  have e : (nar .char z).toInt = z.toInt := by
    show z.toUInt32.toUInt16.toUInt32.toInt32.toInt = z.toInt
    omega
  exact Int32.toInt_inj.mp e
theorem own_nrb {z : Int32} (h : z = 0 ∨ z = 1) : narrow .boolean (.int z) = .int z := by rcases h with rfl | rfl <;> rfl
theorem own_ftb {z : Int32} (h : z = 0 ∨ z = 1) : fits .boolean (.int z) = true := by rcases h with rfl | rfl <;> rfl
theorem own_eqi {t : Term} {n : Int32} {args : Array Value} {Z : State} (h : (Jvm.Cond.eq t (.int n)).value args Z none Z [] = some true) : t.eval args Z none [] Z = some (.int n) := by
  obtain ⟨x, y, h1, h2, h3, -⟩ := cmp_v (Or.inl h)
  have e : y = .int n := (Option.some.inj h2).symm
  subst e
  cases x <;> simp [Kin, Value.isRef] at h3
  rename_i z
  have : z = n := by simpa [Cond.value, h1, Term.eval] using h
  rw [h1, this]
theorem own_fld {t : Term} {n : Int32} {args : Array Value} {Z : State} {a : Addr} {C f d : String} (ev : t.eval args Z none [] Z = some (.ref a)) (h : (Jvm.Cond.eq (.field t C f d) (.int n)).value args Z none Z [] = some true) : Fld Z Z.heap a C f d (.int n) :=
  Fld.start ((fld_at ev).symm.trans (own_eqi h))
theorem own_nb {z : Int32} (h : z = 0 ∨ z = 1) : nar .boolean z = z := by rcases h with rfl | rfl <;> rfl
abbrev own_ARUUUU (x0 : Addr) : Array Slot := #[.val (.ref x0), .unset, .unset, .unset, .unset]
abbrev own_ARRUUU (x0 : Addr) (x1 : Addr) : Array Slot := #[.val (.ref x0), .val (.ref x1), .unset, .unset, .unset]
abbrev own_ARRIUU (x0 : Addr) (x1 : Addr) (x2 : Int32) : Array Slot := #[.val (.ref x0), .val (.ref x1), .val (.int x2), .unset, .unset]
abbrev own_ARRIIU (x0 : Addr) (x1 : Addr) (x2 : Int32) (x3 : Int32) : Array Slot := #[.val (.ref x0), .val (.ref x1), .val (.int x2), .val (.int x3), .unset]
abbrev own_ARRIIR (x0 : Addr) (x1 : Addr) (x2 : Int32) (x3 : Int32) (x4 : Addr) : Array Slot := #[.val (.ref x0), .val (.ref x1), .val (.int x2), .val (.int x3), .val (.ref x4)]
abbrev own_ANUUUU  : Array Slot := #[.val .null, .unset, .unset, .unset, .unset]
abbrev own_ANRUUU (x1 : Addr) : Array Slot := #[.val .null, .val (.ref x1), .unset, .unset, .unset]
abbrev own_ANRIUU (x1 : Addr) (x2 : Int32) : Array Slot := #[.val .null, .val (.ref x1), .val (.int x2), .unset, .unset]
abbrev own_ANRIIU (x1 : Addr) (x2 : Int32) (x3 : Int32) : Array Slot := #[.val .null, .val (.ref x1), .val (.int x2), .val (.int x3), .unset]
abbrev own_ANRIIR (x1 : Addr) (x2 : Int32) (x3 : Int32) (x4 : Addr) : Array Slot := #[.val .null, .val (.ref x1), .val (.int x2), .val (.int x3), .val (.ref x4)]
abbrev own_ARRIINU (x0 : Addr) (x1 : Addr) (x2 : Int32) (x3 : Int32) : Array Slot := #[.val (.ref x0), .val (.ref x1), .val (.int x2), .val (.int x3), .val .null, .unset]
abbrev own_AIIIIIUUUUUUU (x0 : Int32) (x1 : Int32) (x2 : Int32) (x3 : Int32) (x4 : Int32) : Array Slot := #[.val (.int x0), .val (.int x1), .val (.int x2), .val (.int x3), .val (.int x4), .unset, .unset, .unset, .unset, .unset, .unset, .unset]
abbrev own_AIIIIIIUUUUUU (x0 : Int32) (x1 : Int32) (x2 : Int32) (x3 : Int32) (x4 : Int32) (x5 : Int32) : Array Slot := #[.val (.int x0), .val (.int x1), .val (.int x2), .val (.int x3), .val (.int x4), .val (.int x5), .unset, .unset, .unset, .unset, .unset, .unset]
abbrev own_AIIIIIIIUUUUU (x0 : Int32) (x1 : Int32) (x2 : Int32) (x3 : Int32) (x4 : Int32) (x5 : Int32) (x6 : Int32) : Array Slot := #[.val (.int x0), .val (.int x1), .val (.int x2), .val (.int x3), .val (.int x4), .val (.int x5), .val (.int x6), .unset, .unset, .unset, .unset, .unset]
abbrev own_AIIIIIIIIUUUU (x0 : Int32) (x1 : Int32) (x2 : Int32) (x3 : Int32) (x4 : Int32) (x5 : Int32) (x6 : Int32) (x7 : Int32) : Array Slot := #[.val (.int x0), .val (.int x1), .val (.int x2), .val (.int x3), .val (.int x4), .val (.int x5), .val (.int x6), .val (.int x7), .unset, .unset, .unset, .unset]
abbrev own_AIIIIIIIIIUUU (x0 : Int32) (x1 : Int32) (x2 : Int32) (x3 : Int32) (x4 : Int32) (x5 : Int32) (x6 : Int32) (x7 : Int32) (x8 : Int32) : Array Slot := #[.val (.int x0), .val (.int x1), .val (.int x2), .val (.int x3), .val (.int x4), .val (.int x5), .val (.int x6), .val (.int x7), .val (.int x8), .unset, .unset, .unset]
abbrev own_AIIIIIIIIIRUU (x0 : Int32) (x1 : Int32) (x2 : Int32) (x3 : Int32) (x4 : Int32) (x5 : Int32) (x6 : Int32) (x7 : Int32) (x8 : Int32) (x9 : Addr) : Array Slot := #[.val (.int x0), .val (.int x1), .val (.int x2), .val (.int x3), .val (.int x4), .val (.int x5), .val (.int x6), .val (.int x7), .val (.int x8), .val (.ref x9), .unset, .unset]
abbrev own_AIIIIIIIIIRVU (x0 : Int32) (x1 : Int32) (x2 : Int32) (x3 : Int32) (x4 : Int32) (x5 : Int32) (x6 : Int32) (x7 : Int32) (x8 : Int32) (x9 : Addr) (x10 : Value) : Array Slot := #[.val (.int x0), .val (.int x1), .val (.int x2), .val (.int x3), .val (.int x4), .val (.int x5), .val (.int x6), .val (.int x7), .val (.int x8), .val (.ref x9), .val x10, .unset]
abbrev own_AIIIIIIIIIRVN (x0 : Int32) (x1 : Int32) (x2 : Int32) (x3 : Int32) (x4 : Int32) (x5 : Int32) (x6 : Int32) (x7 : Int32) (x8 : Int32) (x9 : Addr) (x10 : Value) : Array Slot := #[.val (.int x0), .val (.int x1), .val (.int x2), .val (.int x3), .val (.int x4), .val (.int x5), .val (.int x6), .val (.int x7), .val (.int x8), .val (.ref x9), .val x10, .val .null]
abbrev own_AIIIIIIIIIRVR (x0 : Int32) (x1 : Int32) (x2 : Int32) (x3 : Int32) (x4 : Int32) (x5 : Int32) (x6 : Int32) (x7 : Int32) (x8 : Int32) (x9 : Addr) (x10 : Value) (x11 : Addr) : Array Slot := #[.val (.int x0), .val (.int x1), .val (.int x2), .val (.int x3), .val (.int x4), .val (.int x5), .val (.int x6), .val (.int x7), .val (.int x8), .val (.ref x9), .val x10, .val (.ref x11)]
abbrev own_AIIIIIIIIIURU (x0 : Int32) (x1 : Int32) (x2 : Int32) (x3 : Int32) (x4 : Int32) (x5 : Int32) (x6 : Int32) (x7 : Int32) (x8 : Int32) (x10 : Addr) : Array Slot := #[.val (.int x0), .val (.int x1), .val (.int x2), .val (.int x3), .val (.int x4), .val (.int x5), .val (.int x6), .val (.int x7), .val (.int x8), .unset, .val (.ref x10), .unset]
abbrev own_AIIIIIIIIIRRU (x0 : Int32) (x1 : Int32) (x2 : Int32) (x3 : Int32) (x4 : Int32) (x5 : Int32) (x6 : Int32) (x7 : Int32) (x8 : Int32) (x9 : Addr) (x10 : Addr) : Array Slot := #[.val (.int x0), .val (.int x1), .val (.int x2), .val (.int x3), .val (.int x4), .val (.int x5), .val (.int x6), .val (.int x7), .val (.int x8), .val (.ref x9), .val (.ref x10), .unset]
abbrev own_AIIIIIIIIINUU (x0 : Int32) (x1 : Int32) (x2 : Int32) (x3 : Int32) (x4 : Int32) (x5 : Int32) (x6 : Int32) (x7 : Int32) (x8 : Int32) : Array Slot := #[.val (.int x0), .val (.int x1), .val (.int x2), .val (.int x3), .val (.int x4), .val (.int x5), .val (.int x6), .val (.int x7), .val (.int x8), .val .null, .unset, .unset]
abbrev own_AIIIIIIIIINNU (x0 : Int32) (x1 : Int32) (x2 : Int32) (x3 : Int32) (x4 : Int32) (x5 : Int32) (x6 : Int32) (x7 : Int32) (x8 : Int32) : Array Slot := #[.val (.int x0), .val (.int x1), .val (.int x2), .val (.int x3), .val (.int x4), .val (.int x5), .val (.int x6), .val (.int x7), .val (.int x8), .val .null, .val .null, .unset]
abbrev own_AIIIIIIIIINNN (x0 : Int32) (x1 : Int32) (x2 : Int32) (x3 : Int32) (x4 : Int32) (x5 : Int32) (x6 : Int32) (x7 : Int32) (x8 : Int32) : Array Slot := #[.val (.int x0), .val (.int x1), .val (.int x2), .val (.int x3), .val (.int x4), .val (.int x5), .val (.int x6), .val (.int x7), .val (.int x8), .val .null, .val .null, .val .null]
def own_Str (Z : State) (h : Heap) (a : Addr) (cs : List Int32) : Prop := ∃ (t : Addr) (kb : ClassId) (cd N : Int32) (vs : List Value), Exa Z h a "java/lang/String" ∧ Fld Z h a "java/lang/String" "value" "[B" (.ref t) ∧ Fld Z h a "java/lang/String" "coder" "B" (.int cd) ∧ Arv Z h t kb .byte N vs (.int 0) ∧ StrChars.Road.CodA cs cd N vs ∧ (∀ c ∈ cs, ¬ c < 0 ∧ ¬ (65535 : Int32) < c) ∧ cs.length ≤ 4000
theorem own_Str.ext {Z : State} {h h' : Heap} {a : Addr} {cs : List Int32} (F : own_Str Z h a cs) (E : Ext h h') : own_Str Z h' a cs := by
  obtain ⟨t, kb, cd, N, vs, h1, h2, h3, h4, r⟩ := F
  exact ⟨t, kb, cd, N, vs, h1.ext E, h2.ext E, h3.ext E, h4.ext E, r⟩
theorem own_Str.exa {Z : State} {h : Heap} {a : Addr} {cs : List Int32} (F : own_Str Z h a cs) : Exa Z h a "java/lang/String" := by obtain ⟨_, _, _, _, _, h1, -⟩ := F; exact h1
theorem own_Str.lt {Z : State} {h : Heap} {a : Addr} {cs : List Int32} (F : own_Str Z h a cs) : a < h.size := F.exa.lt
theorem own_kx {h h' : Heap} (K : Keep h h' []) : Ext h h' := ⟨K.1, fun x c q => K.2.1 x c q List.not_mem_nil⟩
theorem own_Str.keepX {Z : State} {h h' : Heap} {a x : Addr} {cs : List Int32} {C : String} {a0 : Array Value} {k : Nat} (F : own_Str Z h a cs) (K : Keep h h' [x]) (E : Exa Z h x C) (hC : C ≠ "java/lang/String") (wi : (Jvm.Cond.instantiable C k).before a0 Z = true) : own_Str Z h' a cs := by
  obtain ⟨t, kb, cd, N, vs, h1, h2, h3, h4, r⟩ := F
  have n1 : a ∉ [x] := fun q => (E.ne h1 hC) (List.mem_singleton.mp q).symm
  have n2 : t ∉ [x] := fun q => (E.neArv h4 wi) (List.mem_singleton.mp q).symm
  exact ⟨t, kb, cd, N, vs, h1.keep K, h2.keep K n1, h3.keep K n1, h4.keep K n2, r⟩
theorem own_Str.keepA {Z : State} {h h' : Heap} {a x : Addr} {cs : List Int32} {k : ClassId} {z : Int32} {us : List Value} {d : Value} {a0 : Array Value} {kI : Nat} (F : own_Str Z h a cs) (K : Keep h h' [x]) (A : Arv Z h x k .char z us d) (wi : (Jvm.Cond.instantiable "java/lang/String" kI).before a0 Z = true) : own_Str Z h' a cs := by
  obtain ⟨t, kb, cd, N, vs, h1, h2, h3, h4, r⟩ := F
  have n1 : a ∉ [x] := fun q => (h1.neArv A wi) (List.mem_singleton.mp q)
  have n2 : t ∉ [x] := fun q => by
    rw [List.mem_singleton.mp q] at h4
    obtain ⟨c, A1, -⟩ := A
    obtain ⟨c2, A2, -⟩ := h4
    cases A1.1.symm.trans A2.1
    obtain ⟨-, kA, hkA, comp, hkind⟩ := A1.2.1
    obtain ⟨-, kB, hkB, compB, hkindB⟩ := A2.2.1
    cases hkA.symm.trans hkB
    rw [hkind] at hkindB; cases hkindB
  exact ⟨t, kb, cd, N, vs, h1.keep K, h2.keep K n1, h3.keep K n1, h4.keep K n2, r⟩
theorem own_up (cs : List Int32) (h : ∀ c ∈ cs, ¬ c < 0 ∧ ¬ (255 : Int32) < c) : ∀ c ∈ cs, ¬ c < 0 ∧ ¬ (65535 : Int32) < c := fun c hc => ⟨(h c hc).1, fun q => (h c hc).2 (by rw [Int32.lt_iff_toInt_lt] at q ⊢; have e1 : (65535 : Int32).toInt = 65535 := rfl; have e2 : (255 : Int32).toInt = 255 := rfl; omega)⟩
theorem own_eqv {v : Option Value} {cs ds : List Int32} (h : (v = some (.int 1) ∧ cs = ds) ∨ (v = some (.int 0) ∧ ¬ cs = ds)) : v = some (.int (if cs = ds then (1 : Int32) else (0 : Int32))) := by
  rcases h with ⟨h, q⟩ | ⟨h, q⟩ <;> rw [h]
  · rw [if_pos q]
  · rw [if_neg q]
theorem own_if1 {P : Prop} [Decidable P] {c : Int32} (h : c = if P then (1 : Int32) else (0 : Int32)) (q : ¬ c = 0) : P := by
  by_cases p : P
  · exact p
  · rw [if_neg p] at h; exact absurd h q
theorem own_if0 {P : Prop} [Decidable P] {c : Int32} (h : c = if P then (1 : Int32) else (0 : Int32)) (q : c = 0) : ¬ P := by
  intro p; rw [if_pos p] at h; rw [h] at q; exact absurd q (by decide)
theorem own_safe0 {Z : State} {EL : List (String × Nat)} {vm : Vm} {h : Heap} {x : Addr} {a0 : Array Value} {k : Nat} (hal : Z.vm.Alike vm) (E : Exa Z h x "java/lang/String") (F : Fld Z h x "java/lang/String" "value" "[B" .null) (wi : (Jvm.Cond.instantiable "java/lang/String" k).before a0 Z = true) : Safe Z EL vm h x := fun B => by
  obtain ⟨p, -, u, a, -, q, -, G, rfl | rfl⟩ := B
  · obtain ⟨cell, cf, kk, i, f, e1, e2, e3, -, -, -, e7⟩ := F
    cases (show h[q.sa]? = some q.sC from G.ha).symm.trans e1
    obtain ⟨cS, ⟨⟨-, -, -, ⟨c1, k1, i1, f1, -⟩, -, -, -, v1, -⟩, -⟩, -⟩ := G
    obtain ⟨k3, w3, -⟩ := State.fieldFound?_setVm (s := Z) hal e2
    have w4 := (show (Wst Z vm h).fieldFound? _ _ _ = _ from w3).symm.trans f1
    simp only [Option.some.injEq, Prod.mk.injEq] at w4
    rw [← w4.2.2.2, e7] at v1
    cases v1
  · obtain ⟨cell, kk, e1, e2, e3, -, -⟩ := E
    cases (show h[q.sd]? = some q.SA from G.hd).symm.trans e1
    obtain ⟨cS, -, -, f, -⟩ := G
    rw [show (Wst Z vm h).vm = vm from rfl, hal.findClass] at f
    obtain ⟨k1, q1, q2⟩ := Vm.findClass_spec f
    obtain ⟨k2, q3, q4⟩ := Vm.findClass_spec e2
    cases q1.symm.trans q3
    exact absurd (q2.symm.trans q4) (by decide)
theorem own_isr {P : Prop} [Decidable P] {a b : Value} (ha : a.isRef = true) (hb : b.isRef = true) : (if P then a else b).isRef = true := by
  by_cases p : P
  · rw [if_pos p]; exact ha
  · rw [if_neg p]; exact hb
theorem own_clamp {j : Int32} {z : Int32} {n : Nat} (h : ¬ j < 0 ∧ j < z) (hz : z.toNatClampNeg = n) : j.toNatClampNeg < n := by
  subst hz
  obtain ⟨h1, h2⟩ := h
  simp only [Int32.lt_iff_toInt_lt, Int32.reduceToInt] at h1 h2
  simp only [Int32.toNatClampNeg]; omega
theorem own_hpset {cs : List Int32} {i : Nat} {z : Int32} (h : ∀ c ∈ cs, ¬ c < 0 ∧ ¬ (255 : Int32) < c) (hz : ¬ z < 0 ∧ ¬ (255 : Int32) < z) : ∀ c ∈ cs.set i z, ¬ c < 0 ∧ ¬ (255 : Int32) < c := fun c hc => by
  rcases List.mem_or_eq_of_mem_set hc with q | q
  · exact h c q
  · rw [q]; exact hz
theorem own_len {t : Term} {n : Nat} {args : Array Value} {Z : State} {a : Addr} {cl : Cell} {ty : FieldType} (ev : t.eval args Z none [] Z = some (.ref a)) (A : Arr Z Z.heap a cl ty) (hn : n < 2 ^ 31) (h : (Term.length t).eval args Z none [] Z = some (.int n.toInt32)) : cl.slots.size = n := by
  obtain ⟨b, cell, e1, e2, e3, e4⟩ := Lib.length_spec h
  cases ev.symm.trans e1
  have q : cell = cl := Option.some.inj ((Lib.arrayAt_spec e2).1.symm.trans A.1)
  subst q
  have e5 := congrArg Int32.toInt (Value.int.inj e4)
  rw [len_toInt e3, len_toInt hn] at e5
  omega
theorem own_elr {t u : Term} {args : Array Value} {Z : State} {a b : Addr} {cl : Cell} {j : Int32} {i : Nat} (hj : j.toNatClampNeg = i) (ev : t.eval args Z none [] Z = some (.ref a)) (eu : u.eval args Z none [] Z = some (.ref b)) (hc : Z.heap[a]? = some cl) (h : (Jvm.Cond.eq (.elem t (.int j)) u).value args Z none Z [] = some true) : cl.slots[i]? = some (.ref b) := by
  subst hj
  obtain ⟨x, y, h1, h2, h3, h4⟩ := cmp_v (Or.inl h)
  cases eu.symm.trans h2
  have q := (elem_in h1 ev (Term.int_eval _) hc).2
  cases x <;> simp [Kin, Value.isRef] at h3 h4
  all_goals first | (simp [Cond.value, h1, eu] at h; done) | (simp [Cond.value, h1, eu] at h; rw [q, h])
def own_n18 (w : Int32) : List Int32 := if w = (0 : Int32) then [(97 : Int32), (117 : Int32), (116 : Int32), (104 : Int32), (111 : Int32), (114 : Int32), (105 : Int32), (122 : Int32), (97 : Int32), (116 : Int32), (105 : Int32), (111 : Int32), (110 : Int32), (95 : Int32), (99 : Int32), (111 : Int32), (100 : Int32), (101 : Int32)] else [(99 : Int32), (108 : Int32), (105 : Int32), (101 : Int32), (110 : Int32), (116 : Int32), (95 : Int32), (99 : Int32), (114 : Int32), (101 : Int32), (100 : Int32), (101 : Int32), (110 : Int32), (116 : Int32), (105 : Int32), (97 : Int32), (108 : Int32), (115 : Int32)]
theorem own_n18_len (w : Int32) : (own_n18 w).length = 18 := by
  unfold own_n18
  by_cases h : w = (0 : Int32)
  · rw [if_pos h]; rfl
  · rw [if_neg h]; rfl
theorem own_n18_hp (w : Int32) : ∀ c ∈ own_n18 w, ¬ c < 0 ∧ ¬ (255 : Int32) < c := by
  unfold own_n18
  by_cases h : w = (0 : Int32)
  · rw [if_pos h]; decide
  · rw [if_neg h]; decide
def own_n17 (w : Int32) : List Int32 := if w = (0 : Int32) then [(97 : Int32), (117 : Int32), (116 : Int32), (104 : Int32), (111 : Int32), (114 : Int32), (105 : Int32), (122 : Int32), (97 : Int32), (116 : Int32), (105 : Int32), (111 : Int32), (110 : Int32), (95 : Int32), (99 : Int32), (111 : Int32), (100 : Int32)] else [(99 : Int32), (108 : Int32), (105 : Int32), (101 : Int32), (110 : Int32), (116 : Int32), (95 : Int32), (99 : Int32), (114 : Int32), (101 : Int32), (100 : Int32), (101 : Int32), (110 : Int32), (116 : Int32), (105 : Int32), (97 : Int32), (108 : Int32)]
theorem own_n17_len (w : Int32) : (own_n17 w).length = 17 := by
  unfold own_n17
  by_cases h : w = (0 : Int32)
  · rw [if_pos h]; rfl
  · rw [if_neg h]; rfl
theorem own_n17_hp (w : Int32) : ∀ c ∈ own_n17 w, ¬ c < 0 ∧ ¬ (255 : Int32) < c := by
  unfold own_n17
  by_cases h : w = (0 : Int32)
  · rw [if_pos h]; decide
  · rw [if_neg h]; decide
def own_n19 (w c : Int32) : List Int32 := if w = (0 : Int32) then [(97 : Int32), (117 : Int32), (116 : Int32), (104 : Int32), (111 : Int32), (114 : Int32), (105 : Int32), (122 : Int32), (97 : Int32), (116 : Int32), (105 : Int32), (111 : Int32), (110 : Int32), (95 : Int32), (99 : Int32), (111 : Int32), (100 : Int32), (101 : Int32), c] else [(99 : Int32), (108 : Int32), (105 : Int32), (101 : Int32), (110 : Int32), (116 : Int32), (95 : Int32), (99 : Int32), (114 : Int32), (101 : Int32), (100 : Int32), (101 : Int32), (110 : Int32), (116 : Int32), (105 : Int32), (97 : Int32), (108 : Int32), (115 : Int32), c]
theorem own_n19_len (w c : Int32) : (own_n19 w c).length = 19 := by
  unfold own_n19
  by_cases h : w = (0 : Int32)
  · rw [if_pos h]; rfl
  · rw [if_neg h]; rfl
theorem own_n19_hp (w c : Int32) (hc : ¬ c < 0 ∧ ¬ (255 : Int32) < c) : ∀ z ∈ own_n19 w c, ¬ z < 0 ∧ ¬ (255 : Int32) < z := by
  unfold own_n19
  by_cases h : w = (0 : Int32)
  · rw [if_pos h]; intro z hz
    rcases List.mem_append.mp (show z ∈ ([(97 : Int32), (117 : Int32), (116 : Int32), (104 : Int32), (111 : Int32), (114 : Int32), (105 : Int32), (122 : Int32), (97 : Int32), (116 : Int32), (105 : Int32), (111 : Int32), (110 : Int32), (95 : Int32), (99 : Int32), (111 : Int32), (100 : Int32), (101 : Int32)] : List Int32) ++ [c] from hz) with q | q
    · exact (by decide : ∀ y ∈ ([(97 : Int32), (117 : Int32), (116 : Int32), (104 : Int32), (111 : Int32), (114 : Int32), (105 : Int32), (122 : Int32), (97 : Int32), (116 : Int32), (105 : Int32), (111 : Int32), (110 : Int32), (95 : Int32), (99 : Int32), (111 : Int32), (100 : Int32), (101 : Int32)] : List Int32), ¬ y < 0 ∧ ¬ (255 : Int32) < y) z q
    · rw [List.mem_singleton.mp q]; exact hc
  · rw [if_neg h]; intro z hz
    rcases List.mem_append.mp (show z ∈ ([(99 : Int32), (108 : Int32), (105 : Int32), (101 : Int32), (110 : Int32), (116 : Int32), (95 : Int32), (99 : Int32), (114 : Int32), (101 : Int32), (100 : Int32), (101 : Int32), (110 : Int32), (116 : Int32), (105 : Int32), (97 : Int32), (108 : Int32), (115 : Int32)] : List Int32) ++ [c] from hz) with q | q
    · exact (by decide : ∀ y ∈ ([(99 : Int32), (108 : Int32), (105 : Int32), (101 : Int32), (110 : Int32), (116 : Int32), (95 : Int32), (99 : Int32), (114 : Int32), (101 : Int32), (100 : Int32), (101 : Int32), (110 : Int32), (116 : Int32), (105 : Int32), (97 : Int32), (108 : Int32), (115 : Int32)] : List Int32), ¬ y < 0 ∧ ¬ (255 : Int32) < y) z q
    · rw [List.mem_singleton.mp q]; exact hc
theorem own_p18 (x : Int32) : ¬ (x &&& 2147483647) % 18 < 0 ∧ (x &&& 2147483647) % 18 < (18 : Int32) := by
  have h := c_mask x 2147483647 31 (by decide) (by decide)
  have h2 := (c_irem (x &&& 2147483647) 18 18 (by decide)).1 (by omega)
  simp only [Int32.lt_iff_toInt_lt, Int32.reduceToInt]; omega
theorem d9_0 : decode prog_16_method_1_code 0 = .ok (.getstatic 10, 3) := by decide +kernel
theorem d9_3 : decode prog_16_method_1_code 3 = .ok (.invokevirtual 14, 3) := by decide +kernel
theorem d9_6 : decode prog_16_method_1_code 6 = .ok (.checkcast 15, 3) := by decide +kernel
theorem d9_9 : decode prog_16_method_1_code 9 = .ok (.areturn, 1) := by decide +kernel
theorem pn_9 : plainFor (⟨"com/example/writd/writd/model/GrantType", "values", "()[Lcom/example/writd/writd/model/GrantType;"⟩ : MethodName) = true := by first | exact plainFor_of_name (by first | (simp [plainName, overriddenIn]; done) | decide +kernel) | decide +kernel | exact Jvm.Free.JP.mathPlain rfl (by decide +kernel)
theorem ef_9 (m : MethodId)  : entryFrame m #[] 0 = mkF m 0 #[] [] := by first | (simp [entryFrame, mkF, argsToLocals, Value.category]; done) | rfl
def Q9 (Z : State) (wV : Addr) (cl : Cell) (wAUTHORIZATION_CODE : Addr) (wCLIENT_CREDENTIALS : Addr) (h0 : Heap) (n0 : Nat) (v : Option Value) (h : Heap) (L : List Loc) : Prop := ∃ r, v = some (.ref r) ∧ h0.size ≤ r ∧ Fr n0 L ∧ Keep h0 h [] ∧ Arr Z h r (cloneOf cl) (.object "com/example/writd/writd/model/GrantType")
set_option maxRecDepth 65536 in
set_option maxHeartbeats 40000000 in
theorem rm9 (l : Launch) (Z : State) (a0 : Array Value) (hw : ∀ d ∈ tables_1, d.before a0 Z = true) (ws : List Jvm.Cond) (wV : Addr) (cl : Cell) (wAUTHORIZATION_CODE : Addr) (wCLIENT_CREDENTIALS : Addr) (h0 : Heap) (n0 : Nat) (Z0 : n0 ≤ h0.size) (S_V : Sta Z h0 "com/example/writd/writd/model/GrantType" "$VALUES" "[Lcom/example/writd/writd/model/GrantType;" (.ref wV)) (Ar_V : Arr Z h0 wV cl (.object "com/example/writd/writd/model/GrantType")) (E_V : Exa Z h0 wV "[Lcom/example/writd/writd/model/GrantType;") (FC : FitC Z cl) (hsz : cl.slots.size = 2) (hat0 : cl.slots[0]? = some (.ref wAUTHORIZATION_CODE)) (hat1 : cl.slots[1]? = some (.ref wCLIENT_CREDENTIALS)) :
    MetFree l (⟨"com/example/writd/writd/model/GrantType", "values", "()[Lcom/example/writd/writd/model/GrantType;"⟩ : MethodName) (head1 (Jvm.Cond.code (⟨"com/example/writd/writd/model/GrantType", "values", "()[Lcom/example/writd/writd/model/GrantType;"⟩ : MethodName) prog_16_method_1_code 0 (some (.array (.object "com/example/writd/writd/model/GrantType"))) :: ws) ({ frames := 1, cells := 1, slots := 2, locals := 14 } : Room)) (fun a U => a = #[] ∧ Z.Warmed39 U.vm ∧ U.heap = h0) (fun _ _ _ _ _ => True) (fun _ U o U' => ∃ v L, o = .returned v ∧ Q9 Z wV cl wAUTHORIZATION_CODE wCLIENT_CREDENTIALS h0 n0 v U'.heap L ∧ FrameEnd U o U' L ({ frames := 1, cells := 1, slots := 2, locals := 14 } : Room).cells ({ frames := 1, cells := 1, slots := 2, locals := 14 } : Room).slots) := by
  refine MetFree.of_bodySF pn_9 hisR ?_
  intro p e s m args below meth c s₁ Bd hml0 hP hK
  obtain ⟨rfl, hZ, hh⟩ := hP
  have hx := Bd.exec
  have hby := Bd.bytes
  have hml : c.maxLocals = 0 := hml0
  have hown : s.vm.findClass "com/example/writd/writd/model/GrantType" = some m.cls := findClass_of_methodNamed Bd.named
  have hnm := (name_of_methodNamed Bd.named Bd.method).1
  have X0 : Stand p l e ({ frames := 1, cells := 1, slots := 2, locals := 14 } : Room) s m #[] below meth c s₁ [] 0 0 := Stand.of_body Bd
  have e0 : s₁.heap = h0 := by rw [← hh, Bd.state]; rfl
  have N0 := Fr.nil n0
  refine own_at (castTop (ef_9 m )) ?_
  have K0 := Keep.refl h0 []
  obtain ⟨T00, X00, e00, st00⟩ := getS2 X0 hx hZ hown (host := "") (Or.inl (hw _ (List.mem_of_getElem? (i := 42) rfl))) Via.refl e0 S_V (g := (mkF m 0 #[] [])) rfl (hb hby d9_0)
  refine own_by st00 ?_
  obtain ⟨T3, h3, X3, e3, E3, Ar3, A3, st3⟩ := cloneA X00 hx hZ hown (hw _ (List.mem_of_getElem? (i := 44) rfl)) (hw _ (List.mem_of_getElem? (i := 45) rfl)) (hw _ (List.mem_of_getElem? (i := 49) rfl)) (hw _ (List.mem_of_getElem? (i := 47) rfl)) (hw _ (List.mem_of_getElem? (i := 48) rfl)) (hw _ (List.mem_of_getElem? (i := 50) rfl)) e00 Ar_V E_V FC (g := (mkF m 3 #[] [(.ref wV)])) rfl (by rw [hml]; rfl) rfl (hb hby d9_3) (by decide) (W := 0) (cap := 2) (by show 2 * 0 + _ ≤ _; exact Nat.le_of_eq rfl) (by decide) (by rw [hsz]; decide) (by decide) (by decide)
  obtain ⟨b3, g3⟩ : ∃ z, z = h0.size := ⟨_, rfl⟩
  rw [← g3] at Ar3 A3 st3
  have ne_wV_b3 : wV ≠ b3 := Nat.ne_of_lt (Nat.lt_of_lt_of_le E_V.lt (Nat.le_of_eq g3.symm))
  have g_b3 : n0 ≤ b3 := Nat.le_trans Z0 (Nat.le_of_eq g3.symm)
  have sz_b3 : h0.size ≤ b3 := Nat.le_trans K0.1 (Nat.le_of_eq g3.symm)
  have K3 := K0.ext E3
  have Z3 : n0 ≤ h3.size := Nat.le_trans Z0 E3.1
  refine own_by st3 ?_
  obtain ⟨T6, X6, e6, st6⟩ := castY X3 hx hZ hown (hw _ (List.mem_of_getElem? (i := 54) rfl)) e3 (Ins.self A3) (g := (mkF m 6 #[] [(.ref b3)])) rfl rfl (hb hby d9_6)
  refine own_by st6 ?_
  obtain ⟨fs, hr, hrun, hended, hW, hsame⟩ := X6.leave (v := some (.ref b3)) (fun h => by rw [Bd.returns] at h; cases h)
  refine ⟨_, _, ?_, hrun, hended, _, _, rfl, ?_, ⟨_, rfl⟩, hW, hsame.mono (by decide) (by decide)⟩
  · show Steps p.tables e below (T6.setTop (mkF m 9 #[] [(.ref b3)])) _
    jvm_step X6.here [X6.here.top, hx, (hb hby d9_9), X6.method', Bd.returns, Value.isRef, FieldType.isReference]
    first | (intro acts; rw [hr _ acts rfl rfl rfl]) | rw [hr _ _ rfl rfl rfl]
    exact Steps.refl _
  · show Q9 Z wV cl wAUTHORIZATION_CODE wCLIENT_CREDENTIALS h0 n0 _ T6.heap _
    rw [e6]
    exact ⟨_, rfl, sz_b3, N0, K3, Ar3⟩
theorem d10_0 : decode jdk_42_method_66_code 0 = .ok (.aload_n 0, 1) := by decide +kernel
theorem d10_1 : decode jdk_42_method_66_code 1 = .ok (.aload_n 1, 1) := by decide +kernel
theorem d10_2 : decode jdk_42_method_66_code 2 = .ok (.if_acmp .ne 5, 3) := by decide +kernel
theorem d10_7 : decode jdk_42_method_66_code 7 = .ok (.aload_n 1, 1) := by decide +kernel
theorem d10_8 : decode jdk_42_method_66_code 8 = .ok (.instanceof 10, 3) := by decide +kernel
theorem d10_11 : decode jdk_42_method_66_code 11 = .ok (.ifCond .eq 43, 3) := by decide +kernel
theorem d10_54 : decode jdk_42_method_66_code 54 = .ok (.iconst 0, 1) := by decide +kernel
theorem d10_55 : decode jdk_42_method_66_code 55 = .ok (.ireturn, 1) := by decide +kernel
theorem pn_10n : plainFor (⟨"java/lang/String", "equals", "(Ljava/lang/Object;)Z"⟩ : MethodName) = true := by first | exact plainFor_of_name (by first | (simp [plainName, overriddenIn]; done) | decide +kernel) | decide +kernel | exact Jvm.Free.JP.mathPlain rfl (by decide +kernel)
theorem ef_10n (m : MethodId) (a1 : Addr) : entryFrame m #[(.ref a1), .null] 3 = mkF m 0 #[.val (.ref a1), .val .null, .unset] [] := by first | (simp [entryFrame, mkF, argsToLocals, Value.category]; done) | rfl
def Q10n (Z : State) (a1 : Addr) (h0 : Heap) (n0 : Nat) (v : Option Value) (h : Heap) (L : List Loc) : Prop := v = some (.int 0) ∧ Fr n0 L ∧ h = h0
set_option maxRecDepth 65536 in
set_option maxHeartbeats 40000000 in
theorem rm10n (l : Launch) (Z : State) (a0 : Array Value) (hw : ∀ d ∈ tables_1, d.before a0 Z = true) (ws : List Jvm.Cond) (a1 : Addr) (h0 : Heap) (n0 : Nat) (Z0 : n0 ≤ h0.size) :
    MetFree l (⟨"java/lang/String", "equals", "(Ljava/lang/Object;)Z"⟩ : MethodName) (head1 (Jvm.Cond.code (⟨"java/lang/String", "equals", "(Ljava/lang/Object;)Z"⟩ : MethodName) jdk_42_method_66_code 3 (some .boolean) :: ws) ({ frames := 0, cells := 0, slots := 0, locals := 0 } : Room)) (fun a U => a = #[(.ref a1), .null] ∧ Z.Warmed39 U.vm ∧ U.heap = h0) (fun _ _ _ _ _ => True) (fun _ U o U' => ∃ v L, o = .returned v ∧ Q10n Z a1 h0 n0 v U'.heap L ∧ FrameEnd U o U' L ({ frames := 0, cells := 0, slots := 0, locals := 0 } : Room).cells ({ frames := 0, cells := 0, slots := 0, locals := 0 } : Room).slots) := by
  refine MetFree.of_bodySF pn_10n hisR ?_
  intro p e s m args below meth c s₁ Bd hml0 hP hK
  obtain ⟨rfl, hZ, hh⟩ := hP
  have hx := Bd.exec
  have hby := Bd.bytes
  have hml : c.maxLocals = 3 := hml0
  have hown : s.vm.findClass "java/lang/String" = some m.cls := findClass_of_methodNamed Bd.named
  have hnm := (name_of_methodNamed Bd.named Bd.method).1
  have X0 : Stand p l e ({ frames := 0, cells := 0, slots := 0, locals := 0 } : Room) s m #[(.ref a1), .null] below meth c s₁ [] 0 0 := Stand.of_body Bd
  have e0 : s₁.heap = h0 := by rw [← hh, Bd.state]; rfl
  have N0 := Fr.nil n0
  refine own_at (castTop (ef_10n m a1)) ?_
  have sg8 : ∀ t, own_S p e below s₁ (mkF m 8 #[.val (.ref a1), .val .null, .unset] [.null]) t → own_S p e below s₁ (mkF m 0 #[.val (.ref a1), .val .null, .unset] []) t := by
    intro t k
    show own_S p e below s₁ (mkF m 0 #[.val (.ref a1), .val .null, .unset] []) _
    refine XS.aloadN X0.here hx rfl (hb hby d10_0) rfl rfl ?_
    show own_S p e below s₁ (mkF m 1 #[.val (.ref a1), .val .null, .unset] [(.ref a1)]) _
    refine XS.aloadN X0.here hx rfl (hb hby d10_1) rfl rfl ?_
    show own_S p e below s₁ (mkF m 2 #[.val (.ref a1), .val .null, .unset] [.null, (.ref a1)]) _
    refine Jvm.RoadKit.acmp (g := (mkF m 2 #[.val (.ref a1), .val .null, .unset] [.null, (.ref a1)])) X0 hx rfl rfl rfl (pc0 := 2) (pc' := 7) (same := false) rfl (hb hby d10_2) rfl (decide_eq_false (fun q => by cases q)) (by decide) (by decide) ?_
    show own_S p e below s₁ (mkF m 7 #[.val (.ref a1), .val .null, .unset] []) _
    refine XS.aloadN X0.here hx rfl (hb hby d10_7) rfl rfl ?_
    exact k
  refine own_by sg8 ?_
  have st8 : ∀ t, own_S p e below s₁ (mkF m 11 #[.val (.ref a1), .val .null, .unset] [(.int (0 : Int32))]) t → own_S p e below s₁ (mkF m 8 #[.val (.ref a1), .val .null, .unset] [.null]) t := fun t k => X0.instanceofNull hx (g := (mkF m 8 #[.val (.ref a1), .val .null, .unset] [.null])) rfl rfl (hb hby d10_8) _ k
  refine own_by st8 ?_
  have sg55 : ∀ t, own_S p e below s₁ (mkF m 55 #[.val (.ref a1), .val .null, .unset] [(.int (0 : Int32))]) t → own_S p e below s₁ (mkF m 11 #[.val (.ref a1), .val .null, .unset] [(.int (0 : Int32))]) t := by
    intro t k
    show own_S p e below s₁ (mkF m 11 #[.val (.ref a1), .val .null, .unset] [(.int (0 : Int32))]) _
    refine XS.ifYes X0.here hx rfl (pc0 := 11) (pc' := 54) rfl (hb hby d10_11) rfl ((if0 _ _).trans (teq (by decide : (0 : Int32) = (0 : Int32))).1) (by decide) (by decide) ?_
    show own_S p e below s₁ (mkF m 54 #[.val (.ref a1), .val .null, .unset] []) _
    refine XS.iconst X0.here hx rfl (hb hby d10_54) ?_
    exact k
  refine own_by sg55 ?_
  obtain ⟨fs, hr, hrun, hended, hW, hsame⟩ := X0.leave (v := some (.int (0 : Int32))) (fun h => by rw [Bd.returns] at h; cases h)
  refine ⟨_, _, ?_, hrun, hended, _, _, rfl, ?_, ⟨_, rfl⟩, hW, hsame.mono (by decide) (by decide)⟩
  · exact retN X0 hx (t := .boolean) Bd.returns (by simp) (hb hby d10_55) hr
  · show Q10n Z a1 h0 n0 _ s₁.heap _
    rw [e0]
    exact ⟨rfl, N0, rfl⟩
theorem d8_0 : decode prog_16_method_5_code 0 = .ok (.invokestatic 40, 3) := by decide +kernel
theorem d8_3 : decode prog_16_method_5_code 3 = .ok (.astore_n 1, 1) := by decide +kernel
theorem d8_4 : decode prog_16_method_5_code 4 = .ok (.aload_n 1, 1) := by decide +kernel
theorem d8_5 : decode prog_16_method_5_code 5 = .ok (.arraylength, 1) := by decide +kernel
theorem d8_6 : decode prog_16_method_5_code 6 = .ok (.istore_n 2, 1) := by decide +kernel
theorem d8_7 : decode prog_16_method_5_code 7 = .ok (.iconst 0, 1) := by decide +kernel
theorem d8_8 : decode prog_16_method_5_code 8 = .ok (.istore_n 3, 1) := by decide +kernel
theorem d8_9 : decode prog_16_method_5_code 9 = .ok (.iload_n 3, 1) := by decide +kernel
theorem d8_10 : decode prog_16_method_5_code 10 = .ok (.iload_n 2, 1) := by decide +kernel
theorem d8_11 : decode prog_16_method_5_code 11 = .ok (.if_icmp .ge 29, 3) := by decide +kernel
theorem d8_14 : decode prog_16_method_5_code 14 = .ok (.aload_n 1, 1) := by decide +kernel
theorem d8_15 : decode prog_16_method_5_code 15 = .ok (.iload_n 3, 1) := by decide +kernel
theorem d8_16 : decode prog_16_method_5_code 16 = .ok (.aaload, 1) := by decide +kernel
theorem d8_17 : decode prog_16_method_5_code 17 = .ok (.astore 4, 2) := by decide +kernel
theorem d8_19 : decode prog_16_method_5_code 19 = .ok (.aload 4, 2) := by decide +kernel
theorem d8_21 : decode prog_16_method_5_code 21 = .ok (.getfield 29, 3) := by decide +kernel
theorem d8_24 : decode prog_16_method_5_code 24 = .ok (.aload_n 0, 1) := by decide +kernel
theorem d8_25 : decode prog_16_method_5_code 25 = .ok (.invokevirtual 44, 3) := by decide +kernel
theorem d8_28 : decode prog_16_method_5_code 28 = .ok (.ifCond .eq 6, 3) := by decide +kernel
theorem d8_31 : decode prog_16_method_5_code 31 = .ok (.aload 4, 2) := by decide +kernel
theorem d8_33 : decode prog_16_method_5_code 33 = .ok (.areturn, 1) := by decide +kernel
theorem d8_34 : decode prog_16_method_5_code 34 = .ok (.iinc 3 1, 3) := by decide +kernel
theorem d8_37 : decode prog_16_method_5_code 37 = .ok (.goto (-28), 3) := by decide +kernel
theorem d8_40 : decode prog_16_method_5_code 40 = .ok (.aconst_null, 1) := by decide +kernel
theorem d8_41 : decode prog_16_method_5_code 41 = .ok (.areturn, 1) := by decide +kernel
theorem pn_8 : plainFor (⟨"com/example/writd/writd/model/GrantType", "fromValue", "(Ljava/lang/String;)Lcom/example/writd/writd/model/GrantType;"⟩ : MethodName) = true := by first | exact plainFor_of_name (by first | (simp [plainName, overriddenIn]; done) | decide +kernel) | decide +kernel | exact Jvm.Free.JP.mathPlain rfl (by decide +kernel)
theorem pd_8_0 : parseMethodDescriptor "()[Lcom/example/writd/writd/model/GrantType;" = some ⟨[], some (.array (.object "com/example/writd/writd/model/GrantType"))⟩ := by decide +kernel
theorem pd_8_1 : parseMethodDescriptor "(Ljava/lang/Object;)Z" = some ⟨[(.object "java/lang/Object")], some .boolean⟩ := by decide +kernel
theorem ef_8 (m : MethodId) (a1 : Addr) : entryFrame m #[(.ref a1)] 5 = mkF m 0 #[.val (.ref a1), .unset, .unset, .unset, .unset] [] := by first | (simp [entryFrame, mkF, argsToLocals, Value.category]; done) | rfl
def Q8 (Z : State) (a1 : Addr) (cs : List Int32) (wV : Addr) (cl : Cell) (wAUTHORIZATION_CODE : Addr) (wCLIENT_CREDENTIALS : Addr) (sAUTHORIZATION_CODE : Addr) (sCLIENT_CREDENTIALS : Addr) (gz : Int32) (h0 : Heap) (n0 : Nat) (v : Option Value) (h : Heap) (L : List Loc) : Prop := v = some (if ([(97 : Int32), (117 : Int32), (116 : Int32), (104 : Int32), (111 : Int32), (114 : Int32), (105 : Int32), (122 : Int32), (97 : Int32), (116 : Int32), (105 : Int32), (111 : Int32), (110 : Int32), (95 : Int32), (99 : Int32), (111 : Int32), (100 : Int32), (101 : Int32)] : List Int32) = cs then Value.ref wAUTHORIZATION_CODE else (if ([(99 : Int32), (108 : Int32), (105 : Int32), (101 : Int32), (110 : Int32), (116 : Int32), (95 : Int32), (99 : Int32), (114 : Int32), (101 : Int32), (100 : Int32), (101 : Int32), (110 : Int32), (116 : Int32), (105 : Int32), (97 : Int32), (108 : Int32), (115 : Int32)] : List Int32) = cs then Value.ref wCLIENT_CREDENTIALS else Value.null)) ∧ Fr n0 L ∧ Keep h0 h []
set_option maxRecDepth 65536 in
set_option maxHeartbeats 40000000 in
theorem rm8 (l : Launch) (Z : State) (a0 : Array Value) (hw : ∀ d ∈ tables_1, d.before a0 Z = true) (ws : List Jvm.Cond) (a1 : Addr) (cs : List Int32) (wV : Addr) (cl : Cell) (wAUTHORIZATION_CODE : Addr) (wCLIENT_CREDENTIALS : Addr) (sAUTHORIZATION_CODE : Addr) (sCLIENT_CREDENTIALS : Addr) (gz : Int32) (h0 : Heap) (n0 : Nat) (Z0 : n0 ≤ h0.size) (O : Old Z n0 h0) (O2 : Sta Z Z.heap "java/lang/String" "COMPACT_STRINGS" "Z" (.int gz)) (P5 : ¬ (gz = (0 : Int32))) (S_V : Sta Z Z.heap "com/example/writd/writd/model/GrantType" "$VALUES" "[Lcom/example/writd/writd/model/GrantType;" (.ref wV)) (Ar_V : Arr Z Z.heap wV cl (.object "com/example/writd/writd/model/GrantType")) (E_V : Exa Z Z.heap wV "[Lcom/example/writd/writd/model/GrantType;") (FC : FitC Z cl) (hsz : cl.slots.size = 2) (hat0 : cl.slots[0]? = some (.ref wAUTHORIZATION_CODE)) (hat1 : cl.slots[1]? = some (.ref wCLIENT_CREDENTIALS)) (FV_AUTHORIZATION_CODE : Fld Z Z.heap wAUTHORIZATION_CODE "com/example/writd/writd/model/GrantType" "value" "Ljava/lang/String;" (.ref sAUTHORIZATION_CODE)) (FV_CLIENT_CREDENTIALS : Fld Z Z.heap wCLIENT_CREDENTIALS "com/example/writd/writd/model/GrantType" "value" "Ljava/lang/String;" (.ref sCLIENT_CREDENTIALS)) (EX_AUTHORIZATION_CODE : Exa Z Z.heap sAUTHORIZATION_CODE "java/lang/String") (EX_CLIENT_CREDENTIALS : Exa Z Z.heap sCLIENT_CREDENTIALS "java/lang/String") (Str_AUTHORIZATION_CODE : own_Str Z Z.heap sAUTHORIZATION_CODE ([(97 : Int32), (117 : Int32), (116 : Int32), (104 : Int32), (111 : Int32), (114 : Int32), (105 : Int32), (122 : Int32), (97 : Int32), (116 : Int32), (105 : Int32), (111 : Int32), (110 : Int32), (95 : Int32), (99 : Int32), (111 : Int32), (100 : Int32), (101 : Int32)] : List Int32)) (Str_CLIENT_CREDENTIALS : own_Str Z Z.heap sCLIENT_CREDENTIALS ([(99 : Int32), (108 : Int32), (105 : Int32), (101 : Int32), (110 : Int32), (116 : Int32), (95 : Int32), (99 : Int32), (114 : Int32), (101 : Int32), (100 : Int32), (101 : Int32), (110 : Int32), (116 : Int32), (105 : Int32), (97 : Int32), (108 : Int32), (115 : Int32)] : List Int32)) (S1 : own_Str Z h0 a1 cs) :
    MetFree l (⟨"com/example/writd/writd/model/GrantType", "fromValue", "(Ljava/lang/String;)Lcom/example/writd/writd/model/GrantType;"⟩ : MethodName) (head1 (Jvm.Cond.code (⟨"com/example/writd/writd/model/GrantType", "fromValue", "(Ljava/lang/String;)Lcom/example/writd/writd/model/GrantType;"⟩ : MethodName) prog_16_method_5_code 5 (some (.object "com/example/writd/writd/model/GrantType")) :: ws) ({ frames := 2, cells := 1, slots := 2, locals := 28 } : Room)) (fun a U => a = #[(.ref a1)] ∧ Z.Warmed39 U.vm ∧ U.heap = h0) (fun _ _ _ _ _ => True) (fun _ U o U' => ∃ v L, o = .returned v ∧ Q8 Z a1 cs wV cl wAUTHORIZATION_CODE wCLIENT_CREDENTIALS sAUTHORIZATION_CODE sCLIENT_CREDENTIALS gz h0 n0 v U'.heap L ∧ FrameEnd U o U' L ({ frames := 2, cells := 1, slots := 2, locals := 28 } : Room).cells ({ frames := 2, cells := 1, slots := 2, locals := 28 } : Room).slots) := by
  refine MetFree.of_bodySF pn_8 hisR ?_
  intro p e s m args below meth c s₁ Bd hml0 hP hK
  obtain ⟨rfl, hZ, hh⟩ := hP
  have hx := Bd.exec
  have hby := Bd.bytes
  have hml : c.maxLocals = 5 := hml0
  have hown : s.vm.findClass "com/example/writd/writd/model/GrantType" = some m.cls := findClass_of_methodNamed Bd.named
  have hnm := (name_of_methodNamed Bd.named Bd.method).1
  have X0 : Stand p l e ({ frames := 2, cells := 1, slots := 2, locals := 28 } : Room) s m #[(.ref a1)] below meth c s₁ [] 0 0 := Stand.of_body Bd
  have e0 : s₁.heap = h0 := by rw [← hh, Bd.state]; rfl
  have N0 := Fr.nil n0
  refine own_at (castTop (ef_8 m a1)) ?_
  have K0 := Keep.refl h0 []
  have heq : ∀ d ∈ StrChars.Road.wordsEq, d.before a0 Z = true := fun d hd => hw d ((by decide +kernel : ∀ d ∈ StrChars.Road.wordsEq, d ∈ tables_1) d hd)
  obtain ⟨_, _, ⟨T00, L00, k00, n00⟩, -, X00, ⟨Lc00, hQ00, l00, y00, z00⟩, st00⟩ := Jvm.LawKit.callS X0 hx (y := (⟨"com/example/writd/writd/model/GrantType", "values", "()[Lcom/example/writd/writd/model/GrantType;"⟩ : MethodName)) hown (mvT hZ (hw _ (List.mem_of_getElem? (i := 39) rfl))) (mvT hZ (hw _ (List.mem_of_getElem? (i := 40) rfl))) (mvT hZ (hw _ (List.mem_of_getElem? (i := 37) rfl))) (mvT hZ (hw _ (List.mem_of_getElem? (i := 41) rfl))) (by decide) (backOf (W := 0) (rm9 l Z a0 hw [] wV cl wAUTHORIZATION_CODE wCLIENT_CREDENTIALS h0 n0 Z0 (S_V.ext O.2) (Ar_V.ext O.2) (E_V.ext O.2) FC hsz hat0 hat1) hZ (hw _ (List.mem_of_getElem? (i := 41) rfl)) (hw _ (List.mem_of_getElem? (i := 37) rfl)) (by decide) (by decide)) (g := (mkF m 0 (own_ARUUUU a1) [])) rfl (by rw [hml]; rfl) (argsL := []) (rest := []) (lenOf pd_8_0 rfl) rfl (by show 2 * 0 + _ ≤ _; exact Nat.le_of_eq rfl) (hb hby d8_0) (fun _ _ => ⟨rfl, e0, (by decide : 0 + 1 ≤ _), (by decide : 0 + 2 ≤ _)⟩)
  dsimp only [Pt.U, Pt.locs, Pt.cells, Pt.slots] at X00 l00 y00 z00 st00 hQ00
  subst l00 y00 z00
  obtain ⟨r00, rfl, ge00, N00q, Kq00, Ar00⟩ := hQ00
  have N00 := Fr.app N0 N00q
  have ne_a1_r00 : a1 ≠ r00 := Nat.ne_of_lt (Nat.lt_of_lt_of_le S1.lt ge00)
  have g_r00 : n0 ≤ r00 := Nat.le_trans Z0 ge00
  have sz_r00 : h0.size ≤ r00 := Nat.le_trans K0.1 ge00
  have K00 : Keep h0 T00.heap [] := K0.trans Kq00 (fun x hx => nomatch hx)
  have Z00 : n0 ≤ T00.heap.size := Nat.le_trans Z0 Kq00.1
  refine own_by st00 ?_
  have sg21 : ∀ t, own_S p e below T00 (mkF m 21 (own_ARRIIR a1 r00 (2 : Int32) (0 : Int32) wAUTHORIZATION_CODE) [(.ref wAUTHORIZATION_CODE)]) t → own_S p e below T00 (mkF m 3 (own_ARUUUU a1) [(.ref r00)]) t := by
    intro t k
    show own_S p e below T00 (mkF m 3 (own_ARUUUU a1) [(.ref r00)]) _
    refine XS.astoreN X00.here hx rfl (hb hby d8_3) rfl rfl (l' := (own_ARRUUU a1 r00)) rfl ?_
    show own_S p e below T00 (mkF m 4 (own_ARRUUU a1 r00) []) _
    refine XS.aloadN X00.here hx rfl (hb hby d8_4) rfl rfl ?_
    show own_S p e below T00 (mkF m 5 (own_ARRUUU a1 r00) [(.ref r00)]) _
    refine X00.arraylength hx (by exact Ar00.1) (State.isArrayOf_alike hZ.alike Ar00.2.1) (g := (mkF m 5 (own_ARRUUU a1 r00) [(.ref r00)])) rfl rfl (hb hby d8_5) _ ?_
    rw [hsz]
    show own_S p e below T00 (mkF m 6 (own_ARRUUU a1 r00) [(.int (2 : Int32))]) _
    refine XS.istoreN X00.here hx rfl (hb hby d8_6) rfl (l' := (own_ARRIUU a1 r00 (2 : Int32))) rfl ?_
    show own_S p e below T00 (mkF m 7 (own_ARRIUU a1 r00 (2 : Int32)) []) _
    refine XS.iconst X00.here hx rfl (hb hby d8_7) ?_
    show own_S p e below T00 (mkF m 8 (own_ARRIUU a1 r00 (2 : Int32)) [(.int (0 : Int32))]) _
    refine XS.istoreN X00.here hx rfl (hb hby d8_8) rfl (l' := (own_ARRIIU a1 r00 (2 : Int32) (0 : Int32))) rfl ?_
    show own_S p e below T00 (mkF m 9 (own_ARRIIU a1 r00 (2 : Int32) (0 : Int32)) []) _
    refine XS.iloadN X00.here hx rfl (hb hby d8_9) rfl ?_
    show own_S p e below T00 (mkF m 10 (own_ARRIIU a1 r00 (2 : Int32) (0 : Int32)) [(.int (0 : Int32))]) _
    refine XS.iloadN X00.here hx rfl (hb hby d8_10) rfl ?_
    show own_S p e below T00 (mkF m 11 (own_ARRIIU a1 r00 (2 : Int32) (0 : Int32)) [(.int (2 : Int32)), (.int (0 : Int32))]) _
    refine XS.icmpNo X00.here hx rfl (hb hby d8_11) rfl (tlt (by decide : (0 : Int32) < (2 : Int32))).2.1 ?_
    show own_S p e below T00 (mkF m 14 (own_ARRIIU a1 r00 (2 : Int32) (0 : Int32)) []) _
    refine XS.aloadN X00.here hx rfl (hb hby d8_14) rfl rfl ?_
    show own_S p e below T00 (mkF m 15 (own_ARRIIU a1 r00 (2 : Int32) (0 : Int32)) [(.ref r00)]) _
    refine XS.iloadN X00.here hx rfl (hb hby d8_15) rfl ?_
    show own_S p e below T00 (mkF m 16 (own_ARRIIU a1 r00 (2 : Int32) (0 : Int32)) [(.int (0 : Int32)), (.ref r00)]) _
    refine X00.aaload hx (j := (0 : Int32)) (v := (.ref wAUTHORIZATION_CODE)) (by exact Ar00.1) (State.isArrayOf_alike hZ.alike Ar00.2.1) rfl Ar00.2.2 (by rw [hsz]; decide) hat0 (g := (mkF m 16 (own_ARRIIU a1 r00 (2 : Int32) (0 : Int32)) [(.int (0 : Int32)), (.ref r00)])) rfl rfl (hb hby d8_16) _ ?_
    show own_S p e below T00 (mkF m 17 (own_ARRIIU a1 r00 (2 : Int32) (0 : Int32)) [(.ref wAUTHORIZATION_CODE)]) _
    refine XS.astore X00.here hx rfl (hb hby d8_17) rfl rfl (l' := (own_ARRIIR a1 r00 (2 : Int32) (0 : Int32) wAUTHORIZATION_CODE)) rfl ?_
    show own_S p e below T00 (mkF m 19 (own_ARRIIR a1 r00 (2 : Int32) (0 : Int32) wAUTHORIZATION_CODE) []) _
    refine XS.aload X00.here hx rfl (hb hby d8_19) rfl rfl ?_
    exact k
  refine own_by sg21 ?_
  obtain ⟨T21, X21, e21, st21⟩ := getF X00 hx hZ hown (host := "") (Or.inl (hw _ (List.mem_of_getElem? (i := 56) rfl))) Via.refl rfl (FV_AUTHORIZATION_CODE.ext (O.keep Kq00 all0).2) (g := (mkF m 21 (own_ARRIIR a1 r00 (2 : Int32) (0 : Int32) wAUTHORIZATION_CODE) [(.ref wAUTHORIZATION_CODE)])) rfl rfl (hb hby d8_21)
  refine own_by st21 ?_
  have sg25 : ∀ t, own_S p e below T21 (mkF m 25 (own_ARRIIR a1 r00 (2 : Int32) (0 : Int32) wAUTHORIZATION_CODE) [(.ref a1), (.ref sAUTHORIZATION_CODE)]) t → own_S p e below T21 (mkF m 24 (own_ARRIIR a1 r00 (2 : Int32) (0 : Int32) wAUTHORIZATION_CODE) [(.ref sAUTHORIZATION_CODE)]) t := by
    intro t k
    show own_S p e below T21 (mkF m 24 (own_ARRIIR a1 r00 (2 : Int32) (0 : Int32) wAUTHORIZATION_CODE) [(.ref sAUTHORIZATION_CODE)]) _
    refine XS.aloadN X21.here hx rfl (hb hby d8_24) rfl rfl ?_
    exact k
  refine own_by sg25 ?_
  obtain ⟨tx25, kx25, dx25, nx25, vx25, xe25, xv25, xc25, xk25, xh25, xb25, xl25⟩ := id (Str_AUTHORIZATION_CODE.ext (O.keep Kq00 all0).2)
  obtain ⟨ty25, ky25, dy25, ny25, vy25, ye25, yv25, yc25, yk25, yh25, yb25, yl25⟩ := id (S1.ext (own_kx Kq00))
  obtain ⟨cq25, kq25, q25a, q25b, q25c⟩ := isOf hZ e21 (EX_AUTHORIZATION_CODE.ext (O.keep Kq00 all0).2)
  obtain ⟨_, _, ⟨T25, L25, k25, n25⟩, -, X25, ⟨Lc25, hQ25, l25, y25, z25⟩, st25⟩ := X21.virtualBack hx (y := (⟨"java/lang/String", "equals", "(Ljava/lang/Object;)Z"⟩ : MethodName)) (z := (⟨"java/lang/String", "equals", "(Ljava/lang/Object;)Z"⟩ : MethodName)) hown (mvT hZ (hw _ (List.mem_of_getElem? (i := 58) rfl))) (mvT hZ (hw _ (List.mem_of_getElem? (i := 59) rfl))) (notFace_of_selects (args := #[]) (mvT hZ (hw _ (List.mem_of_getElem? (i := 61) rfl)))) (mvT hZ (hw _ (List.mem_of_getElem? (i := 61) rfl))) (mvT hZ (hw _ (List.mem_of_getElem? (i := 60) rfl))) (by decide) (StrChars.Road.eqW (W := 0) hZ heq (kI := 4) (hw _ (List.mem_of_getElem? (i := 2) rfl)) xe25 xv25 xc25 xk25 xh25 xb25 xl25 ye25 yv25 yc25 yk25 yh25 yb25 yl25 (O2.ext (O.keep Kq00 all0).2) P5 (by decide) (by decide)) q25a q25c (g := (mkF m 25 (own_ARRIIR a1 r00 (2 : Int32) (0 : Int32) wAUTHORIZATION_CODE) [(.ref a1), (.ref sAUTHORIZATION_CODE)])) rfl (by rw [hml]; rfl) (Steps.refl _) (argsL := [(.ref a1)]) (rest := []) (lenOf pd_8_1 rfl) rfl (by show 2 * 0 + _ ≤ _; exact Nat.le_of_eq rfl) (hb hby d8_25) (fun _ _ => ⟨rfl, e21, (by decide : 1 + 0 ≤ _), (by decide : 2 + 0 ≤ _)⟩)
  dsimp only [Pt.U, Pt.locs, Pt.cells, Pt.slots] at X25 l25 y25 z25 st25 hQ25
  subst l25 y25 z25
  obtain ⟨hv25, rfl, hq25⟩ := hQ25
  obtain rfl := own_eqv hv25
  have N25 := Fr.app N00 (Fr.nil n0)
  obtain ⟨c25, hc25⟩ : ∃ z : Int32, z = (if ([(97 : Int32), (117 : Int32), (116 : Int32), (104 : Int32), (111 : Int32), (114 : Int32), (105 : Int32), (122 : Int32), (97 : Int32), (116 : Int32), (105 : Int32), (111 : Int32), (110 : Int32), (95 : Int32), (99 : Int32), (111 : Int32), (100 : Int32), (101 : Int32)] : List Int32) = cs then (1 : Int32) else (0 : Int32)) := ⟨_, rfl⟩
  rw [← hc25] at st25
  refine own_by (fun t k => st25.trans k) ?_
  by_cases hc28 : c25 = (0 : Int32)
  · have sg21_2 : ∀ t, own_S p e below T25 (mkF m 21 (own_ARRIIR a1 r00 (2 : Int32) (1 : Int32) wCLIENT_CREDENTIALS) [(.ref wCLIENT_CREDENTIALS)]) t → own_S p e below T25 (mkF m 28 (own_ARRIIR a1 r00 (2 : Int32) (0 : Int32) wAUTHORIZATION_CODE) [(.int c25)]) t := by
      intro t k
      show own_S p e below T25 (mkF m 28 (own_ARRIIR a1 r00 (2 : Int32) (0 : Int32) wAUTHORIZATION_CODE) [(.int c25)]) _
      refine XS.ifYes X25.here hx rfl (pc0 := 28) (pc' := 34) rfl (hb hby d8_28) rfl ((if0 _ _).trans (teq hc28).1) (by decide) (by decide) ?_
      show own_S p e below T25 (mkF m 34 (own_ARRIIR a1 r00 (2 : Int32) (0 : Int32) wAUTHORIZATION_CODE) []) _
      refine XS.iinc X25.here hx rfl (hb hby d8_34) rfl (l' := (own_ARRIIR a1 r00 (2 : Int32) (1 : Int32) wAUTHORIZATION_CODE)) rfl ?_
      show own_S p e below T25 (mkF m 37 (own_ARRIIR a1 r00 (2 : Int32) (1 : Int32) wAUTHORIZATION_CODE) []) _
      refine XS.goto X25.here hx rfl (pc0 := 37) (pc' := 9) rfl (hb hby d8_37) (by decide) (by decide) ?_
      show own_S p e below T25 (mkF m 9 (own_ARRIIR a1 r00 (2 : Int32) (1 : Int32) wAUTHORIZATION_CODE) []) _
      refine XS.iloadN X25.here hx rfl (hb hby d8_9) rfl ?_
      show own_S p e below T25 (mkF m 10 (own_ARRIIR a1 r00 (2 : Int32) (1 : Int32) wAUTHORIZATION_CODE) [(.int (1 : Int32))]) _
      refine XS.iloadN X25.here hx rfl (hb hby d8_10) rfl ?_
      show own_S p e below T25 (mkF m 11 (own_ARRIIR a1 r00 (2 : Int32) (1 : Int32) wAUTHORIZATION_CODE) [(.int (2 : Int32)), (.int (1 : Int32))]) _
      refine XS.icmpNo X25.here hx rfl (hb hby d8_11) rfl (tlt (by decide : (1 : Int32) < (2 : Int32))).2.1 ?_
      show own_S p e below T25 (mkF m 14 (own_ARRIIR a1 r00 (2 : Int32) (1 : Int32) wAUTHORIZATION_CODE) []) _
      refine XS.aloadN X25.here hx rfl (hb hby d8_14) rfl rfl ?_
      show own_S p e below T25 (mkF m 15 (own_ARRIIR a1 r00 (2 : Int32) (1 : Int32) wAUTHORIZATION_CODE) [(.ref r00)]) _
      refine XS.iloadN X25.here hx rfl (hb hby d8_15) rfl ?_
      show own_S p e below T25 (mkF m 16 (own_ARRIIR a1 r00 (2 : Int32) (1 : Int32) wAUTHORIZATION_CODE) [(.int (1 : Int32)), (.ref r00)]) _
      refine X25.aaload hx (j := (1 : Int32)) (v := (.ref wCLIENT_CREDENTIALS)) (by rw [hq25]; exact Ar00.1) (State.isArrayOf_alike hZ.alike Ar00.2.1) rfl Ar00.2.2 (by rw [hsz]; decide) hat1 (g := (mkF m 16 (own_ARRIIR a1 r00 (2 : Int32) (1 : Int32) wAUTHORIZATION_CODE) [(.int (1 : Int32)), (.ref r00)])) rfl rfl (hb hby d8_16) _ ?_
      show own_S p e below T25 (mkF m 17 (own_ARRIIR a1 r00 (2 : Int32) (1 : Int32) wAUTHORIZATION_CODE) [(.ref wCLIENT_CREDENTIALS)]) _
      refine XS.astore X25.here hx rfl (hb hby d8_17) rfl rfl (l' := (own_ARRIIR a1 r00 (2 : Int32) (1 : Int32) wCLIENT_CREDENTIALS)) rfl ?_
      show own_S p e below T25 (mkF m 19 (own_ARRIIR a1 r00 (2 : Int32) (1 : Int32) wCLIENT_CREDENTIALS) []) _
      refine XS.aload X25.here hx rfl (hb hby d8_19) rfl rfl ?_
      exact k
    refine own_by sg21_2 ?_
    obtain ⟨T21_2, X21_2, e21_2, st21_2⟩ := getF X25 hx hZ hown (host := "") (Or.inl (hw _ (List.mem_of_getElem? (i := 56) rfl))) Via.refl hq25 (FV_CLIENT_CREDENTIALS.ext (O.keep Kq00 all0).2) (g := (mkF m 21 (own_ARRIIR a1 r00 (2 : Int32) (1 : Int32) wCLIENT_CREDENTIALS) [(.ref wCLIENT_CREDENTIALS)])) rfl rfl (hb hby d8_21)
    refine own_by st21_2 ?_
    have sg25_2 : ∀ t, own_S p e below T21_2 (mkF m 25 (own_ARRIIR a1 r00 (2 : Int32) (1 : Int32) wCLIENT_CREDENTIALS) [(.ref a1), (.ref sCLIENT_CREDENTIALS)]) t → own_S p e below T21_2 (mkF m 24 (own_ARRIIR a1 r00 (2 : Int32) (1 : Int32) wCLIENT_CREDENTIALS) [(.ref sCLIENT_CREDENTIALS)]) t := by
      intro t k
      show own_S p e below T21_2 (mkF m 24 (own_ARRIIR a1 r00 (2 : Int32) (1 : Int32) wCLIENT_CREDENTIALS) [(.ref sCLIENT_CREDENTIALS)]) _
      refine XS.aloadN X21_2.here hx rfl (hb hby d8_24) rfl rfl ?_
      exact k
    refine own_by sg25_2 ?_
    obtain ⟨tx25_2, kx25_2, dx25_2, nx25_2, vx25_2, xe25_2, xv25_2, xc25_2, xk25_2, xh25_2, xb25_2, xl25_2⟩ := id (Str_CLIENT_CREDENTIALS.ext (O.keep Kq00 all0).2)
    obtain ⟨ty25_2, ky25_2, dy25_2, ny25_2, vy25_2, ye25_2, yv25_2, yc25_2, yk25_2, yh25_2, yb25_2, yl25_2⟩ := id (S1.ext (own_kx Kq00))
    obtain ⟨cq25_2, kq25_2, q25_2a, q25_2b, q25_2c⟩ := isOf hZ e21_2 (EX_CLIENT_CREDENTIALS.ext (O.keep Kq00 all0).2)
    obtain ⟨_, _, ⟨T25_2, L25_2, k25_2, n25_2⟩, -, X25_2, ⟨Lc25_2, hQ25_2, l25_2, y25_2, z25_2⟩, st25_2⟩ := X21_2.virtualBack hx (y := (⟨"java/lang/String", "equals", "(Ljava/lang/Object;)Z"⟩ : MethodName)) (z := (⟨"java/lang/String", "equals", "(Ljava/lang/Object;)Z"⟩ : MethodName)) hown (mvT hZ (hw _ (List.mem_of_getElem? (i := 58) rfl))) (mvT hZ (hw _ (List.mem_of_getElem? (i := 59) rfl))) (notFace_of_selects (args := #[]) (mvT hZ (hw _ (List.mem_of_getElem? (i := 61) rfl)))) (mvT hZ (hw _ (List.mem_of_getElem? (i := 61) rfl))) (mvT hZ (hw _ (List.mem_of_getElem? (i := 60) rfl))) (by decide) (StrChars.Road.eqW (W := 0) hZ heq (kI := 4) (hw _ (List.mem_of_getElem? (i := 2) rfl)) xe25_2 xv25_2 xc25_2 xk25_2 xh25_2 xb25_2 xl25_2 ye25_2 yv25_2 yc25_2 yk25_2 yh25_2 yb25_2 yl25_2 (O2.ext (O.keep Kq00 all0).2) P5 (by decide) (by decide)) q25_2a q25_2c (g := (mkF m 25 (own_ARRIIR a1 r00 (2 : Int32) (1 : Int32) wCLIENT_CREDENTIALS) [(.ref a1), (.ref sCLIENT_CREDENTIALS)])) rfl (by rw [hml]; rfl) (Steps.refl _) (argsL := [(.ref a1)]) (rest := []) (lenOf pd_8_1 rfl) rfl (by show 2 * 0 + _ ≤ _; exact Nat.le_of_eq rfl) (hb hby d8_25) (fun _ _ => ⟨rfl, e21_2, (by decide : 1 + 0 ≤ _), (by decide : 2 + 0 ≤ _)⟩)
    dsimp only [Pt.U, Pt.locs, Pt.cells, Pt.slots] at X25_2 l25_2 y25_2 z25_2 st25_2 hQ25_2
    subst l25_2 y25_2 z25_2
    obtain ⟨hv25_2, rfl, hq25_2⟩ := hQ25_2
    obtain rfl := own_eqv hv25_2
    have N25_2 := Fr.app N25 (Fr.nil n0)
    obtain ⟨c25_2, hc25_2⟩ : ∃ z : Int32, z = (if ([(99 : Int32), (108 : Int32), (105 : Int32), (101 : Int32), (110 : Int32), (116 : Int32), (95 : Int32), (99 : Int32), (114 : Int32), (101 : Int32), (100 : Int32), (101 : Int32), (110 : Int32), (116 : Int32), (105 : Int32), (97 : Int32), (108 : Int32), (115 : Int32)] : List Int32) = cs then (1 : Int32) else (0 : Int32)) := ⟨_, rfl⟩
    rw [← hc25_2] at st25_2
    refine own_by (fun t k => st25_2.trans k) ?_
    by_cases hc28_2 : c25_2 = (0 : Int32)
    · have sg41 : ∀ t, own_S p e below T25_2 (mkF m 41 (own_ARRIIR a1 r00 (2 : Int32) (2 : Int32) wCLIENT_CREDENTIALS) [.null]) t → own_S p e below T25_2 (mkF m 28 (own_ARRIIR a1 r00 (2 : Int32) (1 : Int32) wCLIENT_CREDENTIALS) [(.int c25_2)]) t := by
        intro t k
        show own_S p e below T25_2 (mkF m 28 (own_ARRIIR a1 r00 (2 : Int32) (1 : Int32) wCLIENT_CREDENTIALS) [(.int c25_2)]) _
        refine XS.ifYes X25_2.here hx rfl (pc0 := 28) (pc' := 34) rfl (hb hby d8_28) rfl ((if0 _ _).trans (teq hc28_2).1) (by decide) (by decide) ?_
        show own_S p e below T25_2 (mkF m 34 (own_ARRIIR a1 r00 (2 : Int32) (1 : Int32) wCLIENT_CREDENTIALS) []) _
        refine XS.iinc X25_2.here hx rfl (hb hby d8_34) rfl (l' := (own_ARRIIR a1 r00 (2 : Int32) (2 : Int32) wCLIENT_CREDENTIALS)) rfl ?_
        show own_S p e below T25_2 (mkF m 37 (own_ARRIIR a1 r00 (2 : Int32) (2 : Int32) wCLIENT_CREDENTIALS) []) _
        refine XS.goto X25_2.here hx rfl (pc0 := 37) (pc' := 9) rfl (hb hby d8_37) (by decide) (by decide) ?_
        show own_S p e below T25_2 (mkF m 9 (own_ARRIIR a1 r00 (2 : Int32) (2 : Int32) wCLIENT_CREDENTIALS) []) _
        refine XS.iloadN X25_2.here hx rfl (hb hby d8_9) rfl ?_
        show own_S p e below T25_2 (mkF m 10 (own_ARRIIR a1 r00 (2 : Int32) (2 : Int32) wCLIENT_CREDENTIALS) [(.int (2 : Int32))]) _
        refine XS.iloadN X25_2.here hx rfl (hb hby d8_10) rfl ?_
        show own_S p e below T25_2 (mkF m 11 (own_ARRIIR a1 r00 (2 : Int32) (2 : Int32) wCLIENT_CREDENTIALS) [(.int (2 : Int32)), (.int (2 : Int32))]) _
        refine XS.icmpYes X25_2.here hx rfl (pc0 := 11) (pc' := 40) rfl (hb hby d8_11) rfl (flt (by decide : ¬ ((2 : Int32) < (2 : Int32)))).2.1 (by decide) (by decide) ?_
        show own_S p e below T25_2 (mkF m 40 (own_ARRIIR a1 r00 (2 : Int32) (2 : Int32) wCLIENT_CREDENTIALS) []) _
        refine XS.aconstNull X25_2.here hx rfl (hb hby d8_40) ?_
        exact k
      refine own_by sg41 ?_
      obtain ⟨fs, hr, hrun, hended, hW, hsame⟩ := X25_2.leave (v := some .null) (fun h => by rw [Bd.returns] at h; cases h)
      refine ⟨_, _, ?_, hrun, hended, _, _, rfl, ?_, ⟨_, rfl⟩, hW, hsame.mono (by decide) (by decide)⟩
      · show Steps p.tables e below (T25_2.setTop (mkF m 41 (own_ARRIIR a1 r00 (2 : Int32) (2 : Int32) wCLIENT_CREDENTIALS) [.null])) _
        jvm_step X25_2.here [X25_2.here.top, hx, (hb hby d8_41), X25_2.method', Bd.returns, Value.isRef, FieldType.isReference]
        first | (intro acts; rw [hr _ acts rfl rfl rfl]) | rw [hr _ _ rfl rfl rfl]
        exact Steps.refl _
      · show Q8 Z a1 cs wV cl wAUTHORIZATION_CODE wCLIENT_CREDENTIALS sAUTHORIZATION_CODE sCLIENT_CREDENTIALS gz h0 n0 _ T25_2.heap _
        rw [hq25_2]
        exact ⟨by rw [if_neg (own_if0 hc25 hc28), if_neg (own_if0 hc25_2 hc28_2)], N25_2, K00⟩
    · have sg33 : ∀ t, own_S p e below T25_2 (mkF m 33 (own_ARRIIR a1 r00 (2 : Int32) (1 : Int32) wCLIENT_CREDENTIALS) [(.ref wCLIENT_CREDENTIALS)]) t → own_S p e below T25_2 (mkF m 28 (own_ARRIIR a1 r00 (2 : Int32) (1 : Int32) wCLIENT_CREDENTIALS) [(.int c25_2)]) t := by
        intro t k
        show own_S p e below T25_2 (mkF m 28 (own_ARRIIR a1 r00 (2 : Int32) (1 : Int32) wCLIENT_CREDENTIALS) [(.int c25_2)]) _
        refine XS.ifNo X25_2.here hx rfl (hb hby d8_28) rfl ((if0 _ _).trans (feq hc28_2).1) ?_
        show own_S p e below T25_2 (mkF m 31 (own_ARRIIR a1 r00 (2 : Int32) (1 : Int32) wCLIENT_CREDENTIALS) []) _
        refine XS.aload X25_2.here hx rfl (hb hby d8_31) rfl rfl ?_
        exact k
      refine own_by sg33 ?_
      obtain ⟨fs, hr, hrun, hended, hW, hsame⟩ := X25_2.leave (v := some (.ref wCLIENT_CREDENTIALS)) (fun h => by rw [Bd.returns] at h; cases h)
      refine ⟨_, _, ?_, hrun, hended, _, _, rfl, ?_, ⟨_, rfl⟩, hW, hsame.mono (by decide) (by decide)⟩
      · show Steps p.tables e below (T25_2.setTop (mkF m 33 (own_ARRIIR a1 r00 (2 : Int32) (1 : Int32) wCLIENT_CREDENTIALS) [(.ref wCLIENT_CREDENTIALS)])) _
        jvm_step X25_2.here [X25_2.here.top, hx, (hb hby d8_33), X25_2.method', Bd.returns, Value.isRef, FieldType.isReference]
        first | (intro acts; rw [hr _ acts rfl rfl rfl]) | rw [hr _ _ rfl rfl rfl]
        exact Steps.refl _
      · show Q8 Z a1 cs wV cl wAUTHORIZATION_CODE wCLIENT_CREDENTIALS sAUTHORIZATION_CODE sCLIENT_CREDENTIALS gz h0 n0 _ T25_2.heap _
        rw [hq25_2]
        exact ⟨by rw [if_neg (own_if0 hc25 hc28), if_pos (own_if1 hc25_2 hc28_2)], N25_2, K00⟩
  · have sg33 : ∀ t, own_S p e below T25 (mkF m 33 (own_ARRIIR a1 r00 (2 : Int32) (0 : Int32) wAUTHORIZATION_CODE) [(.ref wAUTHORIZATION_CODE)]) t → own_S p e below T25 (mkF m 28 (own_ARRIIR a1 r00 (2 : Int32) (0 : Int32) wAUTHORIZATION_CODE) [(.int c25)]) t := by
      intro t k
      show own_S p e below T25 (mkF m 28 (own_ARRIIR a1 r00 (2 : Int32) (0 : Int32) wAUTHORIZATION_CODE) [(.int c25)]) _
      refine XS.ifNo X25.here hx rfl (hb hby d8_28) rfl ((if0 _ _).trans (feq hc28).1) ?_
      show own_S p e below T25 (mkF m 31 (own_ARRIIR a1 r00 (2 : Int32) (0 : Int32) wAUTHORIZATION_CODE) []) _
      refine XS.aload X25.here hx rfl (hb hby d8_31) rfl rfl ?_
      exact k
    refine own_by sg33 ?_
    obtain ⟨fs, hr, hrun, hended, hW, hsame⟩ := X25.leave (v := some (.ref wAUTHORIZATION_CODE)) (fun h => by rw [Bd.returns] at h; cases h)
    refine ⟨_, _, ?_, hrun, hended, _, _, rfl, ?_, ⟨_, rfl⟩, hW, hsame.mono (by decide) (by decide)⟩
    · show Steps p.tables e below (T25.setTop (mkF m 33 (own_ARRIIR a1 r00 (2 : Int32) (0 : Int32) wAUTHORIZATION_CODE) [(.ref wAUTHORIZATION_CODE)])) _
      jvm_step X25.here [X25.here.top, hx, (hb hby d8_33), X25.method', Bd.returns, Value.isRef, FieldType.isReference]
      first | (intro acts; rw [hr _ acts rfl rfl rfl]) | rw [hr _ _ rfl rfl rfl]
      exact Steps.refl _
    · show Q8 Z a1 cs wV cl wAUTHORIZATION_CODE wCLIENT_CREDENTIALS sAUTHORIZATION_CODE sCLIENT_CREDENTIALS gz h0 n0 _ T25.heap _
      rw [hq25]
      exact ⟨by rw [if_pos (own_if1 hc25 hc28)], N25, K00⟩
theorem pn_8n : plainFor (⟨"com/example/writd/writd/model/GrantType", "fromValue", "(Ljava/lang/String;)Lcom/example/writd/writd/model/GrantType;"⟩ : MethodName) = true := by first | exact plainFor_of_name (by first | (simp [plainName, overriddenIn]; done) | decide +kernel) | decide +kernel | exact Jvm.Free.JP.mathPlain rfl (by decide +kernel)
theorem pd_8_0n : parseMethodDescriptor "()[Lcom/example/writd/writd/model/GrantType;" = some ⟨[], some (.array (.object "com/example/writd/writd/model/GrantType"))⟩ := by decide +kernel
theorem pd_8_1n : parseMethodDescriptor "(Ljava/lang/Object;)Z" = some ⟨[(.object "java/lang/Object")], some .boolean⟩ := by decide +kernel
theorem ef_8n (m : MethodId)  : entryFrame m #[.null] 5 = mkF m 0 #[.val .null, .unset, .unset, .unset, .unset] [] := by first | (simp [entryFrame, mkF, argsToLocals, Value.category]; done) | rfl
def Q8n (Z : State) (wV : Addr) (cl : Cell) (wAUTHORIZATION_CODE : Addr) (wCLIENT_CREDENTIALS : Addr) (sAUTHORIZATION_CODE : Addr) (sCLIENT_CREDENTIALS : Addr) (gz : Int32) (h0 : Heap) (n0 : Nat) (v : Option Value) (h : Heap) (L : List Loc) : Prop := v = some .null ∧ Fr n0 L ∧ Keep h0 h []
set_option maxRecDepth 65536 in
set_option maxHeartbeats 40000000 in
theorem rm8n (l : Launch) (Z : State) (a0 : Array Value) (hw : ∀ d ∈ tables_1, d.before a0 Z = true) (ws : List Jvm.Cond) (wV : Addr) (cl : Cell) (wAUTHORIZATION_CODE : Addr) (wCLIENT_CREDENTIALS : Addr) (sAUTHORIZATION_CODE : Addr) (sCLIENT_CREDENTIALS : Addr) (gz : Int32) (h0 : Heap) (n0 : Nat) (Z0 : n0 ≤ h0.size) (O : Old Z n0 h0) (O2 : Sta Z Z.heap "java/lang/String" "COMPACT_STRINGS" "Z" (.int gz)) (P5 : ¬ (gz = (0 : Int32))) (S_V : Sta Z Z.heap "com/example/writd/writd/model/GrantType" "$VALUES" "[Lcom/example/writd/writd/model/GrantType;" (.ref wV)) (Ar_V : Arr Z Z.heap wV cl (.object "com/example/writd/writd/model/GrantType")) (E_V : Exa Z Z.heap wV "[Lcom/example/writd/writd/model/GrantType;") (FC : FitC Z cl) (hsz : cl.slots.size = 2) (hat0 : cl.slots[0]? = some (.ref wAUTHORIZATION_CODE)) (hat1 : cl.slots[1]? = some (.ref wCLIENT_CREDENTIALS)) (FV_AUTHORIZATION_CODE : Fld Z Z.heap wAUTHORIZATION_CODE "com/example/writd/writd/model/GrantType" "value" "Ljava/lang/String;" (.ref sAUTHORIZATION_CODE)) (FV_CLIENT_CREDENTIALS : Fld Z Z.heap wCLIENT_CREDENTIALS "com/example/writd/writd/model/GrantType" "value" "Ljava/lang/String;" (.ref sCLIENT_CREDENTIALS)) (EX_AUTHORIZATION_CODE : Exa Z Z.heap sAUTHORIZATION_CODE "java/lang/String") (EX_CLIENT_CREDENTIALS : Exa Z Z.heap sCLIENT_CREDENTIALS "java/lang/String") (Str_AUTHORIZATION_CODE : own_Str Z Z.heap sAUTHORIZATION_CODE ([(97 : Int32), (117 : Int32), (116 : Int32), (104 : Int32), (111 : Int32), (114 : Int32), (105 : Int32), (122 : Int32), (97 : Int32), (116 : Int32), (105 : Int32), (111 : Int32), (110 : Int32), (95 : Int32), (99 : Int32), (111 : Int32), (100 : Int32), (101 : Int32)] : List Int32)) (Str_CLIENT_CREDENTIALS : own_Str Z Z.heap sCLIENT_CREDENTIALS ([(99 : Int32), (108 : Int32), (105 : Int32), (101 : Int32), (110 : Int32), (116 : Int32), (95 : Int32), (99 : Int32), (114 : Int32), (101 : Int32), (100 : Int32), (101 : Int32), (110 : Int32), (116 : Int32), (105 : Int32), (97 : Int32), (108 : Int32), (115 : Int32)] : List Int32)) :
    MetFree l (⟨"com/example/writd/writd/model/GrantType", "fromValue", "(Ljava/lang/String;)Lcom/example/writd/writd/model/GrantType;"⟩ : MethodName) (head1 (Jvm.Cond.code (⟨"com/example/writd/writd/model/GrantType", "fromValue", "(Ljava/lang/String;)Lcom/example/writd/writd/model/GrantType;"⟩ : MethodName) prog_16_method_5_code 5 (some (.object "com/example/writd/writd/model/GrantType")) :: ws) ({ frames := 2, cells := 1, slots := 2, locals := 25 } : Room)) (fun a U => a = #[.null] ∧ Z.Warmed39 U.vm ∧ U.heap = h0) (fun _ _ _ _ _ => True) (fun _ U o U' => ∃ v L, o = .returned v ∧ Q8n Z wV cl wAUTHORIZATION_CODE wCLIENT_CREDENTIALS sAUTHORIZATION_CODE sCLIENT_CREDENTIALS gz h0 n0 v U'.heap L ∧ FrameEnd U o U' L ({ frames := 2, cells := 1, slots := 2, locals := 25 } : Room).cells ({ frames := 2, cells := 1, slots := 2, locals := 25 } : Room).slots) := by
  refine MetFree.of_bodySF pn_8n hisR ?_
  intro p e s m args below meth c s₁ Bd hml0 hP hK
  obtain ⟨rfl, hZ, hh⟩ := hP
  have hx := Bd.exec
  have hby := Bd.bytes
  have hml : c.maxLocals = 5 := hml0
  have hown : s.vm.findClass "com/example/writd/writd/model/GrantType" = some m.cls := findClass_of_methodNamed Bd.named
  have hnm := (name_of_methodNamed Bd.named Bd.method).1
  have X0 : Stand p l e ({ frames := 2, cells := 1, slots := 2, locals := 25 } : Room) s m #[.null] below meth c s₁ [] 0 0 := Stand.of_body Bd
  have e0 : s₁.heap = h0 := by rw [← hh, Bd.state]; rfl
  have N0 := Fr.nil n0
  refine own_at (castTop (ef_8n m )) ?_
  have K0 := Keep.refl h0 []
  obtain ⟨_, _, ⟨T00, L00, k00, n00⟩, -, X00, ⟨Lc00, hQ00, l00, y00, z00⟩, st00⟩ := Jvm.LawKit.callS X0 hx (y := (⟨"com/example/writd/writd/model/GrantType", "values", "()[Lcom/example/writd/writd/model/GrantType;"⟩ : MethodName)) hown (mvT hZ (hw _ (List.mem_of_getElem? (i := 39) rfl))) (mvT hZ (hw _ (List.mem_of_getElem? (i := 40) rfl))) (mvT hZ (hw _ (List.mem_of_getElem? (i := 37) rfl))) (mvT hZ (hw _ (List.mem_of_getElem? (i := 41) rfl))) (by decide) (backOf (W := 0) (rm9 l Z a0 hw [] wV cl wAUTHORIZATION_CODE wCLIENT_CREDENTIALS h0 n0 Z0 (S_V.ext O.2) (Ar_V.ext O.2) (E_V.ext O.2) FC hsz hat0 hat1) hZ (hw _ (List.mem_of_getElem? (i := 41) rfl)) (hw _ (List.mem_of_getElem? (i := 37) rfl)) (by decide) (by decide)) (g := (mkF m 0 (own_ANUUUU) [])) rfl (by rw [hml]; rfl) (argsL := []) (rest := []) (lenOf pd_8_0n rfl) rfl (by show 2 * 0 + _ ≤ _; exact Nat.le_of_eq rfl) (hb hby d8_0) (fun _ _ => ⟨rfl, e0, (by decide : 0 + 1 ≤ _), (by decide : 0 + 2 ≤ _)⟩)
  dsimp only [Pt.U, Pt.locs, Pt.cells, Pt.slots] at X00 l00 y00 z00 st00 hQ00
  subst l00 y00 z00
  obtain ⟨r00, rfl, ge00, N00q, Kq00, Ar00⟩ := hQ00
  have N00 := Fr.app N0 N00q
  have g_r00 : n0 ≤ r00 := Nat.le_trans Z0 ge00
  have sz_r00 : h0.size ≤ r00 := Nat.le_trans K0.1 ge00
  have K00 : Keep h0 T00.heap [] := K0.trans Kq00 (fun x hx => nomatch hx)
  have Z00 : n0 ≤ T00.heap.size := Nat.le_trans Z0 Kq00.1
  refine own_by st00 ?_
  have sg21 : ∀ t, own_S p e below T00 (mkF m 21 (own_ANRIIR r00 (2 : Int32) (0 : Int32) wAUTHORIZATION_CODE) [(.ref wAUTHORIZATION_CODE)]) t → own_S p e below T00 (mkF m 3 (own_ANUUUU) [(.ref r00)]) t := by
    intro t k
    show own_S p e below T00 (mkF m 3 (own_ANUUUU) [(.ref r00)]) _
    refine XS.astoreN X00.here hx rfl (hb hby d8_3) rfl rfl (l' := (own_ANRUUU r00)) rfl ?_
    show own_S p e below T00 (mkF m 4 (own_ANRUUU r00) []) _
    refine XS.aloadN X00.here hx rfl (hb hby d8_4) rfl rfl ?_
    show own_S p e below T00 (mkF m 5 (own_ANRUUU r00) [(.ref r00)]) _
    refine X00.arraylength hx (by exact Ar00.1) (State.isArrayOf_alike hZ.alike Ar00.2.1) (g := (mkF m 5 (own_ANRUUU r00) [(.ref r00)])) rfl rfl (hb hby d8_5) _ ?_
    rw [hsz]
    show own_S p e below T00 (mkF m 6 (own_ANRUUU r00) [(.int (2 : Int32))]) _
    refine XS.istoreN X00.here hx rfl (hb hby d8_6) rfl (l' := (own_ANRIUU r00 (2 : Int32))) rfl ?_
    show own_S p e below T00 (mkF m 7 (own_ANRIUU r00 (2 : Int32)) []) _
    refine XS.iconst X00.here hx rfl (hb hby d8_7) ?_
    show own_S p e below T00 (mkF m 8 (own_ANRIUU r00 (2 : Int32)) [(.int (0 : Int32))]) _
    refine XS.istoreN X00.here hx rfl (hb hby d8_8) rfl (l' := (own_ANRIIU r00 (2 : Int32) (0 : Int32))) rfl ?_
    show own_S p e below T00 (mkF m 9 (own_ANRIIU r00 (2 : Int32) (0 : Int32)) []) _
    refine XS.iloadN X00.here hx rfl (hb hby d8_9) rfl ?_
    show own_S p e below T00 (mkF m 10 (own_ANRIIU r00 (2 : Int32) (0 : Int32)) [(.int (0 : Int32))]) _
    refine XS.iloadN X00.here hx rfl (hb hby d8_10) rfl ?_
    show own_S p e below T00 (mkF m 11 (own_ANRIIU r00 (2 : Int32) (0 : Int32)) [(.int (2 : Int32)), (.int (0 : Int32))]) _
    refine XS.icmpNo X00.here hx rfl (hb hby d8_11) rfl (tlt (by decide : (0 : Int32) < (2 : Int32))).2.1 ?_
    show own_S p e below T00 (mkF m 14 (own_ANRIIU r00 (2 : Int32) (0 : Int32)) []) _
    refine XS.aloadN X00.here hx rfl (hb hby d8_14) rfl rfl ?_
    show own_S p e below T00 (mkF m 15 (own_ANRIIU r00 (2 : Int32) (0 : Int32)) [(.ref r00)]) _
    refine XS.iloadN X00.here hx rfl (hb hby d8_15) rfl ?_
    show own_S p e below T00 (mkF m 16 (own_ANRIIU r00 (2 : Int32) (0 : Int32)) [(.int (0 : Int32)), (.ref r00)]) _
    refine X00.aaload hx (j := (0 : Int32)) (v := (.ref wAUTHORIZATION_CODE)) (by exact Ar00.1) (State.isArrayOf_alike hZ.alike Ar00.2.1) rfl Ar00.2.2 (by rw [hsz]; decide) hat0 (g := (mkF m 16 (own_ANRIIU r00 (2 : Int32) (0 : Int32)) [(.int (0 : Int32)), (.ref r00)])) rfl rfl (hb hby d8_16) _ ?_
    show own_S p e below T00 (mkF m 17 (own_ANRIIU r00 (2 : Int32) (0 : Int32)) [(.ref wAUTHORIZATION_CODE)]) _
    refine XS.astore X00.here hx rfl (hb hby d8_17) rfl rfl (l' := (own_ANRIIR r00 (2 : Int32) (0 : Int32) wAUTHORIZATION_CODE)) rfl ?_
    show own_S p e below T00 (mkF m 19 (own_ANRIIR r00 (2 : Int32) (0 : Int32) wAUTHORIZATION_CODE) []) _
    refine XS.aload X00.here hx rfl (hb hby d8_19) rfl rfl ?_
    exact k
  refine own_by sg21 ?_
  obtain ⟨T21, X21, e21, st21⟩ := getF X00 hx hZ hown (host := "") (Or.inl (hw _ (List.mem_of_getElem? (i := 56) rfl))) Via.refl rfl (FV_AUTHORIZATION_CODE.ext (O.keep Kq00 all0).2) (g := (mkF m 21 (own_ANRIIR r00 (2 : Int32) (0 : Int32) wAUTHORIZATION_CODE) [(.ref wAUTHORIZATION_CODE)])) rfl rfl (hb hby d8_21)
  refine own_by st21 ?_
  have sg25 : ∀ t, own_S p e below T21 (mkF m 25 (own_ANRIIR r00 (2 : Int32) (0 : Int32) wAUTHORIZATION_CODE) [.null, (.ref sAUTHORIZATION_CODE)]) t → own_S p e below T21 (mkF m 24 (own_ANRIIR r00 (2 : Int32) (0 : Int32) wAUTHORIZATION_CODE) [(.ref sAUTHORIZATION_CODE)]) t := by
    intro t k
    show own_S p e below T21 (mkF m 24 (own_ANRIIR r00 (2 : Int32) (0 : Int32) wAUTHORIZATION_CODE) [(.ref sAUTHORIZATION_CODE)]) _
    refine XS.aloadN X21.here hx rfl (hb hby d8_24) rfl rfl ?_
    exact k
  refine own_by sg25 ?_
  obtain ⟨cq25, kq25, q25a, q25b, q25c⟩ := isOf hZ e21 (EX_AUTHORIZATION_CODE.ext (O.keep Kq00 all0).2)
  obtain ⟨_, _, ⟨T25, L25, k25, n25⟩, -, X25, ⟨Lc25, hQ25, l25, y25, z25⟩, st25⟩ := X21.virtualBack hx (y := (⟨"java/lang/String", "equals", "(Ljava/lang/Object;)Z"⟩ : MethodName)) (z := (⟨"java/lang/String", "equals", "(Ljava/lang/Object;)Z"⟩ : MethodName)) hown (mvT hZ (hw _ (List.mem_of_getElem? (i := 58) rfl))) (mvT hZ (hw _ (List.mem_of_getElem? (i := 59) rfl))) (notFace_of_selects (args := #[]) (mvT hZ (hw _ (List.mem_of_getElem? (i := 61) rfl)))) (mvT hZ (hw _ (List.mem_of_getElem? (i := 61) rfl))) (mvT hZ (hw _ (List.mem_of_getElem? (i := 60) rfl))) (by decide) (backOf (W := 0) (rm10n l Z a0 hw [] sAUTHORIZATION_CODE T00.heap n0 Z00) hZ (hw _ (List.mem_of_getElem? (i := 62) rfl)) (hw _ (List.mem_of_getElem? (i := 3) rfl)) (by decide) (by decide)) q25a q25c (g := (mkF m 25 (own_ANRIIR r00 (2 : Int32) (0 : Int32) wAUTHORIZATION_CODE) [.null, (.ref sAUTHORIZATION_CODE)])) rfl (by rw [hml]; rfl) (Steps.refl _) (argsL := [.null]) (rest := []) (lenOf pd_8_1n rfl) rfl (by show 2 * 0 + _ ≤ _; exact Nat.le_of_eq rfl) (hb hby d8_25) (fun _ _ => ⟨rfl, e21, (by decide : 1 + 0 ≤ _), (by decide : 2 + 0 ≤ _)⟩)
  dsimp only [Pt.U, Pt.locs, Pt.cells, Pt.slots] at X25 l25 y25 z25 st25 hQ25
  subst l25 y25 z25
  obtain ⟨rfl, N25q, hq25⟩ := hQ25
  have N25 := Fr.app N00 N25q
  refine own_by (fun t k => st25.trans k) ?_
  have sg21_2 : ∀ t, own_S p e below T25 (mkF m 21 (own_ANRIIR r00 (2 : Int32) (1 : Int32) wCLIENT_CREDENTIALS) [(.ref wCLIENT_CREDENTIALS)]) t → own_S p e below T25 (mkF m 28 (own_ANRIIR r00 (2 : Int32) (0 : Int32) wAUTHORIZATION_CODE) [(.int (0 : Int32))]) t := by
    intro t k
    show own_S p e below T25 (mkF m 28 (own_ANRIIR r00 (2 : Int32) (0 : Int32) wAUTHORIZATION_CODE) [(.int (0 : Int32))]) _
    refine XS.ifYes X25.here hx rfl (pc0 := 28) (pc' := 34) rfl (hb hby d8_28) rfl ((if0 _ _).trans (teq (by decide : (0 : Int32) = (0 : Int32))).1) (by decide) (by decide) ?_
    show own_S p e below T25 (mkF m 34 (own_ANRIIR r00 (2 : Int32) (0 : Int32) wAUTHORIZATION_CODE) []) _
    refine XS.iinc X25.here hx rfl (hb hby d8_34) rfl (l' := (own_ANRIIR r00 (2 : Int32) (1 : Int32) wAUTHORIZATION_CODE)) rfl ?_
    show own_S p e below T25 (mkF m 37 (own_ANRIIR r00 (2 : Int32) (1 : Int32) wAUTHORIZATION_CODE) []) _
    refine XS.goto X25.here hx rfl (pc0 := 37) (pc' := 9) rfl (hb hby d8_37) (by decide) (by decide) ?_
    show own_S p e below T25 (mkF m 9 (own_ANRIIR r00 (2 : Int32) (1 : Int32) wAUTHORIZATION_CODE) []) _
    refine XS.iloadN X25.here hx rfl (hb hby d8_9) rfl ?_
    show own_S p e below T25 (mkF m 10 (own_ANRIIR r00 (2 : Int32) (1 : Int32) wAUTHORIZATION_CODE) [(.int (1 : Int32))]) _
    refine XS.iloadN X25.here hx rfl (hb hby d8_10) rfl ?_
    show own_S p e below T25 (mkF m 11 (own_ANRIIR r00 (2 : Int32) (1 : Int32) wAUTHORIZATION_CODE) [(.int (2 : Int32)), (.int (1 : Int32))]) _
    refine XS.icmpNo X25.here hx rfl (hb hby d8_11) rfl (tlt (by decide : (1 : Int32) < (2 : Int32))).2.1 ?_
    show own_S p e below T25 (mkF m 14 (own_ANRIIR r00 (2 : Int32) (1 : Int32) wAUTHORIZATION_CODE) []) _
    refine XS.aloadN X25.here hx rfl (hb hby d8_14) rfl rfl ?_
    show own_S p e below T25 (mkF m 15 (own_ANRIIR r00 (2 : Int32) (1 : Int32) wAUTHORIZATION_CODE) [(.ref r00)]) _
    refine XS.iloadN X25.here hx rfl (hb hby d8_15) rfl ?_
    show own_S p e below T25 (mkF m 16 (own_ANRIIR r00 (2 : Int32) (1 : Int32) wAUTHORIZATION_CODE) [(.int (1 : Int32)), (.ref r00)]) _
    refine X25.aaload hx (j := (1 : Int32)) (v := (.ref wCLIENT_CREDENTIALS)) (by rw [hq25]; exact Ar00.1) (State.isArrayOf_alike hZ.alike Ar00.2.1) rfl Ar00.2.2 (by rw [hsz]; decide) hat1 (g := (mkF m 16 (own_ANRIIR r00 (2 : Int32) (1 : Int32) wAUTHORIZATION_CODE) [(.int (1 : Int32)), (.ref r00)])) rfl rfl (hb hby d8_16) _ ?_
    show own_S p e below T25 (mkF m 17 (own_ANRIIR r00 (2 : Int32) (1 : Int32) wAUTHORIZATION_CODE) [(.ref wCLIENT_CREDENTIALS)]) _
    refine XS.astore X25.here hx rfl (hb hby d8_17) rfl rfl (l' := (own_ANRIIR r00 (2 : Int32) (1 : Int32) wCLIENT_CREDENTIALS)) rfl ?_
    show own_S p e below T25 (mkF m 19 (own_ANRIIR r00 (2 : Int32) (1 : Int32) wCLIENT_CREDENTIALS) []) _
    refine XS.aload X25.here hx rfl (hb hby d8_19) rfl rfl ?_
    exact k
  refine own_by sg21_2 ?_
  obtain ⟨T21_2, X21_2, e21_2, st21_2⟩ := getF X25 hx hZ hown (host := "") (Or.inl (hw _ (List.mem_of_getElem? (i := 56) rfl))) Via.refl hq25 (FV_CLIENT_CREDENTIALS.ext (O.keep Kq00 all0).2) (g := (mkF m 21 (own_ANRIIR r00 (2 : Int32) (1 : Int32) wCLIENT_CREDENTIALS) [(.ref wCLIENT_CREDENTIALS)])) rfl rfl (hb hby d8_21)
  refine own_by st21_2 ?_
  have sg25_2 : ∀ t, own_S p e below T21_2 (mkF m 25 (own_ANRIIR r00 (2 : Int32) (1 : Int32) wCLIENT_CREDENTIALS) [.null, (.ref sCLIENT_CREDENTIALS)]) t → own_S p e below T21_2 (mkF m 24 (own_ANRIIR r00 (2 : Int32) (1 : Int32) wCLIENT_CREDENTIALS) [(.ref sCLIENT_CREDENTIALS)]) t := by
    intro t k
    show own_S p e below T21_2 (mkF m 24 (own_ANRIIR r00 (2 : Int32) (1 : Int32) wCLIENT_CREDENTIALS) [(.ref sCLIENT_CREDENTIALS)]) _
    refine XS.aloadN X21_2.here hx rfl (hb hby d8_24) rfl rfl ?_
    exact k
  refine own_by sg25_2 ?_
  obtain ⟨cq25_2, kq25_2, q25_2a, q25_2b, q25_2c⟩ := isOf hZ e21_2 (EX_CLIENT_CREDENTIALS.ext (O.keep Kq00 all0).2)
  obtain ⟨_, _, ⟨T25_2, L25_2, k25_2, n25_2⟩, -, X25_2, ⟨Lc25_2, hQ25_2, l25_2, y25_2, z25_2⟩, st25_2⟩ := X21_2.virtualBack hx (y := (⟨"java/lang/String", "equals", "(Ljava/lang/Object;)Z"⟩ : MethodName)) (z := (⟨"java/lang/String", "equals", "(Ljava/lang/Object;)Z"⟩ : MethodName)) hown (mvT hZ (hw _ (List.mem_of_getElem? (i := 58) rfl))) (mvT hZ (hw _ (List.mem_of_getElem? (i := 59) rfl))) (notFace_of_selects (args := #[]) (mvT hZ (hw _ (List.mem_of_getElem? (i := 61) rfl)))) (mvT hZ (hw _ (List.mem_of_getElem? (i := 61) rfl))) (mvT hZ (hw _ (List.mem_of_getElem? (i := 60) rfl))) (by decide) (backOf (W := 0) (rm10n l Z a0 hw [] sCLIENT_CREDENTIALS T00.heap n0 Z00) hZ (hw _ (List.mem_of_getElem? (i := 62) rfl)) (hw _ (List.mem_of_getElem? (i := 3) rfl)) (by decide) (by decide)) q25_2a q25_2c (g := (mkF m 25 (own_ANRIIR r00 (2 : Int32) (1 : Int32) wCLIENT_CREDENTIALS) [.null, (.ref sCLIENT_CREDENTIALS)])) rfl (by rw [hml]; rfl) (Steps.refl _) (argsL := [.null]) (rest := []) (lenOf pd_8_1n rfl) rfl (by show 2 * 0 + _ ≤ _; exact Nat.le_of_eq rfl) (hb hby d8_25) (fun _ _ => ⟨rfl, e21_2, (by decide : 1 + 0 ≤ _), (by decide : 2 + 0 ≤ _)⟩)
  dsimp only [Pt.U, Pt.locs, Pt.cells, Pt.slots] at X25_2 l25_2 y25_2 z25_2 st25_2 hQ25_2
  subst l25_2 y25_2 z25_2
  obtain ⟨rfl, N25_2q, hq25_2⟩ := hQ25_2
  have N25_2 := Fr.app N25 N25_2q
  refine own_by (fun t k => st25_2.trans k) ?_
  have sg41 : ∀ t, own_S p e below T25_2 (mkF m 41 (own_ANRIIR r00 (2 : Int32) (2 : Int32) wCLIENT_CREDENTIALS) [.null]) t → own_S p e below T25_2 (mkF m 28 (own_ANRIIR r00 (2 : Int32) (1 : Int32) wCLIENT_CREDENTIALS) [(.int (0 : Int32))]) t := by
    intro t k
    show own_S p e below T25_2 (mkF m 28 (own_ANRIIR r00 (2 : Int32) (1 : Int32) wCLIENT_CREDENTIALS) [(.int (0 : Int32))]) _
    refine XS.ifYes X25_2.here hx rfl (pc0 := 28) (pc' := 34) rfl (hb hby d8_28) rfl ((if0 _ _).trans (teq (by decide : (0 : Int32) = (0 : Int32))).1) (by decide) (by decide) ?_
    show own_S p e below T25_2 (mkF m 34 (own_ANRIIR r00 (2 : Int32) (1 : Int32) wCLIENT_CREDENTIALS) []) _
    refine XS.iinc X25_2.here hx rfl (hb hby d8_34) rfl (l' := (own_ANRIIR r00 (2 : Int32) (2 : Int32) wCLIENT_CREDENTIALS)) rfl ?_
    show own_S p e below T25_2 (mkF m 37 (own_ANRIIR r00 (2 : Int32) (2 : Int32) wCLIENT_CREDENTIALS) []) _
    refine XS.goto X25_2.here hx rfl (pc0 := 37) (pc' := 9) rfl (hb hby d8_37) (by decide) (by decide) ?_
    show own_S p e below T25_2 (mkF m 9 (own_ANRIIR r00 (2 : Int32) (2 : Int32) wCLIENT_CREDENTIALS) []) _
    refine XS.iloadN X25_2.here hx rfl (hb hby d8_9) rfl ?_
    show own_S p e below T25_2 (mkF m 10 (own_ANRIIR r00 (2 : Int32) (2 : Int32) wCLIENT_CREDENTIALS) [(.int (2 : Int32))]) _
    refine XS.iloadN X25_2.here hx rfl (hb hby d8_10) rfl ?_
    show own_S p e below T25_2 (mkF m 11 (own_ANRIIR r00 (2 : Int32) (2 : Int32) wCLIENT_CREDENTIALS) [(.int (2 : Int32)), (.int (2 : Int32))]) _
    refine XS.icmpYes X25_2.here hx rfl (pc0 := 11) (pc' := 40) rfl (hb hby d8_11) rfl (flt (by decide : ¬ ((2 : Int32) < (2 : Int32)))).2.1 (by decide) (by decide) ?_
    show own_S p e below T25_2 (mkF m 40 (own_ANRIIR r00 (2 : Int32) (2 : Int32) wCLIENT_CREDENTIALS) []) _
    refine XS.aconstNull X25_2.here hx rfl (hb hby d8_40) ?_
    exact k
  refine own_by sg41 ?_
  obtain ⟨fs, hr, hrun, hended, hW, hsame⟩ := X25_2.leave (v := some .null) (fun h => by rw [Bd.returns] at h; cases h)
  refine ⟨_, _, ?_, hrun, hended, _, _, rfl, ?_, ⟨_, rfl⟩, hW, hsame.mono (by decide) (by decide)⟩
  · show Steps p.tables e below (T25_2.setTop (mkF m 41 (own_ANRIIR r00 (2 : Int32) (2 : Int32) wCLIENT_CREDENTIALS) [.null])) _
    jvm_step X25_2.here [X25_2.here.top, hx, (hb hby d8_41), X25_2.method', Bd.returns, Value.isRef, FieldType.isReference]
    first | (intro acts; rw [hr _ acts rfl rfl rfl]) | rw [hr _ _ rfl rfl rfl]
    exact Steps.refl _
  · show Q8n Z wV cl wAUTHORIZATION_CODE wCLIENT_CREDENTIALS sAUTHORIZATION_CODE sCLIENT_CREDENTIALS gz h0 n0 _ T25_2.heap _
    rw [hq25_2]
    exact ⟨rfl, N25_2, K00⟩
theorem d1_0 : decode method_3_code 0 = .ok (.iload_n 0, 1) := by decide +kernel
theorem d1_1 : decode method_3_code 1 = .ok (.ifCond .ne 110, 3) := by decide +kernel
theorem d1_4 : decode method_3_code 4 = .ok (.bipush 18, 2) := by decide +kernel
theorem d1_6 : decode method_3_code 6 = .ok (.newarray .char, 2) := by decide +kernel
theorem d1_8 : decode method_3_code 8 = .ok (.dup, 1) := by decide +kernel
theorem d1_9 : decode method_3_code 9 = .ok (.iconst 0, 1) := by decide +kernel
theorem d1_10 : decode method_3_code 10 = .ok (.bipush 97, 2) := by decide +kernel
theorem d1_12 : decode method_3_code 12 = .ok (.castore, 1) := by decide +kernel
theorem d1_13 : decode method_3_code 13 = .ok (.dup, 1) := by decide +kernel
theorem d1_14 : decode method_3_code 14 = .ok (.iconst 1, 1) := by decide +kernel
theorem d1_15 : decode method_3_code 15 = .ok (.bipush 117, 2) := by decide +kernel
theorem d1_17 : decode method_3_code 17 = .ok (.castore, 1) := by decide +kernel
theorem d1_18 : decode method_3_code 18 = .ok (.dup, 1) := by decide +kernel
theorem d1_19 : decode method_3_code 19 = .ok (.iconst 2, 1) := by decide +kernel
theorem d1_20 : decode method_3_code 20 = .ok (.bipush 116, 2) := by decide +kernel
theorem d1_22 : decode method_3_code 22 = .ok (.castore, 1) := by decide +kernel
theorem d1_23 : decode method_3_code 23 = .ok (.dup, 1) := by decide +kernel
theorem d1_24 : decode method_3_code 24 = .ok (.iconst 3, 1) := by decide +kernel
theorem d1_25 : decode method_3_code 25 = .ok (.bipush 104, 2) := by decide +kernel
theorem d1_27 : decode method_3_code 27 = .ok (.castore, 1) := by decide +kernel
theorem d1_28 : decode method_3_code 28 = .ok (.dup, 1) := by decide +kernel
theorem d1_29 : decode method_3_code 29 = .ok (.iconst 4, 1) := by decide +kernel
theorem d1_30 : decode method_3_code 30 = .ok (.bipush 111, 2) := by decide +kernel
theorem d1_32 : decode method_3_code 32 = .ok (.castore, 1) := by decide +kernel
theorem d1_33 : decode method_3_code 33 = .ok (.dup, 1) := by decide +kernel
theorem d1_34 : decode method_3_code 34 = .ok (.iconst 5, 1) := by decide +kernel
theorem d1_35 : decode method_3_code 35 = .ok (.bipush 114, 2) := by decide +kernel
theorem d1_37 : decode method_3_code 37 = .ok (.castore, 1) := by decide +kernel
theorem d1_38 : decode method_3_code 38 = .ok (.dup, 1) := by decide +kernel
theorem d1_39 : decode method_3_code 39 = .ok (.bipush 6, 2) := by decide +kernel
theorem d1_41 : decode method_3_code 41 = .ok (.bipush 105, 2) := by decide +kernel
theorem d1_43 : decode method_3_code 43 = .ok (.castore, 1) := by decide +kernel
theorem d1_44 : decode method_3_code 44 = .ok (.dup, 1) := by decide +kernel
theorem d1_45 : decode method_3_code 45 = .ok (.bipush 7, 2) := by decide +kernel
theorem d1_47 : decode method_3_code 47 = .ok (.bipush 122, 2) := by decide +kernel
theorem d1_49 : decode method_3_code 49 = .ok (.castore, 1) := by decide +kernel
theorem d1_50 : decode method_3_code 50 = .ok (.dup, 1) := by decide +kernel
theorem d1_51 : decode method_3_code 51 = .ok (.bipush 8, 2) := by decide +kernel
theorem d1_53 : decode method_3_code 53 = .ok (.bipush 97, 2) := by decide +kernel
theorem d1_55 : decode method_3_code 55 = .ok (.castore, 1) := by decide +kernel
theorem d1_56 : decode method_3_code 56 = .ok (.dup, 1) := by decide +kernel
theorem d1_57 : decode method_3_code 57 = .ok (.bipush 9, 2) := by decide +kernel
theorem d1_59 : decode method_3_code 59 = .ok (.bipush 116, 2) := by decide +kernel
theorem d1_61 : decode method_3_code 61 = .ok (.castore, 1) := by decide +kernel
theorem d1_62 : decode method_3_code 62 = .ok (.dup, 1) := by decide +kernel
theorem d1_63 : decode method_3_code 63 = .ok (.bipush 10, 2) := by decide +kernel
theorem d1_65 : decode method_3_code 65 = .ok (.bipush 105, 2) := by decide +kernel
theorem d1_67 : decode method_3_code 67 = .ok (.castore, 1) := by decide +kernel
theorem d1_68 : decode method_3_code 68 = .ok (.dup, 1) := by decide +kernel
theorem d1_69 : decode method_3_code 69 = .ok (.bipush 11, 2) := by decide +kernel
theorem d1_71 : decode method_3_code 71 = .ok (.bipush 111, 2) := by decide +kernel
theorem d1_73 : decode method_3_code 73 = .ok (.castore, 1) := by decide +kernel
theorem d1_74 : decode method_3_code 74 = .ok (.dup, 1) := by decide +kernel
theorem d1_75 : decode method_3_code 75 = .ok (.bipush 12, 2) := by decide +kernel
theorem d1_77 : decode method_3_code 77 = .ok (.bipush 110, 2) := by decide +kernel
theorem d1_79 : decode method_3_code 79 = .ok (.castore, 1) := by decide +kernel
theorem d1_80 : decode method_3_code 80 = .ok (.dup, 1) := by decide +kernel
theorem d1_81 : decode method_3_code 81 = .ok (.bipush 13, 2) := by decide +kernel
theorem d1_83 : decode method_3_code 83 = .ok (.bipush 95, 2) := by decide +kernel
theorem d1_85 : decode method_3_code 85 = .ok (.castore, 1) := by decide +kernel
theorem d1_86 : decode method_3_code 86 = .ok (.dup, 1) := by decide +kernel
theorem d1_87 : decode method_3_code 87 = .ok (.bipush 14, 2) := by decide +kernel
theorem d1_89 : decode method_3_code 89 = .ok (.bipush 99, 2) := by decide +kernel
theorem d1_91 : decode method_3_code 91 = .ok (.castore, 1) := by decide +kernel
theorem d1_92 : decode method_3_code 92 = .ok (.dup, 1) := by decide +kernel
theorem d1_93 : decode method_3_code 93 = .ok (.bipush 15, 2) := by decide +kernel
theorem d1_95 : decode method_3_code 95 = .ok (.bipush 111, 2) := by decide +kernel
theorem d1_97 : decode method_3_code 97 = .ok (.castore, 1) := by decide +kernel
theorem d1_98 : decode method_3_code 98 = .ok (.dup, 1) := by decide +kernel
theorem d1_99 : decode method_3_code 99 = .ok (.bipush 16, 2) := by decide +kernel
theorem d1_101 : decode method_3_code 101 = .ok (.bipush 100, 2) := by decide +kernel
theorem d1_103 : decode method_3_code 103 = .ok (.castore, 1) := by decide +kernel
theorem d1_104 : decode method_3_code 104 = .ok (.dup, 1) := by decide +kernel
theorem d1_105 : decode method_3_code 105 = .ok (.bipush 17, 2) := by decide +kernel
theorem d1_107 : decode method_3_code 107 = .ok (.bipush 101, 2) := by decide +kernel
theorem d1_109 : decode method_3_code 109 = .ok (.castore, 1) := by decide +kernel
theorem d1_110 : decode method_3_code 110 = .ok (.areturn, 1) := by decide +kernel
theorem d1_111 : decode method_3_code 111 = .ok (.bipush 18, 2) := by decide +kernel
theorem d1_113 : decode method_3_code 113 = .ok (.newarray .char, 2) := by decide +kernel
theorem d1_115 : decode method_3_code 115 = .ok (.dup, 1) := by decide +kernel
theorem d1_116 : decode method_3_code 116 = .ok (.iconst 0, 1) := by decide +kernel
theorem d1_117 : decode method_3_code 117 = .ok (.bipush 99, 2) := by decide +kernel
theorem d1_119 : decode method_3_code 119 = .ok (.castore, 1) := by decide +kernel
theorem d1_120 : decode method_3_code 120 = .ok (.dup, 1) := by decide +kernel
theorem d1_121 : decode method_3_code 121 = .ok (.iconst 1, 1) := by decide +kernel
theorem d1_122 : decode method_3_code 122 = .ok (.bipush 108, 2) := by decide +kernel
theorem d1_124 : decode method_3_code 124 = .ok (.castore, 1) := by decide +kernel
theorem d1_125 : decode method_3_code 125 = .ok (.dup, 1) := by decide +kernel
theorem d1_126 : decode method_3_code 126 = .ok (.iconst 2, 1) := by decide +kernel
theorem d1_127 : decode method_3_code 127 = .ok (.bipush 105, 2) := by decide +kernel
theorem d1_129 : decode method_3_code 129 = .ok (.castore, 1) := by decide +kernel
theorem d1_130 : decode method_3_code 130 = .ok (.dup, 1) := by decide +kernel
theorem d1_131 : decode method_3_code 131 = .ok (.iconst 3, 1) := by decide +kernel
theorem d1_132 : decode method_3_code 132 = .ok (.bipush 101, 2) := by decide +kernel
theorem d1_134 : decode method_3_code 134 = .ok (.castore, 1) := by decide +kernel
theorem d1_135 : decode method_3_code 135 = .ok (.dup, 1) := by decide +kernel
theorem d1_136 : decode method_3_code 136 = .ok (.iconst 4, 1) := by decide +kernel
theorem d1_137 : decode method_3_code 137 = .ok (.bipush 110, 2) := by decide +kernel
theorem d1_139 : decode method_3_code 139 = .ok (.castore, 1) := by decide +kernel
theorem d1_140 : decode method_3_code 140 = .ok (.dup, 1) := by decide +kernel
theorem d1_141 : decode method_3_code 141 = .ok (.iconst 5, 1) := by decide +kernel
theorem d1_142 : decode method_3_code 142 = .ok (.bipush 116, 2) := by decide +kernel
theorem d1_144 : decode method_3_code 144 = .ok (.castore, 1) := by decide +kernel
theorem d1_145 : decode method_3_code 145 = .ok (.dup, 1) := by decide +kernel
theorem d1_146 : decode method_3_code 146 = .ok (.bipush 6, 2) := by decide +kernel
theorem d1_148 : decode method_3_code 148 = .ok (.bipush 95, 2) := by decide +kernel
theorem d1_150 : decode method_3_code 150 = .ok (.castore, 1) := by decide +kernel
theorem d1_151 : decode method_3_code 151 = .ok (.dup, 1) := by decide +kernel
theorem d1_152 : decode method_3_code 152 = .ok (.bipush 7, 2) := by decide +kernel
theorem d1_154 : decode method_3_code 154 = .ok (.bipush 99, 2) := by decide +kernel
theorem d1_156 : decode method_3_code 156 = .ok (.castore, 1) := by decide +kernel
theorem d1_157 : decode method_3_code 157 = .ok (.dup, 1) := by decide +kernel
theorem d1_158 : decode method_3_code 158 = .ok (.bipush 8, 2) := by decide +kernel
theorem d1_160 : decode method_3_code 160 = .ok (.bipush 114, 2) := by decide +kernel
theorem d1_162 : decode method_3_code 162 = .ok (.castore, 1) := by decide +kernel
theorem d1_163 : decode method_3_code 163 = .ok (.dup, 1) := by decide +kernel
theorem d1_164 : decode method_3_code 164 = .ok (.bipush 9, 2) := by decide +kernel
theorem d1_166 : decode method_3_code 166 = .ok (.bipush 101, 2) := by decide +kernel
theorem d1_168 : decode method_3_code 168 = .ok (.castore, 1) := by decide +kernel
theorem d1_169 : decode method_3_code 169 = .ok (.dup, 1) := by decide +kernel
theorem d1_170 : decode method_3_code 170 = .ok (.bipush 10, 2) := by decide +kernel
theorem d1_172 : decode method_3_code 172 = .ok (.bipush 100, 2) := by decide +kernel
theorem d1_174 : decode method_3_code 174 = .ok (.castore, 1) := by decide +kernel
theorem d1_175 : decode method_3_code 175 = .ok (.dup, 1) := by decide +kernel
theorem d1_176 : decode method_3_code 176 = .ok (.bipush 11, 2) := by decide +kernel
theorem d1_178 : decode method_3_code 178 = .ok (.bipush 101, 2) := by decide +kernel
theorem d1_180 : decode method_3_code 180 = .ok (.castore, 1) := by decide +kernel
theorem d1_181 : decode method_3_code 181 = .ok (.dup, 1) := by decide +kernel
theorem d1_182 : decode method_3_code 182 = .ok (.bipush 12, 2) := by decide +kernel
theorem d1_184 : decode method_3_code 184 = .ok (.bipush 110, 2) := by decide +kernel
theorem d1_186 : decode method_3_code 186 = .ok (.castore, 1) := by decide +kernel
theorem d1_187 : decode method_3_code 187 = .ok (.dup, 1) := by decide +kernel
theorem d1_188 : decode method_3_code 188 = .ok (.bipush 13, 2) := by decide +kernel
theorem d1_190 : decode method_3_code 190 = .ok (.bipush 116, 2) := by decide +kernel
theorem d1_192 : decode method_3_code 192 = .ok (.castore, 1) := by decide +kernel
theorem d1_193 : decode method_3_code 193 = .ok (.dup, 1) := by decide +kernel
theorem d1_194 : decode method_3_code 194 = .ok (.bipush 14, 2) := by decide +kernel
theorem d1_196 : decode method_3_code 196 = .ok (.bipush 105, 2) := by decide +kernel
theorem d1_198 : decode method_3_code 198 = .ok (.castore, 1) := by decide +kernel
theorem d1_199 : decode method_3_code 199 = .ok (.dup, 1) := by decide +kernel
theorem d1_200 : decode method_3_code 200 = .ok (.bipush 15, 2) := by decide +kernel
theorem d1_202 : decode method_3_code 202 = .ok (.bipush 97, 2) := by decide +kernel
theorem d1_204 : decode method_3_code 204 = .ok (.castore, 1) := by decide +kernel
theorem d1_205 : decode method_3_code 205 = .ok (.dup, 1) := by decide +kernel
theorem d1_206 : decode method_3_code 206 = .ok (.bipush 16, 2) := by decide +kernel
theorem d1_208 : decode method_3_code 208 = .ok (.bipush 108, 2) := by decide +kernel
theorem d1_210 : decode method_3_code 210 = .ok (.castore, 1) := by decide +kernel
theorem d1_211 : decode method_3_code 211 = .ok (.dup, 1) := by decide +kernel
theorem d1_212 : decode method_3_code 212 = .ok (.bipush 17, 2) := by decide +kernel
theorem d1_214 : decode method_3_code 214 = .ok (.bipush 115, 2) := by decide +kernel
theorem d1_216 : decode method_3_code 216 = .ok (.castore, 1) := by decide +kernel
theorem d1_217 : decode method_3_code 217 = .ok (.areturn, 1) := by decide +kernel
theorem pn_1 : plainFor (⟨"com/example/writd/writd/model/GrantTypeFromValuePinLaw", "name18", "(I)[C"⟩ : MethodName) = true := by first | exact plainFor_of_name (by first | (simp [plainName, overriddenIn]; done) | decide +kernel) | decide +kernel | exact Jvm.Free.JP.mathPlain rfl (by decide +kernel)
theorem ef_1 (m : MethodId) (p0 : Int32) : entryFrame m #[(.int p0)] 1 = mkF m 0 #[.val (.int p0)] [] := by first | (simp [entryFrame, mkF, argsToLocals, Value.category]; done) | rfl
def Q1 (Z : State) (p0 : Int32) (h0 : Heap) (n0 : Nat) (v : Option Value) (h : Heap) (L : List Loc) : Prop := ∃ r kc, v = some (.ref r) ∧ h0.size ≤ r ∧ Fr n0 L ∧ Keep h0 h [] ∧ Arv Z h r kc .char (Int32.ofNat (own_n18 p0).length) ((own_n18 p0).map Value.int) (.int 0)
set_option maxRecDepth 65536 in
set_option maxHeartbeats 40000000 in
theorem rm1 (l : Launch) (Z : State) (a0 : Array Value) (hw : ∀ d ∈ tables_1, d.before a0 Z = true) (ws : List Jvm.Cond) (p0 : Int32) (h0 : Heap) (n0 : Nat) (Z0 : n0 ≤ h0.size) :
    MetFree l (⟨"com/example/writd/writd/model/GrantTypeFromValuePinLaw", "name18", "(I)[C"⟩ : MethodName) (head1 (Jvm.Cond.code (⟨"com/example/writd/writd/model/GrantTypeFromValuePinLaw", "name18", "(I)[C"⟩ : MethodName) method_3_code 1 (some (.array .char)) :: ws) ({ frames := 0, cells := 1, slots := 18, locals := 0 } : Room)) (fun a U => a = #[(.int p0)] ∧ Z.Warmed39 U.vm ∧ U.heap = h0) (fun _ _ _ _ _ => True) (fun _ U o U' => ∃ v L, o = .returned v ∧ Q1 Z p0 h0 n0 v U'.heap L ∧ FrameEnd U o U' L ({ frames := 0, cells := 1, slots := 18, locals := 0 } : Room).cells ({ frames := 0, cells := 1, slots := 18, locals := 0 } : Room).slots) := by
  refine MetFree.of_bodySF pn_1 hisR ?_
  intro p e s m args below meth c s₁ Bd hml0 hP hK
  obtain ⟨rfl, hZ, hh⟩ := hP
  have hx := Bd.exec
  have hby := Bd.bytes
  have hml : c.maxLocals = 1 := hml0
  have hown : s.vm.findClass "com/example/writd/writd/model/GrantTypeFromValuePinLaw" = some m.cls := findClass_of_methodNamed Bd.named
  have hnm := (name_of_methodNamed Bd.named Bd.method).1
  have X0 : Stand p l e ({ frames := 0, cells := 1, slots := 18, locals := 0 } : Room) s m #[(.int p0)] below meth c s₁ [] 0 0 := Stand.of_body Bd
  have e0 : s₁.heap = h0 := by rw [← hh, Bd.state]; rfl
  have N0 := Fr.nil n0
  refine own_at (castTop (ef_1 m p0)) ?_
  have K0 := Keep.refl h0 []
  have sg1 : ∀ t, own_S p e below s₁ (mkF m 1 #[.val (.int p0)] [(.int p0)]) t → own_S p e below s₁ (mkF m 0 #[.val (.int p0)] []) t := by
    intro t k
    show own_S p e below s₁ (mkF m 0 #[.val (.int p0)] []) _
    refine XS.iloadN X0.here hx rfl (hb hby d1_0) rfl ?_
    exact k
  refine own_by sg1 ?_
  by_cases hc1 : p0 = (0 : Int32)
  · have sg6 : ∀ t, own_S p e below s₁ (mkF m 6 #[.val (.int p0)] [(.int (18 : Int32))]) t → own_S p e below s₁ (mkF m 1 #[.val (.int p0)] [(.int p0)]) t := by
      intro t k
      show own_S p e below s₁ (mkF m 1 #[.val (.int p0)] [(.int p0)]) _
      refine XS.ifNo X0.here hx rfl (hb hby d1_1) rfl ((if0 _ _).trans (teq hc1).2) ?_
      show own_S p e below s₁ (mkF m 4 #[.val (.int p0)] []) _
      refine XS.bipush X0.here hx rfl (hb hby d1_4) ?_
      exact k
    refine own_by sg6 ?_
    obtain ⟨T6, h6, kc6, X6, e6, E6, A6, st6⟩ := newP X0 hx hZ (hw _ (List.mem_of_getElem? (i := 8) rfl)) e0 (g := (mkF m 6 #[.val (.int p0)] [(.int (18 : Int32))])) rfl (hb hby d1_6) rfl (by decide) (cap := 18) (by decide) (by decide) (by decide) (by decide)
    obtain ⟨b6, g6⟩ : ∃ z, z = h0.size := ⟨_, rfl⟩
    rw [← g6] at A6 st6
    have g_b6 : n0 ≤ b6 := Nat.le_trans Z0 (Nat.le_of_eq g6.symm)
    have sz_b6 : h0.size ≤ b6 := Nat.le_trans K0.1 (Nat.le_of_eq g6.symm)
    have K6 := K0.ext E6
    have Z6 : n0 ≤ h6.size := Nat.le_trans Z0 E6.1
    have V6 : Arv Z h6 b6 kc6 .char (18 : Int32) [(.int (0 : Int32)), (.int (0 : Int32)), (.int (0 : Int32)), (.int (0 : Int32)), (.int (0 : Int32)), (.int (0 : Int32)), (.int (0 : Int32)), (.int (0 : Int32)), (.int (0 : Int32)), (.int (0 : Int32)), (.int (0 : Int32)), (.int (0 : Int32)), (.int (0 : Int32)), (.int (0 : Int32)), (.int (0 : Int32)), (.int (0 : Int32)), (.int (0 : Int32)), (.int (0 : Int32))] (.int (0 : Int32)) := (Arv.new A6 (by decide)).pad (pad_rep [] (.int (0 : Int32)) 18)
    refine own_by st6 ?_
    have sg12 : ∀ t, own_S p e below T6 (mkF m 12 #[.val (.int p0)] [(.int (97 : Int32)), (.int (0 : Int32)), (.ref b6), (.ref b6)]) t → own_S p e below T6 (mkF m 8 #[.val (.int p0)] [(.ref b6)]) t := by
      intro t k
      show own_S p e below T6 (mkF m 8 #[.val (.int p0)] [(.ref b6)]) _
      refine XS.dup X6.here hx rfl (hb hby d1_8) rfl rfl ?_
      show own_S p e below T6 (mkF m 9 #[.val (.int p0)] [(.ref b6), (.ref b6)]) _
      refine XS.iconst X6.here hx rfl (hb hby d1_9) ?_
      show own_S p e below T6 (mkF m 10 #[.val (.int p0)] [(.int (0 : Int32)), (.ref b6), (.ref b6)]) _
      refine XS.bipush X6.here hx rfl (hb hby d1_10) ?_
      exact k
    refine own_by sg12 ?_
    obtain ⟨cl12, Ar12, qa12, Sa12, Na12, Ha12, Ga12⟩ := id V6
    obtain ⟨T12, h12, X12, e12, W12, st12⟩ := stC X6 hx hZ e6 Ar12 (j := (0 : Int32)) (inb_of Sa12 ⟨by decide, by decide⟩) (g := (mkF m 12 #[.val (.int p0)] [(.int (97 : Int32)), (.int (0 : Int32)), (.ref b6), (.ref b6)])) rfl rfl (hb hby d1_12)
    have V12 : Arv Z h12 b6 kc6 .char (18 : Int32) [(.int (97 : Int32)), (.int (0 : Int32)), (.int (0 : Int32)), (.int (0 : Int32)), (.int (0 : Int32)), (.int (0 : Int32)), (.int (0 : Int32)), (.int (0 : Int32)), (.int (0 : Int32)), (.int (0 : Int32)), (.int (0 : Int32)), (.int (0 : Int32)), (.int (0 : Int32)), (.int (0 : Int32)), (.int (0 : Int32)), (.int (0 : Int32)), (.int (0 : Int32)), (.int (0 : Int32))] (.int (0 : Int32)) := by
      have q := Arv.set Ar12 qa12 Sa12 Na12 Ha12 Ga12 (fits_nar_char _) W12 0 rfl (Nat.le_of_ble_eq_true rfl)
      exact q
    have K12 : Keep h0 h12 [] := K6.wr W12 (Or.inr sz_b6)
    have Z12 : n0 ≤ h12.size := Nat.le_trans Z6 (Keep.of_wr W12).1
    have N12 := Fr.snoc X12 N0 g_b6
    refine own_by st12 ?_
    have sg17 : ∀ t, own_S p e below T12 (mkF m 17 #[.val (.int p0)] [(.int (117 : Int32)), (.int (1 : Int32)), (.ref b6), (.ref b6)]) t → own_S p e below T12 (mkF m 13 #[.val (.int p0)] [(.ref b6)]) t := by
      intro t k
      show own_S p e below T12 (mkF m 13 #[.val (.int p0)] [(.ref b6)]) _
      refine XS.dup X12.here hx rfl (hb hby d1_13) rfl rfl ?_
      show own_S p e below T12 (mkF m 14 #[.val (.int p0)] [(.ref b6), (.ref b6)]) _
      refine XS.iconst X12.here hx rfl (hb hby d1_14) ?_
      show own_S p e below T12 (mkF m 15 #[.val (.int p0)] [(.int (1 : Int32)), (.ref b6), (.ref b6)]) _
      refine XS.bipush X12.here hx rfl (hb hby d1_15) ?_
      exact k
    refine own_by sg17 ?_
    obtain ⟨cl17, Ar17, qa17, Sa17, Na17, Ha17, Ga17⟩ := id V12
    obtain ⟨T17, h17, X17, e17, W17, st17⟩ := stC X12 hx hZ e12 Ar17 (j := (1 : Int32)) (inb_of Sa17 ⟨by decide, by decide⟩) (g := (mkF m 17 #[.val (.int p0)] [(.int (117 : Int32)), (.int (1 : Int32)), (.ref b6), (.ref b6)])) rfl rfl (hb hby d1_17)
    have V17 : Arv Z h17 b6 kc6 .char (18 : Int32) [(.int (97 : Int32)), (.int (117 : Int32)), (.int (0 : Int32)), (.int (0 : Int32)), (.int (0 : Int32)), (.int (0 : Int32)), (.int (0 : Int32)), (.int (0 : Int32)), (.int (0 : Int32)), (.int (0 : Int32)), (.int (0 : Int32)), (.int (0 : Int32)), (.int (0 : Int32)), (.int (0 : Int32)), (.int (0 : Int32)), (.int (0 : Int32)), (.int (0 : Int32)), (.int (0 : Int32))] (.int (0 : Int32)) := by
      have q := Arv.set Ar17 qa17 Sa17 Na17 Ha17 Ga17 (fits_nar_char _) W17 1 rfl (Nat.le_of_ble_eq_true rfl)
      exact q
    have K17 : Keep h0 h17 [] := K12.wr W17 (Or.inr sz_b6)
    have Z17 : n0 ≤ h17.size := Nat.le_trans Z12 (Keep.of_wr W17).1
    have N17 := Fr.snoc X17 N12 g_b6
    refine own_by st17 ?_
    have sg22 : ∀ t, own_S p e below T17 (mkF m 22 #[.val (.int p0)] [(.int (116 : Int32)), (.int (2 : Int32)), (.ref b6), (.ref b6)]) t → own_S p e below T17 (mkF m 18 #[.val (.int p0)] [(.ref b6)]) t := by
      intro t k
      show own_S p e below T17 (mkF m 18 #[.val (.int p0)] [(.ref b6)]) _
      refine XS.dup X17.here hx rfl (hb hby d1_18) rfl rfl ?_
      show own_S p e below T17 (mkF m 19 #[.val (.int p0)] [(.ref b6), (.ref b6)]) _
      refine XS.iconst X17.here hx rfl (hb hby d1_19) ?_
      show own_S p e below T17 (mkF m 20 #[.val (.int p0)] [(.int (2 : Int32)), (.ref b6), (.ref b6)]) _
      refine XS.bipush X17.here hx rfl (hb hby d1_20) ?_
      exact k
    refine own_by sg22 ?_
    obtain ⟨cl22, Ar22, qa22, Sa22, Na22, Ha22, Ga22⟩ := id V17
    obtain ⟨T22, h22, X22, e22, W22, st22⟩ := stC X17 hx hZ e17 Ar22 (j := (2 : Int32)) (inb_of Sa22 ⟨by decide, by decide⟩) (g := (mkF m 22 #[.val (.int p0)] [(.int (116 : Int32)), (.int (2 : Int32)), (.ref b6), (.ref b6)])) rfl rfl (hb hby d1_22)
    have V22 : Arv Z h22 b6 kc6 .char (18 : Int32) [(.int (97 : Int32)), (.int (117 : Int32)), (.int (116 : Int32)), (.int (0 : Int32)), (.int (0 : Int32)), (.int (0 : Int32)), (.int (0 : Int32)), (.int (0 : Int32)), (.int (0 : Int32)), (.int (0 : Int32)), (.int (0 : Int32)), (.int (0 : Int32)), (.int (0 : Int32)), (.int (0 : Int32)), (.int (0 : Int32)), (.int (0 : Int32)), (.int (0 : Int32)), (.int (0 : Int32))] (.int (0 : Int32)) := by
      have q := Arv.set Ar22 qa22 Sa22 Na22 Ha22 Ga22 (fits_nar_char _) W22 2 rfl (Nat.le_of_ble_eq_true rfl)
      exact q
    have K22 : Keep h0 h22 [] := K17.wr W22 (Or.inr sz_b6)
    have Z22 : n0 ≤ h22.size := Nat.le_trans Z17 (Keep.of_wr W22).1
    have N22 := Fr.snoc X22 N17 g_b6
    refine own_by st22 ?_
    have sg27 : ∀ t, own_S p e below T22 (mkF m 27 #[.val (.int p0)] [(.int (104 : Int32)), (.int (3 : Int32)), (.ref b6), (.ref b6)]) t → own_S p e below T22 (mkF m 23 #[.val (.int p0)] [(.ref b6)]) t := by
      intro t k
      show own_S p e below T22 (mkF m 23 #[.val (.int p0)] [(.ref b6)]) _
      refine XS.dup X22.here hx rfl (hb hby d1_23) rfl rfl ?_
      show own_S p e below T22 (mkF m 24 #[.val (.int p0)] [(.ref b6), (.ref b6)]) _
      refine XS.iconst X22.here hx rfl (hb hby d1_24) ?_
      show own_S p e below T22 (mkF m 25 #[.val (.int p0)] [(.int (3 : Int32)), (.ref b6), (.ref b6)]) _
      refine XS.bipush X22.here hx rfl (hb hby d1_25) ?_
      exact k
    refine own_by sg27 ?_
    obtain ⟨cl27, Ar27, qa27, Sa27, Na27, Ha27, Ga27⟩ := id V22
    obtain ⟨T27, h27, X27, e27, W27, st27⟩ := stC X22 hx hZ e22 Ar27 (j := (3 : Int32)) (inb_of Sa27 ⟨by decide, by decide⟩) (g := (mkF m 27 #[.val (.int p0)] [(.int (104 : Int32)), (.int (3 : Int32)), (.ref b6), (.ref b6)])) rfl rfl (hb hby d1_27)
    have V27 : Arv Z h27 b6 kc6 .char (18 : Int32) [(.int (97 : Int32)), (.int (117 : Int32)), (.int (116 : Int32)), (.int (104 : Int32)), (.int (0 : Int32)), (.int (0 : Int32)), (.int (0 : Int32)), (.int (0 : Int32)), (.int (0 : Int32)), (.int (0 : Int32)), (.int (0 : Int32)), (.int (0 : Int32)), (.int (0 : Int32)), (.int (0 : Int32)), (.int (0 : Int32)), (.int (0 : Int32)), (.int (0 : Int32)), (.int (0 : Int32))] (.int (0 : Int32)) := by
      have q := Arv.set Ar27 qa27 Sa27 Na27 Ha27 Ga27 (fits_nar_char _) W27 3 rfl (Nat.le_of_ble_eq_true rfl)
      exact q
    have K27 : Keep h0 h27 [] := K22.wr W27 (Or.inr sz_b6)
    have Z27 : n0 ≤ h27.size := Nat.le_trans Z22 (Keep.of_wr W27).1
    have N27 := Fr.snoc X27 N22 g_b6
    refine own_by st27 ?_
    have sg32 : ∀ t, own_S p e below T27 (mkF m 32 #[.val (.int p0)] [(.int (111 : Int32)), (.int (4 : Int32)), (.ref b6), (.ref b6)]) t → own_S p e below T27 (mkF m 28 #[.val (.int p0)] [(.ref b6)]) t := by
      intro t k
      show own_S p e below T27 (mkF m 28 #[.val (.int p0)] [(.ref b6)]) _
      refine XS.dup X27.here hx rfl (hb hby d1_28) rfl rfl ?_
      show own_S p e below T27 (mkF m 29 #[.val (.int p0)] [(.ref b6), (.ref b6)]) _
      refine XS.iconst X27.here hx rfl (hb hby d1_29) ?_
      show own_S p e below T27 (mkF m 30 #[.val (.int p0)] [(.int (4 : Int32)), (.ref b6), (.ref b6)]) _
      refine XS.bipush X27.here hx rfl (hb hby d1_30) ?_
      exact k
    refine own_by sg32 ?_
    obtain ⟨cl32, Ar32, qa32, Sa32, Na32, Ha32, Ga32⟩ := id V27
    obtain ⟨T32, h32, X32, e32, W32, st32⟩ := stC X27 hx hZ e27 Ar32 (j := (4 : Int32)) (inb_of Sa32 ⟨by decide, by decide⟩) (g := (mkF m 32 #[.val (.int p0)] [(.int (111 : Int32)), (.int (4 : Int32)), (.ref b6), (.ref b6)])) rfl rfl (hb hby d1_32)
    have V32 : Arv Z h32 b6 kc6 .char (18 : Int32) [(.int (97 : Int32)), (.int (117 : Int32)), (.int (116 : Int32)), (.int (104 : Int32)), (.int (111 : Int32)), (.int (0 : Int32)), (.int (0 : Int32)), (.int (0 : Int32)), (.int (0 : Int32)), (.int (0 : Int32)), (.int (0 : Int32)), (.int (0 : Int32)), (.int (0 : Int32)), (.int (0 : Int32)), (.int (0 : Int32)), (.int (0 : Int32)), (.int (0 : Int32)), (.int (0 : Int32))] (.int (0 : Int32)) := by
      have q := Arv.set Ar32 qa32 Sa32 Na32 Ha32 Ga32 (fits_nar_char _) W32 4 rfl (Nat.le_of_ble_eq_true rfl)
      exact q
    have K32 : Keep h0 h32 [] := K27.wr W32 (Or.inr sz_b6)
    have Z32 : n0 ≤ h32.size := Nat.le_trans Z27 (Keep.of_wr W32).1
    have N32 := Fr.snoc X32 N27 g_b6
    refine own_by st32 ?_
    have sg37 : ∀ t, own_S p e below T32 (mkF m 37 #[.val (.int p0)] [(.int (114 : Int32)), (.int (5 : Int32)), (.ref b6), (.ref b6)]) t → own_S p e below T32 (mkF m 33 #[.val (.int p0)] [(.ref b6)]) t := by
      intro t k
      show own_S p e below T32 (mkF m 33 #[.val (.int p0)] [(.ref b6)]) _
      refine XS.dup X32.here hx rfl (hb hby d1_33) rfl rfl ?_
      show own_S p e below T32 (mkF m 34 #[.val (.int p0)] [(.ref b6), (.ref b6)]) _
      refine XS.iconst X32.here hx rfl (hb hby d1_34) ?_
      show own_S p e below T32 (mkF m 35 #[.val (.int p0)] [(.int (5 : Int32)), (.ref b6), (.ref b6)]) _
      refine XS.bipush X32.here hx rfl (hb hby d1_35) ?_
      exact k
    refine own_by sg37 ?_
    obtain ⟨cl37, Ar37, qa37, Sa37, Na37, Ha37, Ga37⟩ := id V32
    obtain ⟨T37, h37, X37, e37, W37, st37⟩ := stC X32 hx hZ e32 Ar37 (j := (5 : Int32)) (inb_of Sa37 ⟨by decide, by decide⟩) (g := (mkF m 37 #[.val (.int p0)] [(.int (114 : Int32)), (.int (5 : Int32)), (.ref b6), (.ref b6)])) rfl rfl (hb hby d1_37)
    have V37 : Arv Z h37 b6 kc6 .char (18 : Int32) [(.int (97 : Int32)), (.int (117 : Int32)), (.int (116 : Int32)), (.int (104 : Int32)), (.int (111 : Int32)), (.int (114 : Int32)), (.int (0 : Int32)), (.int (0 : Int32)), (.int (0 : Int32)), (.int (0 : Int32)), (.int (0 : Int32)), (.int (0 : Int32)), (.int (0 : Int32)), (.int (0 : Int32)), (.int (0 : Int32)), (.int (0 : Int32)), (.int (0 : Int32)), (.int (0 : Int32))] (.int (0 : Int32)) := by
      have q := Arv.set Ar37 qa37 Sa37 Na37 Ha37 Ga37 (fits_nar_char _) W37 5 rfl (Nat.le_of_ble_eq_true rfl)
      exact q
    have K37 : Keep h0 h37 [] := K32.wr W37 (Or.inr sz_b6)
    have Z37 : n0 ≤ h37.size := Nat.le_trans Z32 (Keep.of_wr W37).1
    have N37 := Fr.snoc X37 N32 g_b6
    refine own_by st37 ?_
    have sg43 : ∀ t, own_S p e below T37 (mkF m 43 #[.val (.int p0)] [(.int (105 : Int32)), (.int (6 : Int32)), (.ref b6), (.ref b6)]) t → own_S p e below T37 (mkF m 38 #[.val (.int p0)] [(.ref b6)]) t := by
      intro t k
      show own_S p e below T37 (mkF m 38 #[.val (.int p0)] [(.ref b6)]) _
      refine XS.dup X37.here hx rfl (hb hby d1_38) rfl rfl ?_
      show own_S p e below T37 (mkF m 39 #[.val (.int p0)] [(.ref b6), (.ref b6)]) _
      refine XS.bipush X37.here hx rfl (hb hby d1_39) ?_
      show own_S p e below T37 (mkF m 41 #[.val (.int p0)] [(.int (6 : Int32)), (.ref b6), (.ref b6)]) _
      refine XS.bipush X37.here hx rfl (hb hby d1_41) ?_
      exact k
    refine own_by sg43 ?_
    obtain ⟨cl43, Ar43, qa43, Sa43, Na43, Ha43, Ga43⟩ := id V37
    obtain ⟨T43, h43, X43, e43, W43, st43⟩ := stC X37 hx hZ e37 Ar43 (j := (6 : Int32)) (inb_of Sa43 ⟨by decide, by decide⟩) (g := (mkF m 43 #[.val (.int p0)] [(.int (105 : Int32)), (.int (6 : Int32)), (.ref b6), (.ref b6)])) rfl rfl (hb hby d1_43)
    have V43 : Arv Z h43 b6 kc6 .char (18 : Int32) [(.int (97 : Int32)), (.int (117 : Int32)), (.int (116 : Int32)), (.int (104 : Int32)), (.int (111 : Int32)), (.int (114 : Int32)), (.int (105 : Int32)), (.int (0 : Int32)), (.int (0 : Int32)), (.int (0 : Int32)), (.int (0 : Int32)), (.int (0 : Int32)), (.int (0 : Int32)), (.int (0 : Int32)), (.int (0 : Int32)), (.int (0 : Int32)), (.int (0 : Int32)), (.int (0 : Int32))] (.int (0 : Int32)) := by
      have q := Arv.set Ar43 qa43 Sa43 Na43 Ha43 Ga43 (fits_nar_char _) W43 6 rfl (Nat.le_of_ble_eq_true rfl)
      exact q
    have K43 : Keep h0 h43 [] := K37.wr W43 (Or.inr sz_b6)
    have Z43 : n0 ≤ h43.size := Nat.le_trans Z37 (Keep.of_wr W43).1
    have N43 := Fr.snoc X43 N37 g_b6
    refine own_by st43 ?_
    have sg49 : ∀ t, own_S p e below T43 (mkF m 49 #[.val (.int p0)] [(.int (122 : Int32)), (.int (7 : Int32)), (.ref b6), (.ref b6)]) t → own_S p e below T43 (mkF m 44 #[.val (.int p0)] [(.ref b6)]) t := by
      intro t k
      show own_S p e below T43 (mkF m 44 #[.val (.int p0)] [(.ref b6)]) _
      refine XS.dup X43.here hx rfl (hb hby d1_44) rfl rfl ?_
      show own_S p e below T43 (mkF m 45 #[.val (.int p0)] [(.ref b6), (.ref b6)]) _
      refine XS.bipush X43.here hx rfl (hb hby d1_45) ?_
      show own_S p e below T43 (mkF m 47 #[.val (.int p0)] [(.int (7 : Int32)), (.ref b6), (.ref b6)]) _
      refine XS.bipush X43.here hx rfl (hb hby d1_47) ?_
      exact k
    refine own_by sg49 ?_
    obtain ⟨cl49, Ar49, qa49, Sa49, Na49, Ha49, Ga49⟩ := id V43
    obtain ⟨T49, h49, X49, e49, W49, st49⟩ := stC X43 hx hZ e43 Ar49 (j := (7 : Int32)) (inb_of Sa49 ⟨by decide, by decide⟩) (g := (mkF m 49 #[.val (.int p0)] [(.int (122 : Int32)), (.int (7 : Int32)), (.ref b6), (.ref b6)])) rfl rfl (hb hby d1_49)
    have V49 : Arv Z h49 b6 kc6 .char (18 : Int32) [(.int (97 : Int32)), (.int (117 : Int32)), (.int (116 : Int32)), (.int (104 : Int32)), (.int (111 : Int32)), (.int (114 : Int32)), (.int (105 : Int32)), (.int (122 : Int32)), (.int (0 : Int32)), (.int (0 : Int32)), (.int (0 : Int32)), (.int (0 : Int32)), (.int (0 : Int32)), (.int (0 : Int32)), (.int (0 : Int32)), (.int (0 : Int32)), (.int (0 : Int32)), (.int (0 : Int32))] (.int (0 : Int32)) := by
      have q := Arv.set Ar49 qa49 Sa49 Na49 Ha49 Ga49 (fits_nar_char _) W49 7 rfl (Nat.le_of_ble_eq_true rfl)
      exact q
    have K49 : Keep h0 h49 [] := K43.wr W49 (Or.inr sz_b6)
    have Z49 : n0 ≤ h49.size := Nat.le_trans Z43 (Keep.of_wr W49).1
    have N49 := Fr.snoc X49 N43 g_b6
    refine own_by st49 ?_
    have sg55 : ∀ t, own_S p e below T49 (mkF m 55 #[.val (.int p0)] [(.int (97 : Int32)), (.int (8 : Int32)), (.ref b6), (.ref b6)]) t → own_S p e below T49 (mkF m 50 #[.val (.int p0)] [(.ref b6)]) t := by
      intro t k
      show own_S p e below T49 (mkF m 50 #[.val (.int p0)] [(.ref b6)]) _
      refine XS.dup X49.here hx rfl (hb hby d1_50) rfl rfl ?_
      show own_S p e below T49 (mkF m 51 #[.val (.int p0)] [(.ref b6), (.ref b6)]) _
      refine XS.bipush X49.here hx rfl (hb hby d1_51) ?_
      show own_S p e below T49 (mkF m 53 #[.val (.int p0)] [(.int (8 : Int32)), (.ref b6), (.ref b6)]) _
      refine XS.bipush X49.here hx rfl (hb hby d1_53) ?_
      exact k
    refine own_by sg55 ?_
    obtain ⟨cl55, Ar55, qa55, Sa55, Na55, Ha55, Ga55⟩ := id V49
    obtain ⟨T55, h55, X55, e55, W55, st55⟩ := stC X49 hx hZ e49 Ar55 (j := (8 : Int32)) (inb_of Sa55 ⟨by decide, by decide⟩) (g := (mkF m 55 #[.val (.int p0)] [(.int (97 : Int32)), (.int (8 : Int32)), (.ref b6), (.ref b6)])) rfl rfl (hb hby d1_55)
    have V55 : Arv Z h55 b6 kc6 .char (18 : Int32) [(.int (97 : Int32)), (.int (117 : Int32)), (.int (116 : Int32)), (.int (104 : Int32)), (.int (111 : Int32)), (.int (114 : Int32)), (.int (105 : Int32)), (.int (122 : Int32)), (.int (97 : Int32)), (.int (0 : Int32)), (.int (0 : Int32)), (.int (0 : Int32)), (.int (0 : Int32)), (.int (0 : Int32)), (.int (0 : Int32)), (.int (0 : Int32)), (.int (0 : Int32)), (.int (0 : Int32))] (.int (0 : Int32)) := by
      have q := Arv.set Ar55 qa55 Sa55 Na55 Ha55 Ga55 (fits_nar_char _) W55 8 rfl (Nat.le_of_ble_eq_true rfl)
      exact q
    have K55 : Keep h0 h55 [] := K49.wr W55 (Or.inr sz_b6)
    have Z55 : n0 ≤ h55.size := Nat.le_trans Z49 (Keep.of_wr W55).1
    have N55 := Fr.snoc X55 N49 g_b6
    refine own_by st55 ?_
    have sg61 : ∀ t, own_S p e below T55 (mkF m 61 #[.val (.int p0)] [(.int (116 : Int32)), (.int (9 : Int32)), (.ref b6), (.ref b6)]) t → own_S p e below T55 (mkF m 56 #[.val (.int p0)] [(.ref b6)]) t := by
      intro t k
      show own_S p e below T55 (mkF m 56 #[.val (.int p0)] [(.ref b6)]) _
      refine XS.dup X55.here hx rfl (hb hby d1_56) rfl rfl ?_
      show own_S p e below T55 (mkF m 57 #[.val (.int p0)] [(.ref b6), (.ref b6)]) _
      refine XS.bipush X55.here hx rfl (hb hby d1_57) ?_
      show own_S p e below T55 (mkF m 59 #[.val (.int p0)] [(.int (9 : Int32)), (.ref b6), (.ref b6)]) _
      refine XS.bipush X55.here hx rfl (hb hby d1_59) ?_
      exact k
    refine own_by sg61 ?_
    obtain ⟨cl61, Ar61, qa61, Sa61, Na61, Ha61, Ga61⟩ := id V55
    obtain ⟨T61, h61, X61, e61, W61, st61⟩ := stC X55 hx hZ e55 Ar61 (j := (9 : Int32)) (inb_of Sa61 ⟨by decide, by decide⟩) (g := (mkF m 61 #[.val (.int p0)] [(.int (116 : Int32)), (.int (9 : Int32)), (.ref b6), (.ref b6)])) rfl rfl (hb hby d1_61)
    have V61 : Arv Z h61 b6 kc6 .char (18 : Int32) [(.int (97 : Int32)), (.int (117 : Int32)), (.int (116 : Int32)), (.int (104 : Int32)), (.int (111 : Int32)), (.int (114 : Int32)), (.int (105 : Int32)), (.int (122 : Int32)), (.int (97 : Int32)), (.int (116 : Int32)), (.int (0 : Int32)), (.int (0 : Int32)), (.int (0 : Int32)), (.int (0 : Int32)), (.int (0 : Int32)), (.int (0 : Int32)), (.int (0 : Int32)), (.int (0 : Int32))] (.int (0 : Int32)) := by
      have q := Arv.set Ar61 qa61 Sa61 Na61 Ha61 Ga61 (fits_nar_char _) W61 9 rfl (Nat.le_of_ble_eq_true rfl)
      exact q
    have K61 : Keep h0 h61 [] := K55.wr W61 (Or.inr sz_b6)
    have Z61 : n0 ≤ h61.size := Nat.le_trans Z55 (Keep.of_wr W61).1
    have N61 := Fr.snoc X61 N55 g_b6
    refine own_by st61 ?_
    have sg67 : ∀ t, own_S p e below T61 (mkF m 67 #[.val (.int p0)] [(.int (105 : Int32)), (.int (10 : Int32)), (.ref b6), (.ref b6)]) t → own_S p e below T61 (mkF m 62 #[.val (.int p0)] [(.ref b6)]) t := by
      intro t k
      show own_S p e below T61 (mkF m 62 #[.val (.int p0)] [(.ref b6)]) _
      refine XS.dup X61.here hx rfl (hb hby d1_62) rfl rfl ?_
      show own_S p e below T61 (mkF m 63 #[.val (.int p0)] [(.ref b6), (.ref b6)]) _
      refine XS.bipush X61.here hx rfl (hb hby d1_63) ?_
      show own_S p e below T61 (mkF m 65 #[.val (.int p0)] [(.int (10 : Int32)), (.ref b6), (.ref b6)]) _
      refine XS.bipush X61.here hx rfl (hb hby d1_65) ?_
      exact k
    refine own_by sg67 ?_
    obtain ⟨cl67, Ar67, qa67, Sa67, Na67, Ha67, Ga67⟩ := id V61
    obtain ⟨T67, h67, X67, e67, W67, st67⟩ := stC X61 hx hZ e61 Ar67 (j := (10 : Int32)) (inb_of Sa67 ⟨by decide, by decide⟩) (g := (mkF m 67 #[.val (.int p0)] [(.int (105 : Int32)), (.int (10 : Int32)), (.ref b6), (.ref b6)])) rfl rfl (hb hby d1_67)
    have V67 : Arv Z h67 b6 kc6 .char (18 : Int32) [(.int (97 : Int32)), (.int (117 : Int32)), (.int (116 : Int32)), (.int (104 : Int32)), (.int (111 : Int32)), (.int (114 : Int32)), (.int (105 : Int32)), (.int (122 : Int32)), (.int (97 : Int32)), (.int (116 : Int32)), (.int (105 : Int32)), (.int (0 : Int32)), (.int (0 : Int32)), (.int (0 : Int32)), (.int (0 : Int32)), (.int (0 : Int32)), (.int (0 : Int32)), (.int (0 : Int32))] (.int (0 : Int32)) := by
      have q := Arv.set Ar67 qa67 Sa67 Na67 Ha67 Ga67 (fits_nar_char _) W67 10 rfl (Nat.le_of_ble_eq_true rfl)
      exact q
    have K67 : Keep h0 h67 [] := K61.wr W67 (Or.inr sz_b6)
    have Z67 : n0 ≤ h67.size := Nat.le_trans Z61 (Keep.of_wr W67).1
    have N67 := Fr.snoc X67 N61 g_b6
    refine own_by st67 ?_
    have sg73 : ∀ t, own_S p e below T67 (mkF m 73 #[.val (.int p0)] [(.int (111 : Int32)), (.int (11 : Int32)), (.ref b6), (.ref b6)]) t → own_S p e below T67 (mkF m 68 #[.val (.int p0)] [(.ref b6)]) t := by
      intro t k
      show own_S p e below T67 (mkF m 68 #[.val (.int p0)] [(.ref b6)]) _
      refine XS.dup X67.here hx rfl (hb hby d1_68) rfl rfl ?_
      show own_S p e below T67 (mkF m 69 #[.val (.int p0)] [(.ref b6), (.ref b6)]) _
      refine XS.bipush X67.here hx rfl (hb hby d1_69) ?_
      show own_S p e below T67 (mkF m 71 #[.val (.int p0)] [(.int (11 : Int32)), (.ref b6), (.ref b6)]) _
      refine XS.bipush X67.here hx rfl (hb hby d1_71) ?_
      exact k
    refine own_by sg73 ?_
    obtain ⟨cl73, Ar73, qa73, Sa73, Na73, Ha73, Ga73⟩ := id V67
    obtain ⟨T73, h73, X73, e73, W73, st73⟩ := stC X67 hx hZ e67 Ar73 (j := (11 : Int32)) (inb_of Sa73 ⟨by decide, by decide⟩) (g := (mkF m 73 #[.val (.int p0)] [(.int (111 : Int32)), (.int (11 : Int32)), (.ref b6), (.ref b6)])) rfl rfl (hb hby d1_73)
    have V73 : Arv Z h73 b6 kc6 .char (18 : Int32) [(.int (97 : Int32)), (.int (117 : Int32)), (.int (116 : Int32)), (.int (104 : Int32)), (.int (111 : Int32)), (.int (114 : Int32)), (.int (105 : Int32)), (.int (122 : Int32)), (.int (97 : Int32)), (.int (116 : Int32)), (.int (105 : Int32)), (.int (111 : Int32)), (.int (0 : Int32)), (.int (0 : Int32)), (.int (0 : Int32)), (.int (0 : Int32)), (.int (0 : Int32)), (.int (0 : Int32))] (.int (0 : Int32)) := by
      have q := Arv.set Ar73 qa73 Sa73 Na73 Ha73 Ga73 (fits_nar_char _) W73 11 rfl (Nat.le_of_ble_eq_true rfl)
      exact q
    have K73 : Keep h0 h73 [] := K67.wr W73 (Or.inr sz_b6)
    have Z73 : n0 ≤ h73.size := Nat.le_trans Z67 (Keep.of_wr W73).1
    have N73 := Fr.snoc X73 N67 g_b6
    refine own_by st73 ?_
    have sg79 : ∀ t, own_S p e below T73 (mkF m 79 #[.val (.int p0)] [(.int (110 : Int32)), (.int (12 : Int32)), (.ref b6), (.ref b6)]) t → own_S p e below T73 (mkF m 74 #[.val (.int p0)] [(.ref b6)]) t := by
      intro t k
      show own_S p e below T73 (mkF m 74 #[.val (.int p0)] [(.ref b6)]) _
      refine XS.dup X73.here hx rfl (hb hby d1_74) rfl rfl ?_
      show own_S p e below T73 (mkF m 75 #[.val (.int p0)] [(.ref b6), (.ref b6)]) _
      refine XS.bipush X73.here hx rfl (hb hby d1_75) ?_
      show own_S p e below T73 (mkF m 77 #[.val (.int p0)] [(.int (12 : Int32)), (.ref b6), (.ref b6)]) _
      refine XS.bipush X73.here hx rfl (hb hby d1_77) ?_
      exact k
    refine own_by sg79 ?_
    obtain ⟨cl79, Ar79, qa79, Sa79, Na79, Ha79, Ga79⟩ := id V73
    obtain ⟨T79, h79, X79, e79, W79, st79⟩ := stC X73 hx hZ e73 Ar79 (j := (12 : Int32)) (inb_of Sa79 ⟨by decide, by decide⟩) (g := (mkF m 79 #[.val (.int p0)] [(.int (110 : Int32)), (.int (12 : Int32)), (.ref b6), (.ref b6)])) rfl rfl (hb hby d1_79)
    have V79 : Arv Z h79 b6 kc6 .char (18 : Int32) [(.int (97 : Int32)), (.int (117 : Int32)), (.int (116 : Int32)), (.int (104 : Int32)), (.int (111 : Int32)), (.int (114 : Int32)), (.int (105 : Int32)), (.int (122 : Int32)), (.int (97 : Int32)), (.int (116 : Int32)), (.int (105 : Int32)), (.int (111 : Int32)), (.int (110 : Int32)), (.int (0 : Int32)), (.int (0 : Int32)), (.int (0 : Int32)), (.int (0 : Int32)), (.int (0 : Int32))] (.int (0 : Int32)) := by
      have q := Arv.set Ar79 qa79 Sa79 Na79 Ha79 Ga79 (fits_nar_char _) W79 12 rfl (Nat.le_of_ble_eq_true rfl)
      exact q
    have K79 : Keep h0 h79 [] := K73.wr W79 (Or.inr sz_b6)
    have Z79 : n0 ≤ h79.size := Nat.le_trans Z73 (Keep.of_wr W79).1
    have N79 := Fr.snoc X79 N73 g_b6
    refine own_by st79 ?_
    have sg85 : ∀ t, own_S p e below T79 (mkF m 85 #[.val (.int p0)] [(.int (95 : Int32)), (.int (13 : Int32)), (.ref b6), (.ref b6)]) t → own_S p e below T79 (mkF m 80 #[.val (.int p0)] [(.ref b6)]) t := by
      intro t k
      show own_S p e below T79 (mkF m 80 #[.val (.int p0)] [(.ref b6)]) _
      refine XS.dup X79.here hx rfl (hb hby d1_80) rfl rfl ?_
      show own_S p e below T79 (mkF m 81 #[.val (.int p0)] [(.ref b6), (.ref b6)]) _
      refine XS.bipush X79.here hx rfl (hb hby d1_81) ?_
      show own_S p e below T79 (mkF m 83 #[.val (.int p0)] [(.int (13 : Int32)), (.ref b6), (.ref b6)]) _
      refine XS.bipush X79.here hx rfl (hb hby d1_83) ?_
      exact k
    refine own_by sg85 ?_
    obtain ⟨cl85, Ar85, qa85, Sa85, Na85, Ha85, Ga85⟩ := id V79
    obtain ⟨T85, h85, X85, e85, W85, st85⟩ := stC X79 hx hZ e79 Ar85 (j := (13 : Int32)) (inb_of Sa85 ⟨by decide, by decide⟩) (g := (mkF m 85 #[.val (.int p0)] [(.int (95 : Int32)), (.int (13 : Int32)), (.ref b6), (.ref b6)])) rfl rfl (hb hby d1_85)
    have V85 : Arv Z h85 b6 kc6 .char (18 : Int32) [(.int (97 : Int32)), (.int (117 : Int32)), (.int (116 : Int32)), (.int (104 : Int32)), (.int (111 : Int32)), (.int (114 : Int32)), (.int (105 : Int32)), (.int (122 : Int32)), (.int (97 : Int32)), (.int (116 : Int32)), (.int (105 : Int32)), (.int (111 : Int32)), (.int (110 : Int32)), (.int (95 : Int32)), (.int (0 : Int32)), (.int (0 : Int32)), (.int (0 : Int32)), (.int (0 : Int32))] (.int (0 : Int32)) := by
      have q := Arv.set Ar85 qa85 Sa85 Na85 Ha85 Ga85 (fits_nar_char _) W85 13 rfl (Nat.le_of_ble_eq_true rfl)
      exact q
    have K85 : Keep h0 h85 [] := K79.wr W85 (Or.inr sz_b6)
    have Z85 : n0 ≤ h85.size := Nat.le_trans Z79 (Keep.of_wr W85).1
    have N85 := Fr.snoc X85 N79 g_b6
    refine own_by st85 ?_
    have sg91 : ∀ t, own_S p e below T85 (mkF m 91 #[.val (.int p0)] [(.int (99 : Int32)), (.int (14 : Int32)), (.ref b6), (.ref b6)]) t → own_S p e below T85 (mkF m 86 #[.val (.int p0)] [(.ref b6)]) t := by
      intro t k
      show own_S p e below T85 (mkF m 86 #[.val (.int p0)] [(.ref b6)]) _
      refine XS.dup X85.here hx rfl (hb hby d1_86) rfl rfl ?_
      show own_S p e below T85 (mkF m 87 #[.val (.int p0)] [(.ref b6), (.ref b6)]) _
      refine XS.bipush X85.here hx rfl (hb hby d1_87) ?_
      show own_S p e below T85 (mkF m 89 #[.val (.int p0)] [(.int (14 : Int32)), (.ref b6), (.ref b6)]) _
      refine XS.bipush X85.here hx rfl (hb hby d1_89) ?_
      exact k
    refine own_by sg91 ?_
    obtain ⟨cl91, Ar91, qa91, Sa91, Na91, Ha91, Ga91⟩ := id V85
    obtain ⟨T91, h91, X91, e91, W91, st91⟩ := stC X85 hx hZ e85 Ar91 (j := (14 : Int32)) (inb_of Sa91 ⟨by decide, by decide⟩) (g := (mkF m 91 #[.val (.int p0)] [(.int (99 : Int32)), (.int (14 : Int32)), (.ref b6), (.ref b6)])) rfl rfl (hb hby d1_91)
    have V91 : Arv Z h91 b6 kc6 .char (18 : Int32) [(.int (97 : Int32)), (.int (117 : Int32)), (.int (116 : Int32)), (.int (104 : Int32)), (.int (111 : Int32)), (.int (114 : Int32)), (.int (105 : Int32)), (.int (122 : Int32)), (.int (97 : Int32)), (.int (116 : Int32)), (.int (105 : Int32)), (.int (111 : Int32)), (.int (110 : Int32)), (.int (95 : Int32)), (.int (99 : Int32)), (.int (0 : Int32)), (.int (0 : Int32)), (.int (0 : Int32))] (.int (0 : Int32)) := by
      have q := Arv.set Ar91 qa91 Sa91 Na91 Ha91 Ga91 (fits_nar_char _) W91 14 rfl (Nat.le_of_ble_eq_true rfl)
      exact q
    have K91 : Keep h0 h91 [] := K85.wr W91 (Or.inr sz_b6)
    have Z91 : n0 ≤ h91.size := Nat.le_trans Z85 (Keep.of_wr W91).1
    have N91 := Fr.snoc X91 N85 g_b6
    refine own_by st91 ?_
    have sg97 : ∀ t, own_S p e below T91 (mkF m 97 #[.val (.int p0)] [(.int (111 : Int32)), (.int (15 : Int32)), (.ref b6), (.ref b6)]) t → own_S p e below T91 (mkF m 92 #[.val (.int p0)] [(.ref b6)]) t := by
      intro t k
      show own_S p e below T91 (mkF m 92 #[.val (.int p0)] [(.ref b6)]) _
      refine XS.dup X91.here hx rfl (hb hby d1_92) rfl rfl ?_
      show own_S p e below T91 (mkF m 93 #[.val (.int p0)] [(.ref b6), (.ref b6)]) _
      refine XS.bipush X91.here hx rfl (hb hby d1_93) ?_
      show own_S p e below T91 (mkF m 95 #[.val (.int p0)] [(.int (15 : Int32)), (.ref b6), (.ref b6)]) _
      refine XS.bipush X91.here hx rfl (hb hby d1_95) ?_
      exact k
    refine own_by sg97 ?_
    obtain ⟨cl97, Ar97, qa97, Sa97, Na97, Ha97, Ga97⟩ := id V91
    obtain ⟨T97, h97, X97, e97, W97, st97⟩ := stC X91 hx hZ e91 Ar97 (j := (15 : Int32)) (inb_of Sa97 ⟨by decide, by decide⟩) (g := (mkF m 97 #[.val (.int p0)] [(.int (111 : Int32)), (.int (15 : Int32)), (.ref b6), (.ref b6)])) rfl rfl (hb hby d1_97)
    have V97 : Arv Z h97 b6 kc6 .char (18 : Int32) [(.int (97 : Int32)), (.int (117 : Int32)), (.int (116 : Int32)), (.int (104 : Int32)), (.int (111 : Int32)), (.int (114 : Int32)), (.int (105 : Int32)), (.int (122 : Int32)), (.int (97 : Int32)), (.int (116 : Int32)), (.int (105 : Int32)), (.int (111 : Int32)), (.int (110 : Int32)), (.int (95 : Int32)), (.int (99 : Int32)), (.int (111 : Int32)), (.int (0 : Int32)), (.int (0 : Int32))] (.int (0 : Int32)) := by
      have q := Arv.set Ar97 qa97 Sa97 Na97 Ha97 Ga97 (fits_nar_char _) W97 15 rfl (Nat.le_of_ble_eq_true rfl)
      exact q
    have K97 : Keep h0 h97 [] := K91.wr W97 (Or.inr sz_b6)
    have Z97 : n0 ≤ h97.size := Nat.le_trans Z91 (Keep.of_wr W97).1
    have N97 := Fr.snoc X97 N91 g_b6
    refine own_by st97 ?_
    have sg103 : ∀ t, own_S p e below T97 (mkF m 103 #[.val (.int p0)] [(.int (100 : Int32)), (.int (16 : Int32)), (.ref b6), (.ref b6)]) t → own_S p e below T97 (mkF m 98 #[.val (.int p0)] [(.ref b6)]) t := by
      intro t k
      show own_S p e below T97 (mkF m 98 #[.val (.int p0)] [(.ref b6)]) _
      refine XS.dup X97.here hx rfl (hb hby d1_98) rfl rfl ?_
      show own_S p e below T97 (mkF m 99 #[.val (.int p0)] [(.ref b6), (.ref b6)]) _
      refine XS.bipush X97.here hx rfl (hb hby d1_99) ?_
      show own_S p e below T97 (mkF m 101 #[.val (.int p0)] [(.int (16 : Int32)), (.ref b6), (.ref b6)]) _
      refine XS.bipush X97.here hx rfl (hb hby d1_101) ?_
      exact k
    refine own_by sg103 ?_
    obtain ⟨cl103, Ar103, qa103, Sa103, Na103, Ha103, Ga103⟩ := id V97
    obtain ⟨T103, h103, X103, e103, W103, st103⟩ := stC X97 hx hZ e97 Ar103 (j := (16 : Int32)) (inb_of Sa103 ⟨by decide, by decide⟩) (g := (mkF m 103 #[.val (.int p0)] [(.int (100 : Int32)), (.int (16 : Int32)), (.ref b6), (.ref b6)])) rfl rfl (hb hby d1_103)
    have V103 : Arv Z h103 b6 kc6 .char (18 : Int32) [(.int (97 : Int32)), (.int (117 : Int32)), (.int (116 : Int32)), (.int (104 : Int32)), (.int (111 : Int32)), (.int (114 : Int32)), (.int (105 : Int32)), (.int (122 : Int32)), (.int (97 : Int32)), (.int (116 : Int32)), (.int (105 : Int32)), (.int (111 : Int32)), (.int (110 : Int32)), (.int (95 : Int32)), (.int (99 : Int32)), (.int (111 : Int32)), (.int (100 : Int32)), (.int (0 : Int32))] (.int (0 : Int32)) := by
      have q := Arv.set Ar103 qa103 Sa103 Na103 Ha103 Ga103 (fits_nar_char _) W103 16 rfl (Nat.le_of_ble_eq_true rfl)
      exact q
    have K103 : Keep h0 h103 [] := K97.wr W103 (Or.inr sz_b6)
    have Z103 : n0 ≤ h103.size := Nat.le_trans Z97 (Keep.of_wr W103).1
    have N103 := Fr.snoc X103 N97 g_b6
    refine own_by st103 ?_
    have sg109 : ∀ t, own_S p e below T103 (mkF m 109 #[.val (.int p0)] [(.int (101 : Int32)), (.int (17 : Int32)), (.ref b6), (.ref b6)]) t → own_S p e below T103 (mkF m 104 #[.val (.int p0)] [(.ref b6)]) t := by
      intro t k
      show own_S p e below T103 (mkF m 104 #[.val (.int p0)] [(.ref b6)]) _
      refine XS.dup X103.here hx rfl (hb hby d1_104) rfl rfl ?_
      show own_S p e below T103 (mkF m 105 #[.val (.int p0)] [(.ref b6), (.ref b6)]) _
      refine XS.bipush X103.here hx rfl (hb hby d1_105) ?_
      show own_S p e below T103 (mkF m 107 #[.val (.int p0)] [(.int (17 : Int32)), (.ref b6), (.ref b6)]) _
      refine XS.bipush X103.here hx rfl (hb hby d1_107) ?_
      exact k
    refine own_by sg109 ?_
    obtain ⟨cl109, Ar109, qa109, Sa109, Na109, Ha109, Ga109⟩ := id V103
    obtain ⟨T109, h109, X109, e109, W109, st109⟩ := stC X103 hx hZ e103 Ar109 (j := (17 : Int32)) (inb_of Sa109 ⟨by decide, by decide⟩) (g := (mkF m 109 #[.val (.int p0)] [(.int (101 : Int32)), (.int (17 : Int32)), (.ref b6), (.ref b6)])) rfl rfl (hb hby d1_109)
    have V109 : Arv Z h109 b6 kc6 .char (18 : Int32) [(.int (97 : Int32)), (.int (117 : Int32)), (.int (116 : Int32)), (.int (104 : Int32)), (.int (111 : Int32)), (.int (114 : Int32)), (.int (105 : Int32)), (.int (122 : Int32)), (.int (97 : Int32)), (.int (116 : Int32)), (.int (105 : Int32)), (.int (111 : Int32)), (.int (110 : Int32)), (.int (95 : Int32)), (.int (99 : Int32)), (.int (111 : Int32)), (.int (100 : Int32)), (.int (101 : Int32))] (.int (0 : Int32)) := by
      have q := Arv.set Ar109 qa109 Sa109 Na109 Ha109 Ga109 (fits_nar_char _) W109 17 rfl (Nat.le_of_ble_eq_true rfl)
      exact q
    have K109 : Keep h0 h109 [] := K103.wr W109 (Or.inr sz_b6)
    have Z109 : n0 ≤ h109.size := Nat.le_trans Z103 (Keep.of_wr W109).1
    have N109 := Fr.snoc X109 N103 g_b6
    refine own_by st109 ?_
    obtain ⟨fs, hr, hrun, hended, hW, hsame⟩ := X109.leave (v := some (.ref b6)) (fun h => by rw [Bd.returns] at h; cases h)
    refine ⟨_, _, ?_, hrun, hended, _, _, rfl, ?_, ⟨_, rfl⟩, hW, hsame.mono (by decide) (by decide)⟩
    · show Steps p.tables e below (T109.setTop (mkF m 110 #[.val (.int p0)] [(.ref b6)])) _
      jvm_step X109.here [X109.here.top, hx, (hb hby d1_110), X109.method', Bd.returns, Value.isRef, FieldType.isReference]
      first | (intro acts; rw [hr _ acts rfl rfl rfl]) | rw [hr _ _ rfl rfl rfl]
      exact Steps.refl _
    · show Q1 Z p0 h0 n0 _ T109.heap _
      rw [e109]
      exact ⟨_, _, rfl, sz_b6, N109, K109, (by unfold own_n18; rw [if_pos hc1]; exact V109)⟩
  · have sg113 : ∀ t, own_S p e below s₁ (mkF m 113 #[.val (.int p0)] [(.int (18 : Int32))]) t → own_S p e below s₁ (mkF m 1 #[.val (.int p0)] [(.int p0)]) t := by
      intro t k
      show own_S p e below s₁ (mkF m 1 #[.val (.int p0)] [(.int p0)]) _
      refine XS.ifYes X0.here hx rfl (pc0 := 1) (pc' := 111) rfl (hb hby d1_1) rfl ((if0 _ _).trans (feq hc1).2) (by decide) (by decide) ?_
      show own_S p e below s₁ (mkF m 111 #[.val (.int p0)] []) _
      refine XS.bipush X0.here hx rfl (hb hby d1_111) ?_
      exact k
    refine own_by sg113 ?_
    obtain ⟨T113, h113, kc113, X113, e113, E113, A113, st113⟩ := newP X0 hx hZ (hw _ (List.mem_of_getElem? (i := 8) rfl)) e0 (g := (mkF m 113 #[.val (.int p0)] [(.int (18 : Int32))])) rfl (hb hby d1_113) rfl (by decide) (cap := 18) (by decide) (by decide) (by decide) (by decide)
    obtain ⟨b113, g113⟩ : ∃ z, z = h0.size := ⟨_, rfl⟩
    rw [← g113] at A113 st113
    have g_b113 : n0 ≤ b113 := Nat.le_trans Z0 (Nat.le_of_eq g113.symm)
    have sz_b113 : h0.size ≤ b113 := Nat.le_trans K0.1 (Nat.le_of_eq g113.symm)
    have K113 := K0.ext E113
    have Z113 : n0 ≤ h113.size := Nat.le_trans Z0 E113.1
    have V113 : Arv Z h113 b113 kc113 .char (18 : Int32) [(.int (0 : Int32)), (.int (0 : Int32)), (.int (0 : Int32)), (.int (0 : Int32)), (.int (0 : Int32)), (.int (0 : Int32)), (.int (0 : Int32)), (.int (0 : Int32)), (.int (0 : Int32)), (.int (0 : Int32)), (.int (0 : Int32)), (.int (0 : Int32)), (.int (0 : Int32)), (.int (0 : Int32)), (.int (0 : Int32)), (.int (0 : Int32)), (.int (0 : Int32)), (.int (0 : Int32))] (.int (0 : Int32)) := (Arv.new A113 (by decide)).pad (pad_rep [] (.int (0 : Int32)) 18)
    refine own_by st113 ?_
    have sg119 : ∀ t, own_S p e below T113 (mkF m 119 #[.val (.int p0)] [(.int (99 : Int32)), (.int (0 : Int32)), (.ref b113), (.ref b113)]) t → own_S p e below T113 (mkF m 115 #[.val (.int p0)] [(.ref b113)]) t := by
      intro t k
      show own_S p e below T113 (mkF m 115 #[.val (.int p0)] [(.ref b113)]) _
      refine XS.dup X113.here hx rfl (hb hby d1_115) rfl rfl ?_
      show own_S p e below T113 (mkF m 116 #[.val (.int p0)] [(.ref b113), (.ref b113)]) _
      refine XS.iconst X113.here hx rfl (hb hby d1_116) ?_
      show own_S p e below T113 (mkF m 117 #[.val (.int p0)] [(.int (0 : Int32)), (.ref b113), (.ref b113)]) _
      refine XS.bipush X113.here hx rfl (hb hby d1_117) ?_
      exact k
    refine own_by sg119 ?_
    obtain ⟨cl119, Ar119, qa119, Sa119, Na119, Ha119, Ga119⟩ := id V113
    obtain ⟨T119, h119, X119, e119, W119, st119⟩ := stC X113 hx hZ e113 Ar119 (j := (0 : Int32)) (inb_of Sa119 ⟨by decide, by decide⟩) (g := (mkF m 119 #[.val (.int p0)] [(.int (99 : Int32)), (.int (0 : Int32)), (.ref b113), (.ref b113)])) rfl rfl (hb hby d1_119)
    have V119 : Arv Z h119 b113 kc113 .char (18 : Int32) [(.int (99 : Int32)), (.int (0 : Int32)), (.int (0 : Int32)), (.int (0 : Int32)), (.int (0 : Int32)), (.int (0 : Int32)), (.int (0 : Int32)), (.int (0 : Int32)), (.int (0 : Int32)), (.int (0 : Int32)), (.int (0 : Int32)), (.int (0 : Int32)), (.int (0 : Int32)), (.int (0 : Int32)), (.int (0 : Int32)), (.int (0 : Int32)), (.int (0 : Int32)), (.int (0 : Int32))] (.int (0 : Int32)) := by
      have q := Arv.set Ar119 qa119 Sa119 Na119 Ha119 Ga119 (fits_nar_char _) W119 0 rfl (Nat.le_of_ble_eq_true rfl)
      exact q
    have K119 : Keep h0 h119 [] := K113.wr W119 (Or.inr sz_b113)
    have Z119 : n0 ≤ h119.size := Nat.le_trans Z113 (Keep.of_wr W119).1
    have N119 := Fr.snoc X119 N0 g_b113
    refine own_by st119 ?_
    have sg124 : ∀ t, own_S p e below T119 (mkF m 124 #[.val (.int p0)] [(.int (108 : Int32)), (.int (1 : Int32)), (.ref b113), (.ref b113)]) t → own_S p e below T119 (mkF m 120 #[.val (.int p0)] [(.ref b113)]) t := by
      intro t k
      show own_S p e below T119 (mkF m 120 #[.val (.int p0)] [(.ref b113)]) _
      refine XS.dup X119.here hx rfl (hb hby d1_120) rfl rfl ?_
      show own_S p e below T119 (mkF m 121 #[.val (.int p0)] [(.ref b113), (.ref b113)]) _
      refine XS.iconst X119.here hx rfl (hb hby d1_121) ?_
      show own_S p e below T119 (mkF m 122 #[.val (.int p0)] [(.int (1 : Int32)), (.ref b113), (.ref b113)]) _
      refine XS.bipush X119.here hx rfl (hb hby d1_122) ?_
      exact k
    refine own_by sg124 ?_
    obtain ⟨cl124, Ar124, qa124, Sa124, Na124, Ha124, Ga124⟩ := id V119
    obtain ⟨T124, h124, X124, e124, W124, st124⟩ := stC X119 hx hZ e119 Ar124 (j := (1 : Int32)) (inb_of Sa124 ⟨by decide, by decide⟩) (g := (mkF m 124 #[.val (.int p0)] [(.int (108 : Int32)), (.int (1 : Int32)), (.ref b113), (.ref b113)])) rfl rfl (hb hby d1_124)
    have V124 : Arv Z h124 b113 kc113 .char (18 : Int32) [(.int (99 : Int32)), (.int (108 : Int32)), (.int (0 : Int32)), (.int (0 : Int32)), (.int (0 : Int32)), (.int (0 : Int32)), (.int (0 : Int32)), (.int (0 : Int32)), (.int (0 : Int32)), (.int (0 : Int32)), (.int (0 : Int32)), (.int (0 : Int32)), (.int (0 : Int32)), (.int (0 : Int32)), (.int (0 : Int32)), (.int (0 : Int32)), (.int (0 : Int32)), (.int (0 : Int32))] (.int (0 : Int32)) := by
      have q := Arv.set Ar124 qa124 Sa124 Na124 Ha124 Ga124 (fits_nar_char _) W124 1 rfl (Nat.le_of_ble_eq_true rfl)
      exact q
    have K124 : Keep h0 h124 [] := K119.wr W124 (Or.inr sz_b113)
    have Z124 : n0 ≤ h124.size := Nat.le_trans Z119 (Keep.of_wr W124).1
    have N124 := Fr.snoc X124 N119 g_b113
    refine own_by st124 ?_
    have sg129 : ∀ t, own_S p e below T124 (mkF m 129 #[.val (.int p0)] [(.int (105 : Int32)), (.int (2 : Int32)), (.ref b113), (.ref b113)]) t → own_S p e below T124 (mkF m 125 #[.val (.int p0)] [(.ref b113)]) t := by
      intro t k
      show own_S p e below T124 (mkF m 125 #[.val (.int p0)] [(.ref b113)]) _
      refine XS.dup X124.here hx rfl (hb hby d1_125) rfl rfl ?_
      show own_S p e below T124 (mkF m 126 #[.val (.int p0)] [(.ref b113), (.ref b113)]) _
      refine XS.iconst X124.here hx rfl (hb hby d1_126) ?_
      show own_S p e below T124 (mkF m 127 #[.val (.int p0)] [(.int (2 : Int32)), (.ref b113), (.ref b113)]) _
      refine XS.bipush X124.here hx rfl (hb hby d1_127) ?_
      exact k
    refine own_by sg129 ?_
    obtain ⟨cl129, Ar129, qa129, Sa129, Na129, Ha129, Ga129⟩ := id V124
    obtain ⟨T129, h129, X129, e129, W129, st129⟩ := stC X124 hx hZ e124 Ar129 (j := (2 : Int32)) (inb_of Sa129 ⟨by decide, by decide⟩) (g := (mkF m 129 #[.val (.int p0)] [(.int (105 : Int32)), (.int (2 : Int32)), (.ref b113), (.ref b113)])) rfl rfl (hb hby d1_129)
    have V129 : Arv Z h129 b113 kc113 .char (18 : Int32) [(.int (99 : Int32)), (.int (108 : Int32)), (.int (105 : Int32)), (.int (0 : Int32)), (.int (0 : Int32)), (.int (0 : Int32)), (.int (0 : Int32)), (.int (0 : Int32)), (.int (0 : Int32)), (.int (0 : Int32)), (.int (0 : Int32)), (.int (0 : Int32)), (.int (0 : Int32)), (.int (0 : Int32)), (.int (0 : Int32)), (.int (0 : Int32)), (.int (0 : Int32)), (.int (0 : Int32))] (.int (0 : Int32)) := by
      have q := Arv.set Ar129 qa129 Sa129 Na129 Ha129 Ga129 (fits_nar_char _) W129 2 rfl (Nat.le_of_ble_eq_true rfl)
      exact q
    have K129 : Keep h0 h129 [] := K124.wr W129 (Or.inr sz_b113)
    have Z129 : n0 ≤ h129.size := Nat.le_trans Z124 (Keep.of_wr W129).1
    have N129 := Fr.snoc X129 N124 g_b113
    refine own_by st129 ?_
    have sg134 : ∀ t, own_S p e below T129 (mkF m 134 #[.val (.int p0)] [(.int (101 : Int32)), (.int (3 : Int32)), (.ref b113), (.ref b113)]) t → own_S p e below T129 (mkF m 130 #[.val (.int p0)] [(.ref b113)]) t := by
      intro t k
      show own_S p e below T129 (mkF m 130 #[.val (.int p0)] [(.ref b113)]) _
      refine XS.dup X129.here hx rfl (hb hby d1_130) rfl rfl ?_
      show own_S p e below T129 (mkF m 131 #[.val (.int p0)] [(.ref b113), (.ref b113)]) _
      refine XS.iconst X129.here hx rfl (hb hby d1_131) ?_
      show own_S p e below T129 (mkF m 132 #[.val (.int p0)] [(.int (3 : Int32)), (.ref b113), (.ref b113)]) _
      refine XS.bipush X129.here hx rfl (hb hby d1_132) ?_
      exact k
    refine own_by sg134 ?_
    obtain ⟨cl134, Ar134, qa134, Sa134, Na134, Ha134, Ga134⟩ := id V129
    obtain ⟨T134, h134, X134, e134, W134, st134⟩ := stC X129 hx hZ e129 Ar134 (j := (3 : Int32)) (inb_of Sa134 ⟨by decide, by decide⟩) (g := (mkF m 134 #[.val (.int p0)] [(.int (101 : Int32)), (.int (3 : Int32)), (.ref b113), (.ref b113)])) rfl rfl (hb hby d1_134)
    have V134 : Arv Z h134 b113 kc113 .char (18 : Int32) [(.int (99 : Int32)), (.int (108 : Int32)), (.int (105 : Int32)), (.int (101 : Int32)), (.int (0 : Int32)), (.int (0 : Int32)), (.int (0 : Int32)), (.int (0 : Int32)), (.int (0 : Int32)), (.int (0 : Int32)), (.int (0 : Int32)), (.int (0 : Int32)), (.int (0 : Int32)), (.int (0 : Int32)), (.int (0 : Int32)), (.int (0 : Int32)), (.int (0 : Int32)), (.int (0 : Int32))] (.int (0 : Int32)) := by
      have q := Arv.set Ar134 qa134 Sa134 Na134 Ha134 Ga134 (fits_nar_char _) W134 3 rfl (Nat.le_of_ble_eq_true rfl)
      exact q
    have K134 : Keep h0 h134 [] := K129.wr W134 (Or.inr sz_b113)
    have Z134 : n0 ≤ h134.size := Nat.le_trans Z129 (Keep.of_wr W134).1
    have N134 := Fr.snoc X134 N129 g_b113
    refine own_by st134 ?_
    have sg139 : ∀ t, own_S p e below T134 (mkF m 139 #[.val (.int p0)] [(.int (110 : Int32)), (.int (4 : Int32)), (.ref b113), (.ref b113)]) t → own_S p e below T134 (mkF m 135 #[.val (.int p0)] [(.ref b113)]) t := by
      intro t k
      show own_S p e below T134 (mkF m 135 #[.val (.int p0)] [(.ref b113)]) _
      refine XS.dup X134.here hx rfl (hb hby d1_135) rfl rfl ?_
      show own_S p e below T134 (mkF m 136 #[.val (.int p0)] [(.ref b113), (.ref b113)]) _
      refine XS.iconst X134.here hx rfl (hb hby d1_136) ?_
      show own_S p e below T134 (mkF m 137 #[.val (.int p0)] [(.int (4 : Int32)), (.ref b113), (.ref b113)]) _
      refine XS.bipush X134.here hx rfl (hb hby d1_137) ?_
      exact k
    refine own_by sg139 ?_
    obtain ⟨cl139, Ar139, qa139, Sa139, Na139, Ha139, Ga139⟩ := id V134
    obtain ⟨T139, h139, X139, e139, W139, st139⟩ := stC X134 hx hZ e134 Ar139 (j := (4 : Int32)) (inb_of Sa139 ⟨by decide, by decide⟩) (g := (mkF m 139 #[.val (.int p0)] [(.int (110 : Int32)), (.int (4 : Int32)), (.ref b113), (.ref b113)])) rfl rfl (hb hby d1_139)
    have V139 : Arv Z h139 b113 kc113 .char (18 : Int32) [(.int (99 : Int32)), (.int (108 : Int32)), (.int (105 : Int32)), (.int (101 : Int32)), (.int (110 : Int32)), (.int (0 : Int32)), (.int (0 : Int32)), (.int (0 : Int32)), (.int (0 : Int32)), (.int (0 : Int32)), (.int (0 : Int32)), (.int (0 : Int32)), (.int (0 : Int32)), (.int (0 : Int32)), (.int (0 : Int32)), (.int (0 : Int32)), (.int (0 : Int32)), (.int (0 : Int32))] (.int (0 : Int32)) := by
      have q := Arv.set Ar139 qa139 Sa139 Na139 Ha139 Ga139 (fits_nar_char _) W139 4 rfl (Nat.le_of_ble_eq_true rfl)
      exact q
    have K139 : Keep h0 h139 [] := K134.wr W139 (Or.inr sz_b113)
    have Z139 : n0 ≤ h139.size := Nat.le_trans Z134 (Keep.of_wr W139).1
    have N139 := Fr.snoc X139 N134 g_b113
    refine own_by st139 ?_
    have sg144 : ∀ t, own_S p e below T139 (mkF m 144 #[.val (.int p0)] [(.int (116 : Int32)), (.int (5 : Int32)), (.ref b113), (.ref b113)]) t → own_S p e below T139 (mkF m 140 #[.val (.int p0)] [(.ref b113)]) t := by
      intro t k
      show own_S p e below T139 (mkF m 140 #[.val (.int p0)] [(.ref b113)]) _
      refine XS.dup X139.here hx rfl (hb hby d1_140) rfl rfl ?_
      show own_S p e below T139 (mkF m 141 #[.val (.int p0)] [(.ref b113), (.ref b113)]) _
      refine XS.iconst X139.here hx rfl (hb hby d1_141) ?_
      show own_S p e below T139 (mkF m 142 #[.val (.int p0)] [(.int (5 : Int32)), (.ref b113), (.ref b113)]) _
      refine XS.bipush X139.here hx rfl (hb hby d1_142) ?_
      exact k
    refine own_by sg144 ?_
    obtain ⟨cl144, Ar144, qa144, Sa144, Na144, Ha144, Ga144⟩ := id V139
    obtain ⟨T144, h144, X144, e144, W144, st144⟩ := stC X139 hx hZ e139 Ar144 (j := (5 : Int32)) (inb_of Sa144 ⟨by decide, by decide⟩) (g := (mkF m 144 #[.val (.int p0)] [(.int (116 : Int32)), (.int (5 : Int32)), (.ref b113), (.ref b113)])) rfl rfl (hb hby d1_144)
    have V144 : Arv Z h144 b113 kc113 .char (18 : Int32) [(.int (99 : Int32)), (.int (108 : Int32)), (.int (105 : Int32)), (.int (101 : Int32)), (.int (110 : Int32)), (.int (116 : Int32)), (.int (0 : Int32)), (.int (0 : Int32)), (.int (0 : Int32)), (.int (0 : Int32)), (.int (0 : Int32)), (.int (0 : Int32)), (.int (0 : Int32)), (.int (0 : Int32)), (.int (0 : Int32)), (.int (0 : Int32)), (.int (0 : Int32)), (.int (0 : Int32))] (.int (0 : Int32)) := by
      have q := Arv.set Ar144 qa144 Sa144 Na144 Ha144 Ga144 (fits_nar_char _) W144 5 rfl (Nat.le_of_ble_eq_true rfl)
      exact q
    have K144 : Keep h0 h144 [] := K139.wr W144 (Or.inr sz_b113)
    have Z144 : n0 ≤ h144.size := Nat.le_trans Z139 (Keep.of_wr W144).1
    have N144 := Fr.snoc X144 N139 g_b113
    refine own_by st144 ?_
    have sg150 : ∀ t, own_S p e below T144 (mkF m 150 #[.val (.int p0)] [(.int (95 : Int32)), (.int (6 : Int32)), (.ref b113), (.ref b113)]) t → own_S p e below T144 (mkF m 145 #[.val (.int p0)] [(.ref b113)]) t := by
      intro t k
      show own_S p e below T144 (mkF m 145 #[.val (.int p0)] [(.ref b113)]) _
      refine XS.dup X144.here hx rfl (hb hby d1_145) rfl rfl ?_
      show own_S p e below T144 (mkF m 146 #[.val (.int p0)] [(.ref b113), (.ref b113)]) _
      refine XS.bipush X144.here hx rfl (hb hby d1_146) ?_
      show own_S p e below T144 (mkF m 148 #[.val (.int p0)] [(.int (6 : Int32)), (.ref b113), (.ref b113)]) _
      refine XS.bipush X144.here hx rfl (hb hby d1_148) ?_
      exact k
    refine own_by sg150 ?_
    obtain ⟨cl150, Ar150, qa150, Sa150, Na150, Ha150, Ga150⟩ := id V144
    obtain ⟨T150, h150, X150, e150, W150, st150⟩ := stC X144 hx hZ e144 Ar150 (j := (6 : Int32)) (inb_of Sa150 ⟨by decide, by decide⟩) (g := (mkF m 150 #[.val (.int p0)] [(.int (95 : Int32)), (.int (6 : Int32)), (.ref b113), (.ref b113)])) rfl rfl (hb hby d1_150)
    have V150 : Arv Z h150 b113 kc113 .char (18 : Int32) [(.int (99 : Int32)), (.int (108 : Int32)), (.int (105 : Int32)), (.int (101 : Int32)), (.int (110 : Int32)), (.int (116 : Int32)), (.int (95 : Int32)), (.int (0 : Int32)), (.int (0 : Int32)), (.int (0 : Int32)), (.int (0 : Int32)), (.int (0 : Int32)), (.int (0 : Int32)), (.int (0 : Int32)), (.int (0 : Int32)), (.int (0 : Int32)), (.int (0 : Int32)), (.int (0 : Int32))] (.int (0 : Int32)) := by
      have q := Arv.set Ar150 qa150 Sa150 Na150 Ha150 Ga150 (fits_nar_char _) W150 6 rfl (Nat.le_of_ble_eq_true rfl)
      exact q
    have K150 : Keep h0 h150 [] := K144.wr W150 (Or.inr sz_b113)
    have Z150 : n0 ≤ h150.size := Nat.le_trans Z144 (Keep.of_wr W150).1
    have N150 := Fr.snoc X150 N144 g_b113
    refine own_by st150 ?_
    have sg156 : ∀ t, own_S p e below T150 (mkF m 156 #[.val (.int p0)] [(.int (99 : Int32)), (.int (7 : Int32)), (.ref b113), (.ref b113)]) t → own_S p e below T150 (mkF m 151 #[.val (.int p0)] [(.ref b113)]) t := by
      intro t k
      show own_S p e below T150 (mkF m 151 #[.val (.int p0)] [(.ref b113)]) _
      refine XS.dup X150.here hx rfl (hb hby d1_151) rfl rfl ?_
      show own_S p e below T150 (mkF m 152 #[.val (.int p0)] [(.ref b113), (.ref b113)]) _
      refine XS.bipush X150.here hx rfl (hb hby d1_152) ?_
      show own_S p e below T150 (mkF m 154 #[.val (.int p0)] [(.int (7 : Int32)), (.ref b113), (.ref b113)]) _
      refine XS.bipush X150.here hx rfl (hb hby d1_154) ?_
      exact k
    refine own_by sg156 ?_
    obtain ⟨cl156, Ar156, qa156, Sa156, Na156, Ha156, Ga156⟩ := id V150
    obtain ⟨T156, h156, X156, e156, W156, st156⟩ := stC X150 hx hZ e150 Ar156 (j := (7 : Int32)) (inb_of Sa156 ⟨by decide, by decide⟩) (g := (mkF m 156 #[.val (.int p0)] [(.int (99 : Int32)), (.int (7 : Int32)), (.ref b113), (.ref b113)])) rfl rfl (hb hby d1_156)
    have V156 : Arv Z h156 b113 kc113 .char (18 : Int32) [(.int (99 : Int32)), (.int (108 : Int32)), (.int (105 : Int32)), (.int (101 : Int32)), (.int (110 : Int32)), (.int (116 : Int32)), (.int (95 : Int32)), (.int (99 : Int32)), (.int (0 : Int32)), (.int (0 : Int32)), (.int (0 : Int32)), (.int (0 : Int32)), (.int (0 : Int32)), (.int (0 : Int32)), (.int (0 : Int32)), (.int (0 : Int32)), (.int (0 : Int32)), (.int (0 : Int32))] (.int (0 : Int32)) := by
      have q := Arv.set Ar156 qa156 Sa156 Na156 Ha156 Ga156 (fits_nar_char _) W156 7 rfl (Nat.le_of_ble_eq_true rfl)
      exact q
    have K156 : Keep h0 h156 [] := K150.wr W156 (Or.inr sz_b113)
    have Z156 : n0 ≤ h156.size := Nat.le_trans Z150 (Keep.of_wr W156).1
    have N156 := Fr.snoc X156 N150 g_b113
    refine own_by st156 ?_
    have sg162 : ∀ t, own_S p e below T156 (mkF m 162 #[.val (.int p0)] [(.int (114 : Int32)), (.int (8 : Int32)), (.ref b113), (.ref b113)]) t → own_S p e below T156 (mkF m 157 #[.val (.int p0)] [(.ref b113)]) t := by
      intro t k
      show own_S p e below T156 (mkF m 157 #[.val (.int p0)] [(.ref b113)]) _
      refine XS.dup X156.here hx rfl (hb hby d1_157) rfl rfl ?_
      show own_S p e below T156 (mkF m 158 #[.val (.int p0)] [(.ref b113), (.ref b113)]) _
      refine XS.bipush X156.here hx rfl (hb hby d1_158) ?_
      show own_S p e below T156 (mkF m 160 #[.val (.int p0)] [(.int (8 : Int32)), (.ref b113), (.ref b113)]) _
      refine XS.bipush X156.here hx rfl (hb hby d1_160) ?_
      exact k
    refine own_by sg162 ?_
    obtain ⟨cl162, Ar162, qa162, Sa162, Na162, Ha162, Ga162⟩ := id V156
    obtain ⟨T162, h162, X162, e162, W162, st162⟩ := stC X156 hx hZ e156 Ar162 (j := (8 : Int32)) (inb_of Sa162 ⟨by decide, by decide⟩) (g := (mkF m 162 #[.val (.int p0)] [(.int (114 : Int32)), (.int (8 : Int32)), (.ref b113), (.ref b113)])) rfl rfl (hb hby d1_162)
    have V162 : Arv Z h162 b113 kc113 .char (18 : Int32) [(.int (99 : Int32)), (.int (108 : Int32)), (.int (105 : Int32)), (.int (101 : Int32)), (.int (110 : Int32)), (.int (116 : Int32)), (.int (95 : Int32)), (.int (99 : Int32)), (.int (114 : Int32)), (.int (0 : Int32)), (.int (0 : Int32)), (.int (0 : Int32)), (.int (0 : Int32)), (.int (0 : Int32)), (.int (0 : Int32)), (.int (0 : Int32)), (.int (0 : Int32)), (.int (0 : Int32))] (.int (0 : Int32)) := by
      have q := Arv.set Ar162 qa162 Sa162 Na162 Ha162 Ga162 (fits_nar_char _) W162 8 rfl (Nat.le_of_ble_eq_true rfl)
      exact q
    have K162 : Keep h0 h162 [] := K156.wr W162 (Or.inr sz_b113)
    have Z162 : n0 ≤ h162.size := Nat.le_trans Z156 (Keep.of_wr W162).1
    have N162 := Fr.snoc X162 N156 g_b113
    refine own_by st162 ?_
    have sg168 : ∀ t, own_S p e below T162 (mkF m 168 #[.val (.int p0)] [(.int (101 : Int32)), (.int (9 : Int32)), (.ref b113), (.ref b113)]) t → own_S p e below T162 (mkF m 163 #[.val (.int p0)] [(.ref b113)]) t := by
      intro t k
      show own_S p e below T162 (mkF m 163 #[.val (.int p0)] [(.ref b113)]) _
      refine XS.dup X162.here hx rfl (hb hby d1_163) rfl rfl ?_
      show own_S p e below T162 (mkF m 164 #[.val (.int p0)] [(.ref b113), (.ref b113)]) _
      refine XS.bipush X162.here hx rfl (hb hby d1_164) ?_
      show own_S p e below T162 (mkF m 166 #[.val (.int p0)] [(.int (9 : Int32)), (.ref b113), (.ref b113)]) _
      refine XS.bipush X162.here hx rfl (hb hby d1_166) ?_
      exact k
    refine own_by sg168 ?_
    obtain ⟨cl168, Ar168, qa168, Sa168, Na168, Ha168, Ga168⟩ := id V162
    obtain ⟨T168, h168, X168, e168, W168, st168⟩ := stC X162 hx hZ e162 Ar168 (j := (9 : Int32)) (inb_of Sa168 ⟨by decide, by decide⟩) (g := (mkF m 168 #[.val (.int p0)] [(.int (101 : Int32)), (.int (9 : Int32)), (.ref b113), (.ref b113)])) rfl rfl (hb hby d1_168)
    have V168 : Arv Z h168 b113 kc113 .char (18 : Int32) [(.int (99 : Int32)), (.int (108 : Int32)), (.int (105 : Int32)), (.int (101 : Int32)), (.int (110 : Int32)), (.int (116 : Int32)), (.int (95 : Int32)), (.int (99 : Int32)), (.int (114 : Int32)), (.int (101 : Int32)), (.int (0 : Int32)), (.int (0 : Int32)), (.int (0 : Int32)), (.int (0 : Int32)), (.int (0 : Int32)), (.int (0 : Int32)), (.int (0 : Int32)), (.int (0 : Int32))] (.int (0 : Int32)) := by
      have q := Arv.set Ar168 qa168 Sa168 Na168 Ha168 Ga168 (fits_nar_char _) W168 9 rfl (Nat.le_of_ble_eq_true rfl)
      exact q
    have K168 : Keep h0 h168 [] := K162.wr W168 (Or.inr sz_b113)
    have Z168 : n0 ≤ h168.size := Nat.le_trans Z162 (Keep.of_wr W168).1
    have N168 := Fr.snoc X168 N162 g_b113
    refine own_by st168 ?_
    have sg174 : ∀ t, own_S p e below T168 (mkF m 174 #[.val (.int p0)] [(.int (100 : Int32)), (.int (10 : Int32)), (.ref b113), (.ref b113)]) t → own_S p e below T168 (mkF m 169 #[.val (.int p0)] [(.ref b113)]) t := by
      intro t k
      show own_S p e below T168 (mkF m 169 #[.val (.int p0)] [(.ref b113)]) _
      refine XS.dup X168.here hx rfl (hb hby d1_169) rfl rfl ?_
      show own_S p e below T168 (mkF m 170 #[.val (.int p0)] [(.ref b113), (.ref b113)]) _
      refine XS.bipush X168.here hx rfl (hb hby d1_170) ?_
      show own_S p e below T168 (mkF m 172 #[.val (.int p0)] [(.int (10 : Int32)), (.ref b113), (.ref b113)]) _
      refine XS.bipush X168.here hx rfl (hb hby d1_172) ?_
      exact k
    refine own_by sg174 ?_
    obtain ⟨cl174, Ar174, qa174, Sa174, Na174, Ha174, Ga174⟩ := id V168
    obtain ⟨T174, h174, X174, e174, W174, st174⟩ := stC X168 hx hZ e168 Ar174 (j := (10 : Int32)) (inb_of Sa174 ⟨by decide, by decide⟩) (g := (mkF m 174 #[.val (.int p0)] [(.int (100 : Int32)), (.int (10 : Int32)), (.ref b113), (.ref b113)])) rfl rfl (hb hby d1_174)
    have V174 : Arv Z h174 b113 kc113 .char (18 : Int32) [(.int (99 : Int32)), (.int (108 : Int32)), (.int (105 : Int32)), (.int (101 : Int32)), (.int (110 : Int32)), (.int (116 : Int32)), (.int (95 : Int32)), (.int (99 : Int32)), (.int (114 : Int32)), (.int (101 : Int32)), (.int (100 : Int32)), (.int (0 : Int32)), (.int (0 : Int32)), (.int (0 : Int32)), (.int (0 : Int32)), (.int (0 : Int32)), (.int (0 : Int32)), (.int (0 : Int32))] (.int (0 : Int32)) := by
      have q := Arv.set Ar174 qa174 Sa174 Na174 Ha174 Ga174 (fits_nar_char _) W174 10 rfl (Nat.le_of_ble_eq_true rfl)
      exact q
    have K174 : Keep h0 h174 [] := K168.wr W174 (Or.inr sz_b113)
    have Z174 : n0 ≤ h174.size := Nat.le_trans Z168 (Keep.of_wr W174).1
    have N174 := Fr.snoc X174 N168 g_b113
    refine own_by st174 ?_
    have sg180 : ∀ t, own_S p e below T174 (mkF m 180 #[.val (.int p0)] [(.int (101 : Int32)), (.int (11 : Int32)), (.ref b113), (.ref b113)]) t → own_S p e below T174 (mkF m 175 #[.val (.int p0)] [(.ref b113)]) t := by
      intro t k
      show own_S p e below T174 (mkF m 175 #[.val (.int p0)] [(.ref b113)]) _
      refine XS.dup X174.here hx rfl (hb hby d1_175) rfl rfl ?_
      show own_S p e below T174 (mkF m 176 #[.val (.int p0)] [(.ref b113), (.ref b113)]) _
      refine XS.bipush X174.here hx rfl (hb hby d1_176) ?_
      show own_S p e below T174 (mkF m 178 #[.val (.int p0)] [(.int (11 : Int32)), (.ref b113), (.ref b113)]) _
      refine XS.bipush X174.here hx rfl (hb hby d1_178) ?_
      exact k
    refine own_by sg180 ?_
    obtain ⟨cl180, Ar180, qa180, Sa180, Na180, Ha180, Ga180⟩ := id V174
    obtain ⟨T180, h180, X180, e180, W180, st180⟩ := stC X174 hx hZ e174 Ar180 (j := (11 : Int32)) (inb_of Sa180 ⟨by decide, by decide⟩) (g := (mkF m 180 #[.val (.int p0)] [(.int (101 : Int32)), (.int (11 : Int32)), (.ref b113), (.ref b113)])) rfl rfl (hb hby d1_180)
    have V180 : Arv Z h180 b113 kc113 .char (18 : Int32) [(.int (99 : Int32)), (.int (108 : Int32)), (.int (105 : Int32)), (.int (101 : Int32)), (.int (110 : Int32)), (.int (116 : Int32)), (.int (95 : Int32)), (.int (99 : Int32)), (.int (114 : Int32)), (.int (101 : Int32)), (.int (100 : Int32)), (.int (101 : Int32)), (.int (0 : Int32)), (.int (0 : Int32)), (.int (0 : Int32)), (.int (0 : Int32)), (.int (0 : Int32)), (.int (0 : Int32))] (.int (0 : Int32)) := by
      have q := Arv.set Ar180 qa180 Sa180 Na180 Ha180 Ga180 (fits_nar_char _) W180 11 rfl (Nat.le_of_ble_eq_true rfl)
      exact q
    have K180 : Keep h0 h180 [] := K174.wr W180 (Or.inr sz_b113)
    have Z180 : n0 ≤ h180.size := Nat.le_trans Z174 (Keep.of_wr W180).1
    have N180 := Fr.snoc X180 N174 g_b113
    refine own_by st180 ?_
    have sg186 : ∀ t, own_S p e below T180 (mkF m 186 #[.val (.int p0)] [(.int (110 : Int32)), (.int (12 : Int32)), (.ref b113), (.ref b113)]) t → own_S p e below T180 (mkF m 181 #[.val (.int p0)] [(.ref b113)]) t := by
      intro t k
      show own_S p e below T180 (mkF m 181 #[.val (.int p0)] [(.ref b113)]) _
      refine XS.dup X180.here hx rfl (hb hby d1_181) rfl rfl ?_
      show own_S p e below T180 (mkF m 182 #[.val (.int p0)] [(.ref b113), (.ref b113)]) _
      refine XS.bipush X180.here hx rfl (hb hby d1_182) ?_
      show own_S p e below T180 (mkF m 184 #[.val (.int p0)] [(.int (12 : Int32)), (.ref b113), (.ref b113)]) _
      refine XS.bipush X180.here hx rfl (hb hby d1_184) ?_
      exact k
    refine own_by sg186 ?_
    obtain ⟨cl186, Ar186, qa186, Sa186, Na186, Ha186, Ga186⟩ := id V180
    obtain ⟨T186, h186, X186, e186, W186, st186⟩ := stC X180 hx hZ e180 Ar186 (j := (12 : Int32)) (inb_of Sa186 ⟨by decide, by decide⟩) (g := (mkF m 186 #[.val (.int p0)] [(.int (110 : Int32)), (.int (12 : Int32)), (.ref b113), (.ref b113)])) rfl rfl (hb hby d1_186)
    have V186 : Arv Z h186 b113 kc113 .char (18 : Int32) [(.int (99 : Int32)), (.int (108 : Int32)), (.int (105 : Int32)), (.int (101 : Int32)), (.int (110 : Int32)), (.int (116 : Int32)), (.int (95 : Int32)), (.int (99 : Int32)), (.int (114 : Int32)), (.int (101 : Int32)), (.int (100 : Int32)), (.int (101 : Int32)), (.int (110 : Int32)), (.int (0 : Int32)), (.int (0 : Int32)), (.int (0 : Int32)), (.int (0 : Int32)), (.int (0 : Int32))] (.int (0 : Int32)) := by
      have q := Arv.set Ar186 qa186 Sa186 Na186 Ha186 Ga186 (fits_nar_char _) W186 12 rfl (Nat.le_of_ble_eq_true rfl)
      exact q
    have K186 : Keep h0 h186 [] := K180.wr W186 (Or.inr sz_b113)
    have Z186 : n0 ≤ h186.size := Nat.le_trans Z180 (Keep.of_wr W186).1
    have N186 := Fr.snoc X186 N180 g_b113
    refine own_by st186 ?_
    have sg192 : ∀ t, own_S p e below T186 (mkF m 192 #[.val (.int p0)] [(.int (116 : Int32)), (.int (13 : Int32)), (.ref b113), (.ref b113)]) t → own_S p e below T186 (mkF m 187 #[.val (.int p0)] [(.ref b113)]) t := by
      intro t k
      show own_S p e below T186 (mkF m 187 #[.val (.int p0)] [(.ref b113)]) _
      refine XS.dup X186.here hx rfl (hb hby d1_187) rfl rfl ?_
      show own_S p e below T186 (mkF m 188 #[.val (.int p0)] [(.ref b113), (.ref b113)]) _
      refine XS.bipush X186.here hx rfl (hb hby d1_188) ?_
      show own_S p e below T186 (mkF m 190 #[.val (.int p0)] [(.int (13 : Int32)), (.ref b113), (.ref b113)]) _
      refine XS.bipush X186.here hx rfl (hb hby d1_190) ?_
      exact k
    refine own_by sg192 ?_
    obtain ⟨cl192, Ar192, qa192, Sa192, Na192, Ha192, Ga192⟩ := id V186
    obtain ⟨T192, h192, X192, e192, W192, st192⟩ := stC X186 hx hZ e186 Ar192 (j := (13 : Int32)) (inb_of Sa192 ⟨by decide, by decide⟩) (g := (mkF m 192 #[.val (.int p0)] [(.int (116 : Int32)), (.int (13 : Int32)), (.ref b113), (.ref b113)])) rfl rfl (hb hby d1_192)
    have V192 : Arv Z h192 b113 kc113 .char (18 : Int32) [(.int (99 : Int32)), (.int (108 : Int32)), (.int (105 : Int32)), (.int (101 : Int32)), (.int (110 : Int32)), (.int (116 : Int32)), (.int (95 : Int32)), (.int (99 : Int32)), (.int (114 : Int32)), (.int (101 : Int32)), (.int (100 : Int32)), (.int (101 : Int32)), (.int (110 : Int32)), (.int (116 : Int32)), (.int (0 : Int32)), (.int (0 : Int32)), (.int (0 : Int32)), (.int (0 : Int32))] (.int (0 : Int32)) := by
      have q := Arv.set Ar192 qa192 Sa192 Na192 Ha192 Ga192 (fits_nar_char _) W192 13 rfl (Nat.le_of_ble_eq_true rfl)
      exact q
    have K192 : Keep h0 h192 [] := K186.wr W192 (Or.inr sz_b113)
    have Z192 : n0 ≤ h192.size := Nat.le_trans Z186 (Keep.of_wr W192).1
    have N192 := Fr.snoc X192 N186 g_b113
    refine own_by st192 ?_
    have sg198 : ∀ t, own_S p e below T192 (mkF m 198 #[.val (.int p0)] [(.int (105 : Int32)), (.int (14 : Int32)), (.ref b113), (.ref b113)]) t → own_S p e below T192 (mkF m 193 #[.val (.int p0)] [(.ref b113)]) t := by
      intro t k
      show own_S p e below T192 (mkF m 193 #[.val (.int p0)] [(.ref b113)]) _
      refine XS.dup X192.here hx rfl (hb hby d1_193) rfl rfl ?_
      show own_S p e below T192 (mkF m 194 #[.val (.int p0)] [(.ref b113), (.ref b113)]) _
      refine XS.bipush X192.here hx rfl (hb hby d1_194) ?_
      show own_S p e below T192 (mkF m 196 #[.val (.int p0)] [(.int (14 : Int32)), (.ref b113), (.ref b113)]) _
      refine XS.bipush X192.here hx rfl (hb hby d1_196) ?_
      exact k
    refine own_by sg198 ?_
    obtain ⟨cl198, Ar198, qa198, Sa198, Na198, Ha198, Ga198⟩ := id V192
    obtain ⟨T198, h198, X198, e198, W198, st198⟩ := stC X192 hx hZ e192 Ar198 (j := (14 : Int32)) (inb_of Sa198 ⟨by decide, by decide⟩) (g := (mkF m 198 #[.val (.int p0)] [(.int (105 : Int32)), (.int (14 : Int32)), (.ref b113), (.ref b113)])) rfl rfl (hb hby d1_198)
    have V198 : Arv Z h198 b113 kc113 .char (18 : Int32) [(.int (99 : Int32)), (.int (108 : Int32)), (.int (105 : Int32)), (.int (101 : Int32)), (.int (110 : Int32)), (.int (116 : Int32)), (.int (95 : Int32)), (.int (99 : Int32)), (.int (114 : Int32)), (.int (101 : Int32)), (.int (100 : Int32)), (.int (101 : Int32)), (.int (110 : Int32)), (.int (116 : Int32)), (.int (105 : Int32)), (.int (0 : Int32)), (.int (0 : Int32)), (.int (0 : Int32))] (.int (0 : Int32)) := by
      have q := Arv.set Ar198 qa198 Sa198 Na198 Ha198 Ga198 (fits_nar_char _) W198 14 rfl (Nat.le_of_ble_eq_true rfl)
      exact q
    have K198 : Keep h0 h198 [] := K192.wr W198 (Or.inr sz_b113)
    have Z198 : n0 ≤ h198.size := Nat.le_trans Z192 (Keep.of_wr W198).1
    have N198 := Fr.snoc X198 N192 g_b113
    refine own_by st198 ?_
    have sg204 : ∀ t, own_S p e below T198 (mkF m 204 #[.val (.int p0)] [(.int (97 : Int32)), (.int (15 : Int32)), (.ref b113), (.ref b113)]) t → own_S p e below T198 (mkF m 199 #[.val (.int p0)] [(.ref b113)]) t := by
      intro t k
      show own_S p e below T198 (mkF m 199 #[.val (.int p0)] [(.ref b113)]) _
      refine XS.dup X198.here hx rfl (hb hby d1_199) rfl rfl ?_
      show own_S p e below T198 (mkF m 200 #[.val (.int p0)] [(.ref b113), (.ref b113)]) _
      refine XS.bipush X198.here hx rfl (hb hby d1_200) ?_
      show own_S p e below T198 (mkF m 202 #[.val (.int p0)] [(.int (15 : Int32)), (.ref b113), (.ref b113)]) _
      refine XS.bipush X198.here hx rfl (hb hby d1_202) ?_
      exact k
    refine own_by sg204 ?_
    obtain ⟨cl204, Ar204, qa204, Sa204, Na204, Ha204, Ga204⟩ := id V198
    obtain ⟨T204, h204, X204, e204, W204, st204⟩ := stC X198 hx hZ e198 Ar204 (j := (15 : Int32)) (inb_of Sa204 ⟨by decide, by decide⟩) (g := (mkF m 204 #[.val (.int p0)] [(.int (97 : Int32)), (.int (15 : Int32)), (.ref b113), (.ref b113)])) rfl rfl (hb hby d1_204)
    have V204 : Arv Z h204 b113 kc113 .char (18 : Int32) [(.int (99 : Int32)), (.int (108 : Int32)), (.int (105 : Int32)), (.int (101 : Int32)), (.int (110 : Int32)), (.int (116 : Int32)), (.int (95 : Int32)), (.int (99 : Int32)), (.int (114 : Int32)), (.int (101 : Int32)), (.int (100 : Int32)), (.int (101 : Int32)), (.int (110 : Int32)), (.int (116 : Int32)), (.int (105 : Int32)), (.int (97 : Int32)), (.int (0 : Int32)), (.int (0 : Int32))] (.int (0 : Int32)) := by
      have q := Arv.set Ar204 qa204 Sa204 Na204 Ha204 Ga204 (fits_nar_char _) W204 15 rfl (Nat.le_of_ble_eq_true rfl)
      exact q
    have K204 : Keep h0 h204 [] := K198.wr W204 (Or.inr sz_b113)
    have Z204 : n0 ≤ h204.size := Nat.le_trans Z198 (Keep.of_wr W204).1
    have N204 := Fr.snoc X204 N198 g_b113
    refine own_by st204 ?_
    have sg210 : ∀ t, own_S p e below T204 (mkF m 210 #[.val (.int p0)] [(.int (108 : Int32)), (.int (16 : Int32)), (.ref b113), (.ref b113)]) t → own_S p e below T204 (mkF m 205 #[.val (.int p0)] [(.ref b113)]) t := by
      intro t k
      show own_S p e below T204 (mkF m 205 #[.val (.int p0)] [(.ref b113)]) _
      refine XS.dup X204.here hx rfl (hb hby d1_205) rfl rfl ?_
      show own_S p e below T204 (mkF m 206 #[.val (.int p0)] [(.ref b113), (.ref b113)]) _
      refine XS.bipush X204.here hx rfl (hb hby d1_206) ?_
      show own_S p e below T204 (mkF m 208 #[.val (.int p0)] [(.int (16 : Int32)), (.ref b113), (.ref b113)]) _
      refine XS.bipush X204.here hx rfl (hb hby d1_208) ?_
      exact k
    refine own_by sg210 ?_
    obtain ⟨cl210, Ar210, qa210, Sa210, Na210, Ha210, Ga210⟩ := id V204
    obtain ⟨T210, h210, X210, e210, W210, st210⟩ := stC X204 hx hZ e204 Ar210 (j := (16 : Int32)) (inb_of Sa210 ⟨by decide, by decide⟩) (g := (mkF m 210 #[.val (.int p0)] [(.int (108 : Int32)), (.int (16 : Int32)), (.ref b113), (.ref b113)])) rfl rfl (hb hby d1_210)
    have V210 : Arv Z h210 b113 kc113 .char (18 : Int32) [(.int (99 : Int32)), (.int (108 : Int32)), (.int (105 : Int32)), (.int (101 : Int32)), (.int (110 : Int32)), (.int (116 : Int32)), (.int (95 : Int32)), (.int (99 : Int32)), (.int (114 : Int32)), (.int (101 : Int32)), (.int (100 : Int32)), (.int (101 : Int32)), (.int (110 : Int32)), (.int (116 : Int32)), (.int (105 : Int32)), (.int (97 : Int32)), (.int (108 : Int32)), (.int (0 : Int32))] (.int (0 : Int32)) := by
      have q := Arv.set Ar210 qa210 Sa210 Na210 Ha210 Ga210 (fits_nar_char _) W210 16 rfl (Nat.le_of_ble_eq_true rfl)
      exact q
    have K210 : Keep h0 h210 [] := K204.wr W210 (Or.inr sz_b113)
    have Z210 : n0 ≤ h210.size := Nat.le_trans Z204 (Keep.of_wr W210).1
    have N210 := Fr.snoc X210 N204 g_b113
    refine own_by st210 ?_
    have sg216 : ∀ t, own_S p e below T210 (mkF m 216 #[.val (.int p0)] [(.int (115 : Int32)), (.int (17 : Int32)), (.ref b113), (.ref b113)]) t → own_S p e below T210 (mkF m 211 #[.val (.int p0)] [(.ref b113)]) t := by
      intro t k
      show own_S p e below T210 (mkF m 211 #[.val (.int p0)] [(.ref b113)]) _
      refine XS.dup X210.here hx rfl (hb hby d1_211) rfl rfl ?_
      show own_S p e below T210 (mkF m 212 #[.val (.int p0)] [(.ref b113), (.ref b113)]) _
      refine XS.bipush X210.here hx rfl (hb hby d1_212) ?_
      show own_S p e below T210 (mkF m 214 #[.val (.int p0)] [(.int (17 : Int32)), (.ref b113), (.ref b113)]) _
      refine XS.bipush X210.here hx rfl (hb hby d1_214) ?_
      exact k
    refine own_by sg216 ?_
    obtain ⟨cl216, Ar216, qa216, Sa216, Na216, Ha216, Ga216⟩ := id V210
    obtain ⟨T216, h216, X216, e216, W216, st216⟩ := stC X210 hx hZ e210 Ar216 (j := (17 : Int32)) (inb_of Sa216 ⟨by decide, by decide⟩) (g := (mkF m 216 #[.val (.int p0)] [(.int (115 : Int32)), (.int (17 : Int32)), (.ref b113), (.ref b113)])) rfl rfl (hb hby d1_216)
    have V216 : Arv Z h216 b113 kc113 .char (18 : Int32) [(.int (99 : Int32)), (.int (108 : Int32)), (.int (105 : Int32)), (.int (101 : Int32)), (.int (110 : Int32)), (.int (116 : Int32)), (.int (95 : Int32)), (.int (99 : Int32)), (.int (114 : Int32)), (.int (101 : Int32)), (.int (100 : Int32)), (.int (101 : Int32)), (.int (110 : Int32)), (.int (116 : Int32)), (.int (105 : Int32)), (.int (97 : Int32)), (.int (108 : Int32)), (.int (115 : Int32))] (.int (0 : Int32)) := by
      have q := Arv.set Ar216 qa216 Sa216 Na216 Ha216 Ga216 (fits_nar_char _) W216 17 rfl (Nat.le_of_ble_eq_true rfl)
      exact q
    have K216 : Keep h0 h216 [] := K210.wr W216 (Or.inr sz_b113)
    have Z216 : n0 ≤ h216.size := Nat.le_trans Z210 (Keep.of_wr W216).1
    have N216 := Fr.snoc X216 N210 g_b113
    refine own_by st216 ?_
    obtain ⟨fs, hr, hrun, hended, hW, hsame⟩ := X216.leave (v := some (.ref b113)) (fun h => by rw [Bd.returns] at h; cases h)
    refine ⟨_, _, ?_, hrun, hended, _, _, rfl, ?_, ⟨_, rfl⟩, hW, hsame.mono (by decide) (by decide)⟩
    · show Steps p.tables e below (T216.setTop (mkF m 217 #[.val (.int p0)] [(.ref b113)])) _
      jvm_step X216.here [X216.here.top, hx, (hb hby d1_217), X216.method', Bd.returns, Value.isRef, FieldType.isReference]
      first | (intro acts; rw [hr _ acts rfl rfl rfl]) | rw [hr _ _ rfl rfl rfl]
      exact Steps.refl _
    · show Q1 Z p0 h0 n0 _ T216.heap _
      rw [e216]
      exact ⟨_, _, rfl, sz_b113, N216, K216, (by unfold own_n18; rw [if_neg hc1]; exact V216)⟩
theorem d13_0 : decode method_4_code 0 = .ok (.iload_n 0, 1) := by decide +kernel
theorem d13_1 : decode method_4_code 1 = .ok (.ifCond .ne 104, 3) := by decide +kernel
theorem d13_4 : decode method_4_code 4 = .ok (.bipush 17, 2) := by decide +kernel
theorem d13_6 : decode method_4_code 6 = .ok (.newarray .char, 2) := by decide +kernel
theorem d13_8 : decode method_4_code 8 = .ok (.dup, 1) := by decide +kernel
theorem d13_9 : decode method_4_code 9 = .ok (.iconst 0, 1) := by decide +kernel
theorem d13_10 : decode method_4_code 10 = .ok (.bipush 97, 2) := by decide +kernel
theorem d13_12 : decode method_4_code 12 = .ok (.castore, 1) := by decide +kernel
theorem d13_13 : decode method_4_code 13 = .ok (.dup, 1) := by decide +kernel
theorem d13_14 : decode method_4_code 14 = .ok (.iconst 1, 1) := by decide +kernel
theorem d13_15 : decode method_4_code 15 = .ok (.bipush 117, 2) := by decide +kernel
theorem d13_17 : decode method_4_code 17 = .ok (.castore, 1) := by decide +kernel
theorem d13_18 : decode method_4_code 18 = .ok (.dup, 1) := by decide +kernel
theorem d13_19 : decode method_4_code 19 = .ok (.iconst 2, 1) := by decide +kernel
theorem d13_20 : decode method_4_code 20 = .ok (.bipush 116, 2) := by decide +kernel
theorem d13_22 : decode method_4_code 22 = .ok (.castore, 1) := by decide +kernel
theorem d13_23 : decode method_4_code 23 = .ok (.dup, 1) := by decide +kernel
theorem d13_24 : decode method_4_code 24 = .ok (.iconst 3, 1) := by decide +kernel
theorem d13_25 : decode method_4_code 25 = .ok (.bipush 104, 2) := by decide +kernel
theorem d13_27 : decode method_4_code 27 = .ok (.castore, 1) := by decide +kernel
theorem d13_28 : decode method_4_code 28 = .ok (.dup, 1) := by decide +kernel
theorem d13_29 : decode method_4_code 29 = .ok (.iconst 4, 1) := by decide +kernel
theorem d13_30 : decode method_4_code 30 = .ok (.bipush 111, 2) := by decide +kernel
theorem d13_32 : decode method_4_code 32 = .ok (.castore, 1) := by decide +kernel
theorem d13_33 : decode method_4_code 33 = .ok (.dup, 1) := by decide +kernel
theorem d13_34 : decode method_4_code 34 = .ok (.iconst 5, 1) := by decide +kernel
theorem d13_35 : decode method_4_code 35 = .ok (.bipush 114, 2) := by decide +kernel
theorem d13_37 : decode method_4_code 37 = .ok (.castore, 1) := by decide +kernel
theorem d13_38 : decode method_4_code 38 = .ok (.dup, 1) := by decide +kernel
theorem d13_39 : decode method_4_code 39 = .ok (.bipush 6, 2) := by decide +kernel
theorem d13_41 : decode method_4_code 41 = .ok (.bipush 105, 2) := by decide +kernel
theorem d13_43 : decode method_4_code 43 = .ok (.castore, 1) := by decide +kernel
theorem d13_44 : decode method_4_code 44 = .ok (.dup, 1) := by decide +kernel
theorem d13_45 : decode method_4_code 45 = .ok (.bipush 7, 2) := by decide +kernel
theorem d13_47 : decode method_4_code 47 = .ok (.bipush 122, 2) := by decide +kernel
theorem d13_49 : decode method_4_code 49 = .ok (.castore, 1) := by decide +kernel
theorem d13_50 : decode method_4_code 50 = .ok (.dup, 1) := by decide +kernel
theorem d13_51 : decode method_4_code 51 = .ok (.bipush 8, 2) := by decide +kernel
theorem d13_53 : decode method_4_code 53 = .ok (.bipush 97, 2) := by decide +kernel
theorem d13_55 : decode method_4_code 55 = .ok (.castore, 1) := by decide +kernel
theorem d13_56 : decode method_4_code 56 = .ok (.dup, 1) := by decide +kernel
theorem d13_57 : decode method_4_code 57 = .ok (.bipush 9, 2) := by decide +kernel
theorem d13_59 : decode method_4_code 59 = .ok (.bipush 116, 2) := by decide +kernel
theorem d13_61 : decode method_4_code 61 = .ok (.castore, 1) := by decide +kernel
theorem d13_62 : decode method_4_code 62 = .ok (.dup, 1) := by decide +kernel
theorem d13_63 : decode method_4_code 63 = .ok (.bipush 10, 2) := by decide +kernel
theorem d13_65 : decode method_4_code 65 = .ok (.bipush 105, 2) := by decide +kernel
theorem d13_67 : decode method_4_code 67 = .ok (.castore, 1) := by decide +kernel
theorem d13_68 : decode method_4_code 68 = .ok (.dup, 1) := by decide +kernel
theorem d13_69 : decode method_4_code 69 = .ok (.bipush 11, 2) := by decide +kernel
theorem d13_71 : decode method_4_code 71 = .ok (.bipush 111, 2) := by decide +kernel
theorem d13_73 : decode method_4_code 73 = .ok (.castore, 1) := by decide +kernel
theorem d13_74 : decode method_4_code 74 = .ok (.dup, 1) := by decide +kernel
theorem d13_75 : decode method_4_code 75 = .ok (.bipush 12, 2) := by decide +kernel
theorem d13_77 : decode method_4_code 77 = .ok (.bipush 110, 2) := by decide +kernel
theorem d13_79 : decode method_4_code 79 = .ok (.castore, 1) := by decide +kernel
theorem d13_80 : decode method_4_code 80 = .ok (.dup, 1) := by decide +kernel
theorem d13_81 : decode method_4_code 81 = .ok (.bipush 13, 2) := by decide +kernel
theorem d13_83 : decode method_4_code 83 = .ok (.bipush 95, 2) := by decide +kernel
theorem d13_85 : decode method_4_code 85 = .ok (.castore, 1) := by decide +kernel
theorem d13_86 : decode method_4_code 86 = .ok (.dup, 1) := by decide +kernel
theorem d13_87 : decode method_4_code 87 = .ok (.bipush 14, 2) := by decide +kernel
theorem d13_89 : decode method_4_code 89 = .ok (.bipush 99, 2) := by decide +kernel
theorem d13_91 : decode method_4_code 91 = .ok (.castore, 1) := by decide +kernel
theorem d13_92 : decode method_4_code 92 = .ok (.dup, 1) := by decide +kernel
theorem d13_93 : decode method_4_code 93 = .ok (.bipush 15, 2) := by decide +kernel
theorem d13_95 : decode method_4_code 95 = .ok (.bipush 111, 2) := by decide +kernel
theorem d13_97 : decode method_4_code 97 = .ok (.castore, 1) := by decide +kernel
theorem d13_98 : decode method_4_code 98 = .ok (.dup, 1) := by decide +kernel
theorem d13_99 : decode method_4_code 99 = .ok (.bipush 16, 2) := by decide +kernel
theorem d13_101 : decode method_4_code 101 = .ok (.bipush 100, 2) := by decide +kernel
theorem d13_103 : decode method_4_code 103 = .ok (.castore, 1) := by decide +kernel
theorem d13_104 : decode method_4_code 104 = .ok (.areturn, 1) := by decide +kernel
theorem d13_105 : decode method_4_code 105 = .ok (.bipush 17, 2) := by decide +kernel
theorem d13_107 : decode method_4_code 107 = .ok (.newarray .char, 2) := by decide +kernel
theorem d13_109 : decode method_4_code 109 = .ok (.dup, 1) := by decide +kernel
theorem d13_110 : decode method_4_code 110 = .ok (.iconst 0, 1) := by decide +kernel
theorem d13_111 : decode method_4_code 111 = .ok (.bipush 99, 2) := by decide +kernel
theorem d13_113 : decode method_4_code 113 = .ok (.castore, 1) := by decide +kernel
theorem d13_114 : decode method_4_code 114 = .ok (.dup, 1) := by decide +kernel
theorem d13_115 : decode method_4_code 115 = .ok (.iconst 1, 1) := by decide +kernel
theorem d13_116 : decode method_4_code 116 = .ok (.bipush 108, 2) := by decide +kernel
theorem d13_118 : decode method_4_code 118 = .ok (.castore, 1) := by decide +kernel
theorem d13_119 : decode method_4_code 119 = .ok (.dup, 1) := by decide +kernel
theorem d13_120 : decode method_4_code 120 = .ok (.iconst 2, 1) := by decide +kernel
theorem d13_121 : decode method_4_code 121 = .ok (.bipush 105, 2) := by decide +kernel
theorem d13_123 : decode method_4_code 123 = .ok (.castore, 1) := by decide +kernel
theorem d13_124 : decode method_4_code 124 = .ok (.dup, 1) := by decide +kernel
theorem d13_125 : decode method_4_code 125 = .ok (.iconst 3, 1) := by decide +kernel
theorem d13_126 : decode method_4_code 126 = .ok (.bipush 101, 2) := by decide +kernel
theorem d13_128 : decode method_4_code 128 = .ok (.castore, 1) := by decide +kernel
theorem d13_129 : decode method_4_code 129 = .ok (.dup, 1) := by decide +kernel
theorem d13_130 : decode method_4_code 130 = .ok (.iconst 4, 1) := by decide +kernel
theorem d13_131 : decode method_4_code 131 = .ok (.bipush 110, 2) := by decide +kernel
theorem d13_133 : decode method_4_code 133 = .ok (.castore, 1) := by decide +kernel
theorem d13_134 : decode method_4_code 134 = .ok (.dup, 1) := by decide +kernel
theorem d13_135 : decode method_4_code 135 = .ok (.iconst 5, 1) := by decide +kernel
theorem d13_136 : decode method_4_code 136 = .ok (.bipush 116, 2) := by decide +kernel
theorem d13_138 : decode method_4_code 138 = .ok (.castore, 1) := by decide +kernel
theorem d13_139 : decode method_4_code 139 = .ok (.dup, 1) := by decide +kernel
theorem d13_140 : decode method_4_code 140 = .ok (.bipush 6, 2) := by decide +kernel
theorem d13_142 : decode method_4_code 142 = .ok (.bipush 95, 2) := by decide +kernel
theorem d13_144 : decode method_4_code 144 = .ok (.castore, 1) := by decide +kernel
theorem d13_145 : decode method_4_code 145 = .ok (.dup, 1) := by decide +kernel
theorem d13_146 : decode method_4_code 146 = .ok (.bipush 7, 2) := by decide +kernel
theorem d13_148 : decode method_4_code 148 = .ok (.bipush 99, 2) := by decide +kernel
theorem d13_150 : decode method_4_code 150 = .ok (.castore, 1) := by decide +kernel
theorem d13_151 : decode method_4_code 151 = .ok (.dup, 1) := by decide +kernel
theorem d13_152 : decode method_4_code 152 = .ok (.bipush 8, 2) := by decide +kernel
theorem d13_154 : decode method_4_code 154 = .ok (.bipush 114, 2) := by decide +kernel
theorem d13_156 : decode method_4_code 156 = .ok (.castore, 1) := by decide +kernel
theorem d13_157 : decode method_4_code 157 = .ok (.dup, 1) := by decide +kernel
theorem d13_158 : decode method_4_code 158 = .ok (.bipush 9, 2) := by decide +kernel
theorem d13_160 : decode method_4_code 160 = .ok (.bipush 101, 2) := by decide +kernel
theorem d13_162 : decode method_4_code 162 = .ok (.castore, 1) := by decide +kernel
theorem d13_163 : decode method_4_code 163 = .ok (.dup, 1) := by decide +kernel
theorem d13_164 : decode method_4_code 164 = .ok (.bipush 10, 2) := by decide +kernel
theorem d13_166 : decode method_4_code 166 = .ok (.bipush 100, 2) := by decide +kernel
theorem d13_168 : decode method_4_code 168 = .ok (.castore, 1) := by decide +kernel
theorem d13_169 : decode method_4_code 169 = .ok (.dup, 1) := by decide +kernel
theorem d13_170 : decode method_4_code 170 = .ok (.bipush 11, 2) := by decide +kernel
theorem d13_172 : decode method_4_code 172 = .ok (.bipush 101, 2) := by decide +kernel
theorem d13_174 : decode method_4_code 174 = .ok (.castore, 1) := by decide +kernel
theorem d13_175 : decode method_4_code 175 = .ok (.dup, 1) := by decide +kernel
theorem d13_176 : decode method_4_code 176 = .ok (.bipush 12, 2) := by decide +kernel
theorem d13_178 : decode method_4_code 178 = .ok (.bipush 110, 2) := by decide +kernel
theorem d13_180 : decode method_4_code 180 = .ok (.castore, 1) := by decide +kernel
theorem d13_181 : decode method_4_code 181 = .ok (.dup, 1) := by decide +kernel
theorem d13_182 : decode method_4_code 182 = .ok (.bipush 13, 2) := by decide +kernel
theorem d13_184 : decode method_4_code 184 = .ok (.bipush 116, 2) := by decide +kernel
theorem d13_186 : decode method_4_code 186 = .ok (.castore, 1) := by decide +kernel
theorem d13_187 : decode method_4_code 187 = .ok (.dup, 1) := by decide +kernel
theorem d13_188 : decode method_4_code 188 = .ok (.bipush 14, 2) := by decide +kernel
theorem d13_190 : decode method_4_code 190 = .ok (.bipush 105, 2) := by decide +kernel
theorem d13_192 : decode method_4_code 192 = .ok (.castore, 1) := by decide +kernel
theorem d13_193 : decode method_4_code 193 = .ok (.dup, 1) := by decide +kernel
theorem d13_194 : decode method_4_code 194 = .ok (.bipush 15, 2) := by decide +kernel
theorem d13_196 : decode method_4_code 196 = .ok (.bipush 97, 2) := by decide +kernel
theorem d13_198 : decode method_4_code 198 = .ok (.castore, 1) := by decide +kernel
theorem d13_199 : decode method_4_code 199 = .ok (.dup, 1) := by decide +kernel
theorem d13_200 : decode method_4_code 200 = .ok (.bipush 16, 2) := by decide +kernel
theorem d13_202 : decode method_4_code 202 = .ok (.bipush 108, 2) := by decide +kernel
theorem d13_204 : decode method_4_code 204 = .ok (.castore, 1) := by decide +kernel
theorem d13_205 : decode method_4_code 205 = .ok (.areturn, 1) := by decide +kernel
theorem pn_13 : plainFor (⟨"com/example/writd/writd/model/GrantTypeFromValuePinLaw", "name17", "(I)[C"⟩ : MethodName) = true := by first | exact plainFor_of_name (by first | (simp [plainName, overriddenIn]; done) | decide +kernel) | decide +kernel | exact Jvm.Free.JP.mathPlain rfl (by decide +kernel)
theorem ef_13 (m : MethodId) (p0 : Int32) : entryFrame m #[(.int p0)] 1 = mkF m 0 #[.val (.int p0)] [] := by first | (simp [entryFrame, mkF, argsToLocals, Value.category]; done) | rfl
def Q13 (Z : State) (p0 : Int32) (h0 : Heap) (n0 : Nat) (v : Option Value) (h : Heap) (L : List Loc) : Prop := ∃ r kc, v = some (.ref r) ∧ h0.size ≤ r ∧ Fr n0 L ∧ Keep h0 h [] ∧ Arv Z h r kc .char (Int32.ofNat (own_n17 p0).length) ((own_n17 p0).map Value.int) (.int 0)
set_option maxRecDepth 65536 in
set_option maxHeartbeats 40000000 in
theorem rm13 (l : Launch) (Z : State) (a0 : Array Value) (hw : ∀ d ∈ tables_1, d.before a0 Z = true) (ws : List Jvm.Cond) (p0 : Int32) (h0 : Heap) (n0 : Nat) (Z0 : n0 ≤ h0.size) :
    MetFree l (⟨"com/example/writd/writd/model/GrantTypeFromValuePinLaw", "name17", "(I)[C"⟩ : MethodName) (head1 (Jvm.Cond.code (⟨"com/example/writd/writd/model/GrantTypeFromValuePinLaw", "name17", "(I)[C"⟩ : MethodName) method_4_code 1 (some (.array .char)) :: ws) ({ frames := 0, cells := 1, slots := 17, locals := 0 } : Room)) (fun a U => a = #[(.int p0)] ∧ Z.Warmed39 U.vm ∧ U.heap = h0) (fun _ _ _ _ _ => True) (fun _ U o U' => ∃ v L, o = .returned v ∧ Q13 Z p0 h0 n0 v U'.heap L ∧ FrameEnd U o U' L ({ frames := 0, cells := 1, slots := 17, locals := 0 } : Room).cells ({ frames := 0, cells := 1, slots := 17, locals := 0 } : Room).slots) := by
  refine MetFree.of_bodySF pn_13 hisR ?_
  intro p e s m args below meth c s₁ Bd hml0 hP hK
  obtain ⟨rfl, hZ, hh⟩ := hP
  have hx := Bd.exec
  have hby := Bd.bytes
  have hml : c.maxLocals = 1 := hml0
  have hown : s.vm.findClass "com/example/writd/writd/model/GrantTypeFromValuePinLaw" = some m.cls := findClass_of_methodNamed Bd.named
  have hnm := (name_of_methodNamed Bd.named Bd.method).1
  have X0 : Stand p l e ({ frames := 0, cells := 1, slots := 17, locals := 0 } : Room) s m #[(.int p0)] below meth c s₁ [] 0 0 := Stand.of_body Bd
  have e0 : s₁.heap = h0 := by rw [← hh, Bd.state]; rfl
  have N0 := Fr.nil n0
  refine own_at (castTop (ef_13 m p0)) ?_
  have K0 := Keep.refl h0 []
  have sg1 : ∀ t, own_S p e below s₁ (mkF m 1 #[.val (.int p0)] [(.int p0)]) t → own_S p e below s₁ (mkF m 0 #[.val (.int p0)] []) t := by
    intro t k
    show own_S p e below s₁ (mkF m 0 #[.val (.int p0)] []) _
    refine XS.iloadN X0.here hx rfl (hb hby d13_0) rfl ?_
    exact k
  refine own_by sg1 ?_
  by_cases hc1 : p0 = (0 : Int32)
  · have sg6 : ∀ t, own_S p e below s₁ (mkF m 6 #[.val (.int p0)] [(.int (17 : Int32))]) t → own_S p e below s₁ (mkF m 1 #[.val (.int p0)] [(.int p0)]) t := by
      intro t k
      show own_S p e below s₁ (mkF m 1 #[.val (.int p0)] [(.int p0)]) _
      refine XS.ifNo X0.here hx rfl (hb hby d13_1) rfl ((if0 _ _).trans (teq hc1).2) ?_
      show own_S p e below s₁ (mkF m 4 #[.val (.int p0)] []) _
      refine XS.bipush X0.here hx rfl (hb hby d13_4) ?_
      exact k
    refine own_by sg6 ?_
    obtain ⟨T6, h6, kc6, X6, e6, E6, A6, st6⟩ := newP X0 hx hZ (hw _ (List.mem_of_getElem? (i := 8) rfl)) e0 (g := (mkF m 6 #[.val (.int p0)] [(.int (17 : Int32))])) rfl (hb hby d13_6) rfl (by decide) (cap := 17) (by decide) (by decide) (by decide) (by decide)
    obtain ⟨b6, g6⟩ : ∃ z, z = h0.size := ⟨_, rfl⟩
    rw [← g6] at A6 st6
    have g_b6 : n0 ≤ b6 := Nat.le_trans Z0 (Nat.le_of_eq g6.symm)
    have sz_b6 : h0.size ≤ b6 := Nat.le_trans K0.1 (Nat.le_of_eq g6.symm)
    have K6 := K0.ext E6
    have Z6 : n0 ≤ h6.size := Nat.le_trans Z0 E6.1
    have V6 : Arv Z h6 b6 kc6 .char (17 : Int32) [(.int (0 : Int32)), (.int (0 : Int32)), (.int (0 : Int32)), (.int (0 : Int32)), (.int (0 : Int32)), (.int (0 : Int32)), (.int (0 : Int32)), (.int (0 : Int32)), (.int (0 : Int32)), (.int (0 : Int32)), (.int (0 : Int32)), (.int (0 : Int32)), (.int (0 : Int32)), (.int (0 : Int32)), (.int (0 : Int32)), (.int (0 : Int32)), (.int (0 : Int32))] (.int (0 : Int32)) := (Arv.new A6 (by decide)).pad (pad_rep [] (.int (0 : Int32)) 17)
    refine own_by st6 ?_
    have sg12 : ∀ t, own_S p e below T6 (mkF m 12 #[.val (.int p0)] [(.int (97 : Int32)), (.int (0 : Int32)), (.ref b6), (.ref b6)]) t → own_S p e below T6 (mkF m 8 #[.val (.int p0)] [(.ref b6)]) t := by
      intro t k
      show own_S p e below T6 (mkF m 8 #[.val (.int p0)] [(.ref b6)]) _
      refine XS.dup X6.here hx rfl (hb hby d13_8) rfl rfl ?_
      show own_S p e below T6 (mkF m 9 #[.val (.int p0)] [(.ref b6), (.ref b6)]) _
      refine XS.iconst X6.here hx rfl (hb hby d13_9) ?_
      show own_S p e below T6 (mkF m 10 #[.val (.int p0)] [(.int (0 : Int32)), (.ref b6), (.ref b6)]) _
      refine XS.bipush X6.here hx rfl (hb hby d13_10) ?_
      exact k
    refine own_by sg12 ?_
    obtain ⟨cl12, Ar12, qa12, Sa12, Na12, Ha12, Ga12⟩ := id V6
    obtain ⟨T12, h12, X12, e12, W12, st12⟩ := stC X6 hx hZ e6 Ar12 (j := (0 : Int32)) (inb_of Sa12 ⟨by decide, by decide⟩) (g := (mkF m 12 #[.val (.int p0)] [(.int (97 : Int32)), (.int (0 : Int32)), (.ref b6), (.ref b6)])) rfl rfl (hb hby d13_12)
    have V12 : Arv Z h12 b6 kc6 .char (17 : Int32) [(.int (97 : Int32)), (.int (0 : Int32)), (.int (0 : Int32)), (.int (0 : Int32)), (.int (0 : Int32)), (.int (0 : Int32)), (.int (0 : Int32)), (.int (0 : Int32)), (.int (0 : Int32)), (.int (0 : Int32)), (.int (0 : Int32)), (.int (0 : Int32)), (.int (0 : Int32)), (.int (0 : Int32)), (.int (0 : Int32)), (.int (0 : Int32)), (.int (0 : Int32))] (.int (0 : Int32)) := by
      have q := Arv.set Ar12 qa12 Sa12 Na12 Ha12 Ga12 (fits_nar_char _) W12 0 rfl (Nat.le_of_ble_eq_true rfl)
      exact q
    have K12 : Keep h0 h12 [] := K6.wr W12 (Or.inr sz_b6)
    have Z12 : n0 ≤ h12.size := Nat.le_trans Z6 (Keep.of_wr W12).1
    have N12 := Fr.snoc X12 N0 g_b6
    refine own_by st12 ?_
    have sg17 : ∀ t, own_S p e below T12 (mkF m 17 #[.val (.int p0)] [(.int (117 : Int32)), (.int (1 : Int32)), (.ref b6), (.ref b6)]) t → own_S p e below T12 (mkF m 13 #[.val (.int p0)] [(.ref b6)]) t := by
      intro t k
      show own_S p e below T12 (mkF m 13 #[.val (.int p0)] [(.ref b6)]) _
      refine XS.dup X12.here hx rfl (hb hby d13_13) rfl rfl ?_
      show own_S p e below T12 (mkF m 14 #[.val (.int p0)] [(.ref b6), (.ref b6)]) _
      refine XS.iconst X12.here hx rfl (hb hby d13_14) ?_
      show own_S p e below T12 (mkF m 15 #[.val (.int p0)] [(.int (1 : Int32)), (.ref b6), (.ref b6)]) _
      refine XS.bipush X12.here hx rfl (hb hby d13_15) ?_
      exact k
    refine own_by sg17 ?_
    obtain ⟨cl17, Ar17, qa17, Sa17, Na17, Ha17, Ga17⟩ := id V12
    obtain ⟨T17, h17, X17, e17, W17, st17⟩ := stC X12 hx hZ e12 Ar17 (j := (1 : Int32)) (inb_of Sa17 ⟨by decide, by decide⟩) (g := (mkF m 17 #[.val (.int p0)] [(.int (117 : Int32)), (.int (1 : Int32)), (.ref b6), (.ref b6)])) rfl rfl (hb hby d13_17)
    have V17 : Arv Z h17 b6 kc6 .char (17 : Int32) [(.int (97 : Int32)), (.int (117 : Int32)), (.int (0 : Int32)), (.int (0 : Int32)), (.int (0 : Int32)), (.int (0 : Int32)), (.int (0 : Int32)), (.int (0 : Int32)), (.int (0 : Int32)), (.int (0 : Int32)), (.int (0 : Int32)), (.int (0 : Int32)), (.int (0 : Int32)), (.int (0 : Int32)), (.int (0 : Int32)), (.int (0 : Int32)), (.int (0 : Int32))] (.int (0 : Int32)) := by
      have q := Arv.set Ar17 qa17 Sa17 Na17 Ha17 Ga17 (fits_nar_char _) W17 1 rfl (Nat.le_of_ble_eq_true rfl)
      exact q
    have K17 : Keep h0 h17 [] := K12.wr W17 (Or.inr sz_b6)
    have Z17 : n0 ≤ h17.size := Nat.le_trans Z12 (Keep.of_wr W17).1
    have N17 := Fr.snoc X17 N12 g_b6
    refine own_by st17 ?_
    have sg22 : ∀ t, own_S p e below T17 (mkF m 22 #[.val (.int p0)] [(.int (116 : Int32)), (.int (2 : Int32)), (.ref b6), (.ref b6)]) t → own_S p e below T17 (mkF m 18 #[.val (.int p0)] [(.ref b6)]) t := by
      intro t k
      show own_S p e below T17 (mkF m 18 #[.val (.int p0)] [(.ref b6)]) _
      refine XS.dup X17.here hx rfl (hb hby d13_18) rfl rfl ?_
      show own_S p e below T17 (mkF m 19 #[.val (.int p0)] [(.ref b6), (.ref b6)]) _
      refine XS.iconst X17.here hx rfl (hb hby d13_19) ?_
      show own_S p e below T17 (mkF m 20 #[.val (.int p0)] [(.int (2 : Int32)), (.ref b6), (.ref b6)]) _
      refine XS.bipush X17.here hx rfl (hb hby d13_20) ?_
      exact k
    refine own_by sg22 ?_
    obtain ⟨cl22, Ar22, qa22, Sa22, Na22, Ha22, Ga22⟩ := id V17
    obtain ⟨T22, h22, X22, e22, W22, st22⟩ := stC X17 hx hZ e17 Ar22 (j := (2 : Int32)) (inb_of Sa22 ⟨by decide, by decide⟩) (g := (mkF m 22 #[.val (.int p0)] [(.int (116 : Int32)), (.int (2 : Int32)), (.ref b6), (.ref b6)])) rfl rfl (hb hby d13_22)
    have V22 : Arv Z h22 b6 kc6 .char (17 : Int32) [(.int (97 : Int32)), (.int (117 : Int32)), (.int (116 : Int32)), (.int (0 : Int32)), (.int (0 : Int32)), (.int (0 : Int32)), (.int (0 : Int32)), (.int (0 : Int32)), (.int (0 : Int32)), (.int (0 : Int32)), (.int (0 : Int32)), (.int (0 : Int32)), (.int (0 : Int32)), (.int (0 : Int32)), (.int (0 : Int32)), (.int (0 : Int32)), (.int (0 : Int32))] (.int (0 : Int32)) := by
      have q := Arv.set Ar22 qa22 Sa22 Na22 Ha22 Ga22 (fits_nar_char _) W22 2 rfl (Nat.le_of_ble_eq_true rfl)
      exact q
    have K22 : Keep h0 h22 [] := K17.wr W22 (Or.inr sz_b6)
    have Z22 : n0 ≤ h22.size := Nat.le_trans Z17 (Keep.of_wr W22).1
    have N22 := Fr.snoc X22 N17 g_b6
    refine own_by st22 ?_
    have sg27 : ∀ t, own_S p e below T22 (mkF m 27 #[.val (.int p0)] [(.int (104 : Int32)), (.int (3 : Int32)), (.ref b6), (.ref b6)]) t → own_S p e below T22 (mkF m 23 #[.val (.int p0)] [(.ref b6)]) t := by
      intro t k
      show own_S p e below T22 (mkF m 23 #[.val (.int p0)] [(.ref b6)]) _
      refine XS.dup X22.here hx rfl (hb hby d13_23) rfl rfl ?_
      show own_S p e below T22 (mkF m 24 #[.val (.int p0)] [(.ref b6), (.ref b6)]) _
      refine XS.iconst X22.here hx rfl (hb hby d13_24) ?_
      show own_S p e below T22 (mkF m 25 #[.val (.int p0)] [(.int (3 : Int32)), (.ref b6), (.ref b6)]) _
      refine XS.bipush X22.here hx rfl (hb hby d13_25) ?_
      exact k
    refine own_by sg27 ?_
    obtain ⟨cl27, Ar27, qa27, Sa27, Na27, Ha27, Ga27⟩ := id V22
    obtain ⟨T27, h27, X27, e27, W27, st27⟩ := stC X22 hx hZ e22 Ar27 (j := (3 : Int32)) (inb_of Sa27 ⟨by decide, by decide⟩) (g := (mkF m 27 #[.val (.int p0)] [(.int (104 : Int32)), (.int (3 : Int32)), (.ref b6), (.ref b6)])) rfl rfl (hb hby d13_27)
    have V27 : Arv Z h27 b6 kc6 .char (17 : Int32) [(.int (97 : Int32)), (.int (117 : Int32)), (.int (116 : Int32)), (.int (104 : Int32)), (.int (0 : Int32)), (.int (0 : Int32)), (.int (0 : Int32)), (.int (0 : Int32)), (.int (0 : Int32)), (.int (0 : Int32)), (.int (0 : Int32)), (.int (0 : Int32)), (.int (0 : Int32)), (.int (0 : Int32)), (.int (0 : Int32)), (.int (0 : Int32)), (.int (0 : Int32))] (.int (0 : Int32)) := by
      have q := Arv.set Ar27 qa27 Sa27 Na27 Ha27 Ga27 (fits_nar_char _) W27 3 rfl (Nat.le_of_ble_eq_true rfl)
      exact q
    have K27 : Keep h0 h27 [] := K22.wr W27 (Or.inr sz_b6)
    have Z27 : n0 ≤ h27.size := Nat.le_trans Z22 (Keep.of_wr W27).1
    have N27 := Fr.snoc X27 N22 g_b6
    refine own_by st27 ?_
    have sg32 : ∀ t, own_S p e below T27 (mkF m 32 #[.val (.int p0)] [(.int (111 : Int32)), (.int (4 : Int32)), (.ref b6), (.ref b6)]) t → own_S p e below T27 (mkF m 28 #[.val (.int p0)] [(.ref b6)]) t := by
      intro t k
      show own_S p e below T27 (mkF m 28 #[.val (.int p0)] [(.ref b6)]) _
      refine XS.dup X27.here hx rfl (hb hby d13_28) rfl rfl ?_
      show own_S p e below T27 (mkF m 29 #[.val (.int p0)] [(.ref b6), (.ref b6)]) _
      refine XS.iconst X27.here hx rfl (hb hby d13_29) ?_
      show own_S p e below T27 (mkF m 30 #[.val (.int p0)] [(.int (4 : Int32)), (.ref b6), (.ref b6)]) _
      refine XS.bipush X27.here hx rfl (hb hby d13_30) ?_
      exact k
    refine own_by sg32 ?_
    obtain ⟨cl32, Ar32, qa32, Sa32, Na32, Ha32, Ga32⟩ := id V27
    obtain ⟨T32, h32, X32, e32, W32, st32⟩ := stC X27 hx hZ e27 Ar32 (j := (4 : Int32)) (inb_of Sa32 ⟨by decide, by decide⟩) (g := (mkF m 32 #[.val (.int p0)] [(.int (111 : Int32)), (.int (4 : Int32)), (.ref b6), (.ref b6)])) rfl rfl (hb hby d13_32)
    have V32 : Arv Z h32 b6 kc6 .char (17 : Int32) [(.int (97 : Int32)), (.int (117 : Int32)), (.int (116 : Int32)), (.int (104 : Int32)), (.int (111 : Int32)), (.int (0 : Int32)), (.int (0 : Int32)), (.int (0 : Int32)), (.int (0 : Int32)), (.int (0 : Int32)), (.int (0 : Int32)), (.int (0 : Int32)), (.int (0 : Int32)), (.int (0 : Int32)), (.int (0 : Int32)), (.int (0 : Int32)), (.int (0 : Int32))] (.int (0 : Int32)) := by
      have q := Arv.set Ar32 qa32 Sa32 Na32 Ha32 Ga32 (fits_nar_char _) W32 4 rfl (Nat.le_of_ble_eq_true rfl)
      exact q
    have K32 : Keep h0 h32 [] := K27.wr W32 (Or.inr sz_b6)
    have Z32 : n0 ≤ h32.size := Nat.le_trans Z27 (Keep.of_wr W32).1
    have N32 := Fr.snoc X32 N27 g_b6
    refine own_by st32 ?_
    have sg37 : ∀ t, own_S p e below T32 (mkF m 37 #[.val (.int p0)] [(.int (114 : Int32)), (.int (5 : Int32)), (.ref b6), (.ref b6)]) t → own_S p e below T32 (mkF m 33 #[.val (.int p0)] [(.ref b6)]) t := by
      intro t k
      show own_S p e below T32 (mkF m 33 #[.val (.int p0)] [(.ref b6)]) _
      refine XS.dup X32.here hx rfl (hb hby d13_33) rfl rfl ?_
      show own_S p e below T32 (mkF m 34 #[.val (.int p0)] [(.ref b6), (.ref b6)]) _
      refine XS.iconst X32.here hx rfl (hb hby d13_34) ?_
      show own_S p e below T32 (mkF m 35 #[.val (.int p0)] [(.int (5 : Int32)), (.ref b6), (.ref b6)]) _
      refine XS.bipush X32.here hx rfl (hb hby d13_35) ?_
      exact k
    refine own_by sg37 ?_
    obtain ⟨cl37, Ar37, qa37, Sa37, Na37, Ha37, Ga37⟩ := id V32
    obtain ⟨T37, h37, X37, e37, W37, st37⟩ := stC X32 hx hZ e32 Ar37 (j := (5 : Int32)) (inb_of Sa37 ⟨by decide, by decide⟩) (g := (mkF m 37 #[.val (.int p0)] [(.int (114 : Int32)), (.int (5 : Int32)), (.ref b6), (.ref b6)])) rfl rfl (hb hby d13_37)
    have V37 : Arv Z h37 b6 kc6 .char (17 : Int32) [(.int (97 : Int32)), (.int (117 : Int32)), (.int (116 : Int32)), (.int (104 : Int32)), (.int (111 : Int32)), (.int (114 : Int32)), (.int (0 : Int32)), (.int (0 : Int32)), (.int (0 : Int32)), (.int (0 : Int32)), (.int (0 : Int32)), (.int (0 : Int32)), (.int (0 : Int32)), (.int (0 : Int32)), (.int (0 : Int32)), (.int (0 : Int32)), (.int (0 : Int32))] (.int (0 : Int32)) := by
      have q := Arv.set Ar37 qa37 Sa37 Na37 Ha37 Ga37 (fits_nar_char _) W37 5 rfl (Nat.le_of_ble_eq_true rfl)
      exact q
    have K37 : Keep h0 h37 [] := K32.wr W37 (Or.inr sz_b6)
    have Z37 : n0 ≤ h37.size := Nat.le_trans Z32 (Keep.of_wr W37).1
    have N37 := Fr.snoc X37 N32 g_b6
    refine own_by st37 ?_
    have sg43 : ∀ t, own_S p e below T37 (mkF m 43 #[.val (.int p0)] [(.int (105 : Int32)), (.int (6 : Int32)), (.ref b6), (.ref b6)]) t → own_S p e below T37 (mkF m 38 #[.val (.int p0)] [(.ref b6)]) t := by
      intro t k
      show own_S p e below T37 (mkF m 38 #[.val (.int p0)] [(.ref b6)]) _
      refine XS.dup X37.here hx rfl (hb hby d13_38) rfl rfl ?_
      show own_S p e below T37 (mkF m 39 #[.val (.int p0)] [(.ref b6), (.ref b6)]) _
      refine XS.bipush X37.here hx rfl (hb hby d13_39) ?_
      show own_S p e below T37 (mkF m 41 #[.val (.int p0)] [(.int (6 : Int32)), (.ref b6), (.ref b6)]) _
      refine XS.bipush X37.here hx rfl (hb hby d13_41) ?_
      exact k
    refine own_by sg43 ?_
    obtain ⟨cl43, Ar43, qa43, Sa43, Na43, Ha43, Ga43⟩ := id V37
    obtain ⟨T43, h43, X43, e43, W43, st43⟩ := stC X37 hx hZ e37 Ar43 (j := (6 : Int32)) (inb_of Sa43 ⟨by decide, by decide⟩) (g := (mkF m 43 #[.val (.int p0)] [(.int (105 : Int32)), (.int (6 : Int32)), (.ref b6), (.ref b6)])) rfl rfl (hb hby d13_43)
    have V43 : Arv Z h43 b6 kc6 .char (17 : Int32) [(.int (97 : Int32)), (.int (117 : Int32)), (.int (116 : Int32)), (.int (104 : Int32)), (.int (111 : Int32)), (.int (114 : Int32)), (.int (105 : Int32)), (.int (0 : Int32)), (.int (0 : Int32)), (.int (0 : Int32)), (.int (0 : Int32)), (.int (0 : Int32)), (.int (0 : Int32)), (.int (0 : Int32)), (.int (0 : Int32)), (.int (0 : Int32)), (.int (0 : Int32))] (.int (0 : Int32)) := by
      have q := Arv.set Ar43 qa43 Sa43 Na43 Ha43 Ga43 (fits_nar_char _) W43 6 rfl (Nat.le_of_ble_eq_true rfl)
      exact q
    have K43 : Keep h0 h43 [] := K37.wr W43 (Or.inr sz_b6)
    have Z43 : n0 ≤ h43.size := Nat.le_trans Z37 (Keep.of_wr W43).1
    have N43 := Fr.snoc X43 N37 g_b6
    refine own_by st43 ?_
    have sg49 : ∀ t, own_S p e below T43 (mkF m 49 #[.val (.int p0)] [(.int (122 : Int32)), (.int (7 : Int32)), (.ref b6), (.ref b6)]) t → own_S p e below T43 (mkF m 44 #[.val (.int p0)] [(.ref b6)]) t := by
      intro t k
      show own_S p e below T43 (mkF m 44 #[.val (.int p0)] [(.ref b6)]) _
      refine XS.dup X43.here hx rfl (hb hby d13_44) rfl rfl ?_
      show own_S p e below T43 (mkF m 45 #[.val (.int p0)] [(.ref b6), (.ref b6)]) _
      refine XS.bipush X43.here hx rfl (hb hby d13_45) ?_
      show own_S p e below T43 (mkF m 47 #[.val (.int p0)] [(.int (7 : Int32)), (.ref b6), (.ref b6)]) _
      refine XS.bipush X43.here hx rfl (hb hby d13_47) ?_
      exact k
    refine own_by sg49 ?_
    obtain ⟨cl49, Ar49, qa49, Sa49, Na49, Ha49, Ga49⟩ := id V43
    obtain ⟨T49, h49, X49, e49, W49, st49⟩ := stC X43 hx hZ e43 Ar49 (j := (7 : Int32)) (inb_of Sa49 ⟨by decide, by decide⟩) (g := (mkF m 49 #[.val (.int p0)] [(.int (122 : Int32)), (.int (7 : Int32)), (.ref b6), (.ref b6)])) rfl rfl (hb hby d13_49)
    have V49 : Arv Z h49 b6 kc6 .char (17 : Int32) [(.int (97 : Int32)), (.int (117 : Int32)), (.int (116 : Int32)), (.int (104 : Int32)), (.int (111 : Int32)), (.int (114 : Int32)), (.int (105 : Int32)), (.int (122 : Int32)), (.int (0 : Int32)), (.int (0 : Int32)), (.int (0 : Int32)), (.int (0 : Int32)), (.int (0 : Int32)), (.int (0 : Int32)), (.int (0 : Int32)), (.int (0 : Int32)), (.int (0 : Int32))] (.int (0 : Int32)) := by
      have q := Arv.set Ar49 qa49 Sa49 Na49 Ha49 Ga49 (fits_nar_char _) W49 7 rfl (Nat.le_of_ble_eq_true rfl)
      exact q
    have K49 : Keep h0 h49 [] := K43.wr W49 (Or.inr sz_b6)
    have Z49 : n0 ≤ h49.size := Nat.le_trans Z43 (Keep.of_wr W49).1
    have N49 := Fr.snoc X49 N43 g_b6
    refine own_by st49 ?_
    have sg55 : ∀ t, own_S p e below T49 (mkF m 55 #[.val (.int p0)] [(.int (97 : Int32)), (.int (8 : Int32)), (.ref b6), (.ref b6)]) t → own_S p e below T49 (mkF m 50 #[.val (.int p0)] [(.ref b6)]) t := by
      intro t k
      show own_S p e below T49 (mkF m 50 #[.val (.int p0)] [(.ref b6)]) _
      refine XS.dup X49.here hx rfl (hb hby d13_50) rfl rfl ?_
      show own_S p e below T49 (mkF m 51 #[.val (.int p0)] [(.ref b6), (.ref b6)]) _
      refine XS.bipush X49.here hx rfl (hb hby d13_51) ?_
      show own_S p e below T49 (mkF m 53 #[.val (.int p0)] [(.int (8 : Int32)), (.ref b6), (.ref b6)]) _
      refine XS.bipush X49.here hx rfl (hb hby d13_53) ?_
      exact k
    refine own_by sg55 ?_
    obtain ⟨cl55, Ar55, qa55, Sa55, Na55, Ha55, Ga55⟩ := id V49
    obtain ⟨T55, h55, X55, e55, W55, st55⟩ := stC X49 hx hZ e49 Ar55 (j := (8 : Int32)) (inb_of Sa55 ⟨by decide, by decide⟩) (g := (mkF m 55 #[.val (.int p0)] [(.int (97 : Int32)), (.int (8 : Int32)), (.ref b6), (.ref b6)])) rfl rfl (hb hby d13_55)
    have V55 : Arv Z h55 b6 kc6 .char (17 : Int32) [(.int (97 : Int32)), (.int (117 : Int32)), (.int (116 : Int32)), (.int (104 : Int32)), (.int (111 : Int32)), (.int (114 : Int32)), (.int (105 : Int32)), (.int (122 : Int32)), (.int (97 : Int32)), (.int (0 : Int32)), (.int (0 : Int32)), (.int (0 : Int32)), (.int (0 : Int32)), (.int (0 : Int32)), (.int (0 : Int32)), (.int (0 : Int32)), (.int (0 : Int32))] (.int (0 : Int32)) := by
      have q := Arv.set Ar55 qa55 Sa55 Na55 Ha55 Ga55 (fits_nar_char _) W55 8 rfl (Nat.le_of_ble_eq_true rfl)
      exact q
    have K55 : Keep h0 h55 [] := K49.wr W55 (Or.inr sz_b6)
    have Z55 : n0 ≤ h55.size := Nat.le_trans Z49 (Keep.of_wr W55).1
    have N55 := Fr.snoc X55 N49 g_b6
    refine own_by st55 ?_
    have sg61 : ∀ t, own_S p e below T55 (mkF m 61 #[.val (.int p0)] [(.int (116 : Int32)), (.int (9 : Int32)), (.ref b6), (.ref b6)]) t → own_S p e below T55 (mkF m 56 #[.val (.int p0)] [(.ref b6)]) t := by
      intro t k
      show own_S p e below T55 (mkF m 56 #[.val (.int p0)] [(.ref b6)]) _
      refine XS.dup X55.here hx rfl (hb hby d13_56) rfl rfl ?_
      show own_S p e below T55 (mkF m 57 #[.val (.int p0)] [(.ref b6), (.ref b6)]) _
      refine XS.bipush X55.here hx rfl (hb hby d13_57) ?_
      show own_S p e below T55 (mkF m 59 #[.val (.int p0)] [(.int (9 : Int32)), (.ref b6), (.ref b6)]) _
      refine XS.bipush X55.here hx rfl (hb hby d13_59) ?_
      exact k
    refine own_by sg61 ?_
    obtain ⟨cl61, Ar61, qa61, Sa61, Na61, Ha61, Ga61⟩ := id V55
    obtain ⟨T61, h61, X61, e61, W61, st61⟩ := stC X55 hx hZ e55 Ar61 (j := (9 : Int32)) (inb_of Sa61 ⟨by decide, by decide⟩) (g := (mkF m 61 #[.val (.int p0)] [(.int (116 : Int32)), (.int (9 : Int32)), (.ref b6), (.ref b6)])) rfl rfl (hb hby d13_61)
    have V61 : Arv Z h61 b6 kc6 .char (17 : Int32) [(.int (97 : Int32)), (.int (117 : Int32)), (.int (116 : Int32)), (.int (104 : Int32)), (.int (111 : Int32)), (.int (114 : Int32)), (.int (105 : Int32)), (.int (122 : Int32)), (.int (97 : Int32)), (.int (116 : Int32)), (.int (0 : Int32)), (.int (0 : Int32)), (.int (0 : Int32)), (.int (0 : Int32)), (.int (0 : Int32)), (.int (0 : Int32)), (.int (0 : Int32))] (.int (0 : Int32)) := by
      have q := Arv.set Ar61 qa61 Sa61 Na61 Ha61 Ga61 (fits_nar_char _) W61 9 rfl (Nat.le_of_ble_eq_true rfl)
      exact q
    have K61 : Keep h0 h61 [] := K55.wr W61 (Or.inr sz_b6)
    have Z61 : n0 ≤ h61.size := Nat.le_trans Z55 (Keep.of_wr W61).1
    have N61 := Fr.snoc X61 N55 g_b6
    refine own_by st61 ?_
    have sg67 : ∀ t, own_S p e below T61 (mkF m 67 #[.val (.int p0)] [(.int (105 : Int32)), (.int (10 : Int32)), (.ref b6), (.ref b6)]) t → own_S p e below T61 (mkF m 62 #[.val (.int p0)] [(.ref b6)]) t := by
      intro t k
      show own_S p e below T61 (mkF m 62 #[.val (.int p0)] [(.ref b6)]) _
      refine XS.dup X61.here hx rfl (hb hby d13_62) rfl rfl ?_
      show own_S p e below T61 (mkF m 63 #[.val (.int p0)] [(.ref b6), (.ref b6)]) _
      refine XS.bipush X61.here hx rfl (hb hby d13_63) ?_
      show own_S p e below T61 (mkF m 65 #[.val (.int p0)] [(.int (10 : Int32)), (.ref b6), (.ref b6)]) _
      refine XS.bipush X61.here hx rfl (hb hby d13_65) ?_
      exact k
    refine own_by sg67 ?_
    obtain ⟨cl67, Ar67, qa67, Sa67, Na67, Ha67, Ga67⟩ := id V61
    obtain ⟨T67, h67, X67, e67, W67, st67⟩ := stC X61 hx hZ e61 Ar67 (j := (10 : Int32)) (inb_of Sa67 ⟨by decide, by decide⟩) (g := (mkF m 67 #[.val (.int p0)] [(.int (105 : Int32)), (.int (10 : Int32)), (.ref b6), (.ref b6)])) rfl rfl (hb hby d13_67)
    have V67 : Arv Z h67 b6 kc6 .char (17 : Int32) [(.int (97 : Int32)), (.int (117 : Int32)), (.int (116 : Int32)), (.int (104 : Int32)), (.int (111 : Int32)), (.int (114 : Int32)), (.int (105 : Int32)), (.int (122 : Int32)), (.int (97 : Int32)), (.int (116 : Int32)), (.int (105 : Int32)), (.int (0 : Int32)), (.int (0 : Int32)), (.int (0 : Int32)), (.int (0 : Int32)), (.int (0 : Int32)), (.int (0 : Int32))] (.int (0 : Int32)) := by
      have q := Arv.set Ar67 qa67 Sa67 Na67 Ha67 Ga67 (fits_nar_char _) W67 10 rfl (Nat.le_of_ble_eq_true rfl)
      exact q
    have K67 : Keep h0 h67 [] := K61.wr W67 (Or.inr sz_b6)
    have Z67 : n0 ≤ h67.size := Nat.le_trans Z61 (Keep.of_wr W67).1
    have N67 := Fr.snoc X67 N61 g_b6
    refine own_by st67 ?_
    have sg73 : ∀ t, own_S p e below T67 (mkF m 73 #[.val (.int p0)] [(.int (111 : Int32)), (.int (11 : Int32)), (.ref b6), (.ref b6)]) t → own_S p e below T67 (mkF m 68 #[.val (.int p0)] [(.ref b6)]) t := by
      intro t k
      show own_S p e below T67 (mkF m 68 #[.val (.int p0)] [(.ref b6)]) _
      refine XS.dup X67.here hx rfl (hb hby d13_68) rfl rfl ?_
      show own_S p e below T67 (mkF m 69 #[.val (.int p0)] [(.ref b6), (.ref b6)]) _
      refine XS.bipush X67.here hx rfl (hb hby d13_69) ?_
      show own_S p e below T67 (mkF m 71 #[.val (.int p0)] [(.int (11 : Int32)), (.ref b6), (.ref b6)]) _
      refine XS.bipush X67.here hx rfl (hb hby d13_71) ?_
      exact k
    refine own_by sg73 ?_
    obtain ⟨cl73, Ar73, qa73, Sa73, Na73, Ha73, Ga73⟩ := id V67
    obtain ⟨T73, h73, X73, e73, W73, st73⟩ := stC X67 hx hZ e67 Ar73 (j := (11 : Int32)) (inb_of Sa73 ⟨by decide, by decide⟩) (g := (mkF m 73 #[.val (.int p0)] [(.int (111 : Int32)), (.int (11 : Int32)), (.ref b6), (.ref b6)])) rfl rfl (hb hby d13_73)
    have V73 : Arv Z h73 b6 kc6 .char (17 : Int32) [(.int (97 : Int32)), (.int (117 : Int32)), (.int (116 : Int32)), (.int (104 : Int32)), (.int (111 : Int32)), (.int (114 : Int32)), (.int (105 : Int32)), (.int (122 : Int32)), (.int (97 : Int32)), (.int (116 : Int32)), (.int (105 : Int32)), (.int (111 : Int32)), (.int (0 : Int32)), (.int (0 : Int32)), (.int (0 : Int32)), (.int (0 : Int32)), (.int (0 : Int32))] (.int (0 : Int32)) := by
      have q := Arv.set Ar73 qa73 Sa73 Na73 Ha73 Ga73 (fits_nar_char _) W73 11 rfl (Nat.le_of_ble_eq_true rfl)
      exact q
    have K73 : Keep h0 h73 [] := K67.wr W73 (Or.inr sz_b6)
    have Z73 : n0 ≤ h73.size := Nat.le_trans Z67 (Keep.of_wr W73).1
    have N73 := Fr.snoc X73 N67 g_b6
    refine own_by st73 ?_
    have sg79 : ∀ t, own_S p e below T73 (mkF m 79 #[.val (.int p0)] [(.int (110 : Int32)), (.int (12 : Int32)), (.ref b6), (.ref b6)]) t → own_S p e below T73 (mkF m 74 #[.val (.int p0)] [(.ref b6)]) t := by
      intro t k
      show own_S p e below T73 (mkF m 74 #[.val (.int p0)] [(.ref b6)]) _
      refine XS.dup X73.here hx rfl (hb hby d13_74) rfl rfl ?_
      show own_S p e below T73 (mkF m 75 #[.val (.int p0)] [(.ref b6), (.ref b6)]) _
      refine XS.bipush X73.here hx rfl (hb hby d13_75) ?_
      show own_S p e below T73 (mkF m 77 #[.val (.int p0)] [(.int (12 : Int32)), (.ref b6), (.ref b6)]) _
      refine XS.bipush X73.here hx rfl (hb hby d13_77) ?_
      exact k
    refine own_by sg79 ?_
    obtain ⟨cl79, Ar79, qa79, Sa79, Na79, Ha79, Ga79⟩ := id V73
    obtain ⟨T79, h79, X79, e79, W79, st79⟩ := stC X73 hx hZ e73 Ar79 (j := (12 : Int32)) (inb_of Sa79 ⟨by decide, by decide⟩) (g := (mkF m 79 #[.val (.int p0)] [(.int (110 : Int32)), (.int (12 : Int32)), (.ref b6), (.ref b6)])) rfl rfl (hb hby d13_79)
    have V79 : Arv Z h79 b6 kc6 .char (17 : Int32) [(.int (97 : Int32)), (.int (117 : Int32)), (.int (116 : Int32)), (.int (104 : Int32)), (.int (111 : Int32)), (.int (114 : Int32)), (.int (105 : Int32)), (.int (122 : Int32)), (.int (97 : Int32)), (.int (116 : Int32)), (.int (105 : Int32)), (.int (111 : Int32)), (.int (110 : Int32)), (.int (0 : Int32)), (.int (0 : Int32)), (.int (0 : Int32)), (.int (0 : Int32))] (.int (0 : Int32)) := by
      have q := Arv.set Ar79 qa79 Sa79 Na79 Ha79 Ga79 (fits_nar_char _) W79 12 rfl (Nat.le_of_ble_eq_true rfl)
      exact q
    have K79 : Keep h0 h79 [] := K73.wr W79 (Or.inr sz_b6)
    have Z79 : n0 ≤ h79.size := Nat.le_trans Z73 (Keep.of_wr W79).1
    have N79 := Fr.snoc X79 N73 g_b6
    refine own_by st79 ?_
    have sg85 : ∀ t, own_S p e below T79 (mkF m 85 #[.val (.int p0)] [(.int (95 : Int32)), (.int (13 : Int32)), (.ref b6), (.ref b6)]) t → own_S p e below T79 (mkF m 80 #[.val (.int p0)] [(.ref b6)]) t := by
      intro t k
      show own_S p e below T79 (mkF m 80 #[.val (.int p0)] [(.ref b6)]) _
      refine XS.dup X79.here hx rfl (hb hby d13_80) rfl rfl ?_
      show own_S p e below T79 (mkF m 81 #[.val (.int p0)] [(.ref b6), (.ref b6)]) _
      refine XS.bipush X79.here hx rfl (hb hby d13_81) ?_
      show own_S p e below T79 (mkF m 83 #[.val (.int p0)] [(.int (13 : Int32)), (.ref b6), (.ref b6)]) _
      refine XS.bipush X79.here hx rfl (hb hby d13_83) ?_
      exact k
    refine own_by sg85 ?_
    obtain ⟨cl85, Ar85, qa85, Sa85, Na85, Ha85, Ga85⟩ := id V79
    obtain ⟨T85, h85, X85, e85, W85, st85⟩ := stC X79 hx hZ e79 Ar85 (j := (13 : Int32)) (inb_of Sa85 ⟨by decide, by decide⟩) (g := (mkF m 85 #[.val (.int p0)] [(.int (95 : Int32)), (.int (13 : Int32)), (.ref b6), (.ref b6)])) rfl rfl (hb hby d13_85)
    have V85 : Arv Z h85 b6 kc6 .char (17 : Int32) [(.int (97 : Int32)), (.int (117 : Int32)), (.int (116 : Int32)), (.int (104 : Int32)), (.int (111 : Int32)), (.int (114 : Int32)), (.int (105 : Int32)), (.int (122 : Int32)), (.int (97 : Int32)), (.int (116 : Int32)), (.int (105 : Int32)), (.int (111 : Int32)), (.int (110 : Int32)), (.int (95 : Int32)), (.int (0 : Int32)), (.int (0 : Int32)), (.int (0 : Int32))] (.int (0 : Int32)) := by
      have q := Arv.set Ar85 qa85 Sa85 Na85 Ha85 Ga85 (fits_nar_char _) W85 13 rfl (Nat.le_of_ble_eq_true rfl)
      exact q
    have K85 : Keep h0 h85 [] := K79.wr W85 (Or.inr sz_b6)
    have Z85 : n0 ≤ h85.size := Nat.le_trans Z79 (Keep.of_wr W85).1
    have N85 := Fr.snoc X85 N79 g_b6
    refine own_by st85 ?_
    have sg91 : ∀ t, own_S p e below T85 (mkF m 91 #[.val (.int p0)] [(.int (99 : Int32)), (.int (14 : Int32)), (.ref b6), (.ref b6)]) t → own_S p e below T85 (mkF m 86 #[.val (.int p0)] [(.ref b6)]) t := by
      intro t k
      show own_S p e below T85 (mkF m 86 #[.val (.int p0)] [(.ref b6)]) _
      refine XS.dup X85.here hx rfl (hb hby d13_86) rfl rfl ?_
      show own_S p e below T85 (mkF m 87 #[.val (.int p0)] [(.ref b6), (.ref b6)]) _
      refine XS.bipush X85.here hx rfl (hb hby d13_87) ?_
      show own_S p e below T85 (mkF m 89 #[.val (.int p0)] [(.int (14 : Int32)), (.ref b6), (.ref b6)]) _
      refine XS.bipush X85.here hx rfl (hb hby d13_89) ?_
      exact k
    refine own_by sg91 ?_
    obtain ⟨cl91, Ar91, qa91, Sa91, Na91, Ha91, Ga91⟩ := id V85
    obtain ⟨T91, h91, X91, e91, W91, st91⟩ := stC X85 hx hZ e85 Ar91 (j := (14 : Int32)) (inb_of Sa91 ⟨by decide, by decide⟩) (g := (mkF m 91 #[.val (.int p0)] [(.int (99 : Int32)), (.int (14 : Int32)), (.ref b6), (.ref b6)])) rfl rfl (hb hby d13_91)
    have V91 : Arv Z h91 b6 kc6 .char (17 : Int32) [(.int (97 : Int32)), (.int (117 : Int32)), (.int (116 : Int32)), (.int (104 : Int32)), (.int (111 : Int32)), (.int (114 : Int32)), (.int (105 : Int32)), (.int (122 : Int32)), (.int (97 : Int32)), (.int (116 : Int32)), (.int (105 : Int32)), (.int (111 : Int32)), (.int (110 : Int32)), (.int (95 : Int32)), (.int (99 : Int32)), (.int (0 : Int32)), (.int (0 : Int32))] (.int (0 : Int32)) := by
      have q := Arv.set Ar91 qa91 Sa91 Na91 Ha91 Ga91 (fits_nar_char _) W91 14 rfl (Nat.le_of_ble_eq_true rfl)
      exact q
    have K91 : Keep h0 h91 [] := K85.wr W91 (Or.inr sz_b6)
    have Z91 : n0 ≤ h91.size := Nat.le_trans Z85 (Keep.of_wr W91).1
    have N91 := Fr.snoc X91 N85 g_b6
    refine own_by st91 ?_
    have sg97 : ∀ t, own_S p e below T91 (mkF m 97 #[.val (.int p0)] [(.int (111 : Int32)), (.int (15 : Int32)), (.ref b6), (.ref b6)]) t → own_S p e below T91 (mkF m 92 #[.val (.int p0)] [(.ref b6)]) t := by
      intro t k
      show own_S p e below T91 (mkF m 92 #[.val (.int p0)] [(.ref b6)]) _
      refine XS.dup X91.here hx rfl (hb hby d13_92) rfl rfl ?_
      show own_S p e below T91 (mkF m 93 #[.val (.int p0)] [(.ref b6), (.ref b6)]) _
      refine XS.bipush X91.here hx rfl (hb hby d13_93) ?_
      show own_S p e below T91 (mkF m 95 #[.val (.int p0)] [(.int (15 : Int32)), (.ref b6), (.ref b6)]) _
      refine XS.bipush X91.here hx rfl (hb hby d13_95) ?_
      exact k
    refine own_by sg97 ?_
    obtain ⟨cl97, Ar97, qa97, Sa97, Na97, Ha97, Ga97⟩ := id V91
    obtain ⟨T97, h97, X97, e97, W97, st97⟩ := stC X91 hx hZ e91 Ar97 (j := (15 : Int32)) (inb_of Sa97 ⟨by decide, by decide⟩) (g := (mkF m 97 #[.val (.int p0)] [(.int (111 : Int32)), (.int (15 : Int32)), (.ref b6), (.ref b6)])) rfl rfl (hb hby d13_97)
    have V97 : Arv Z h97 b6 kc6 .char (17 : Int32) [(.int (97 : Int32)), (.int (117 : Int32)), (.int (116 : Int32)), (.int (104 : Int32)), (.int (111 : Int32)), (.int (114 : Int32)), (.int (105 : Int32)), (.int (122 : Int32)), (.int (97 : Int32)), (.int (116 : Int32)), (.int (105 : Int32)), (.int (111 : Int32)), (.int (110 : Int32)), (.int (95 : Int32)), (.int (99 : Int32)), (.int (111 : Int32)), (.int (0 : Int32))] (.int (0 : Int32)) := by
      have q := Arv.set Ar97 qa97 Sa97 Na97 Ha97 Ga97 (fits_nar_char _) W97 15 rfl (Nat.le_of_ble_eq_true rfl)
      exact q
    have K97 : Keep h0 h97 [] := K91.wr W97 (Or.inr sz_b6)
    have Z97 : n0 ≤ h97.size := Nat.le_trans Z91 (Keep.of_wr W97).1
    have N97 := Fr.snoc X97 N91 g_b6
    refine own_by st97 ?_
    have sg103 : ∀ t, own_S p e below T97 (mkF m 103 #[.val (.int p0)] [(.int (100 : Int32)), (.int (16 : Int32)), (.ref b6), (.ref b6)]) t → own_S p e below T97 (mkF m 98 #[.val (.int p0)] [(.ref b6)]) t := by
      intro t k
      show own_S p e below T97 (mkF m 98 #[.val (.int p0)] [(.ref b6)]) _
      refine XS.dup X97.here hx rfl (hb hby d13_98) rfl rfl ?_
      show own_S p e below T97 (mkF m 99 #[.val (.int p0)] [(.ref b6), (.ref b6)]) _
      refine XS.bipush X97.here hx rfl (hb hby d13_99) ?_
      show own_S p e below T97 (mkF m 101 #[.val (.int p0)] [(.int (16 : Int32)), (.ref b6), (.ref b6)]) _
      refine XS.bipush X97.here hx rfl (hb hby d13_101) ?_
      exact k
    refine own_by sg103 ?_
    obtain ⟨cl103, Ar103, qa103, Sa103, Na103, Ha103, Ga103⟩ := id V97
    obtain ⟨T103, h103, X103, e103, W103, st103⟩ := stC X97 hx hZ e97 Ar103 (j := (16 : Int32)) (inb_of Sa103 ⟨by decide, by decide⟩) (g := (mkF m 103 #[.val (.int p0)] [(.int (100 : Int32)), (.int (16 : Int32)), (.ref b6), (.ref b6)])) rfl rfl (hb hby d13_103)
    have V103 : Arv Z h103 b6 kc6 .char (17 : Int32) [(.int (97 : Int32)), (.int (117 : Int32)), (.int (116 : Int32)), (.int (104 : Int32)), (.int (111 : Int32)), (.int (114 : Int32)), (.int (105 : Int32)), (.int (122 : Int32)), (.int (97 : Int32)), (.int (116 : Int32)), (.int (105 : Int32)), (.int (111 : Int32)), (.int (110 : Int32)), (.int (95 : Int32)), (.int (99 : Int32)), (.int (111 : Int32)), (.int (100 : Int32))] (.int (0 : Int32)) := by
      have q := Arv.set Ar103 qa103 Sa103 Na103 Ha103 Ga103 (fits_nar_char _) W103 16 rfl (Nat.le_of_ble_eq_true rfl)
      exact q
    have K103 : Keep h0 h103 [] := K97.wr W103 (Or.inr sz_b6)
    have Z103 : n0 ≤ h103.size := Nat.le_trans Z97 (Keep.of_wr W103).1
    have N103 := Fr.snoc X103 N97 g_b6
    refine own_by st103 ?_
    obtain ⟨fs, hr, hrun, hended, hW, hsame⟩ := X103.leave (v := some (.ref b6)) (fun h => by rw [Bd.returns] at h; cases h)
    refine ⟨_, _, ?_, hrun, hended, _, _, rfl, ?_, ⟨_, rfl⟩, hW, hsame.mono (by decide) (by decide)⟩
    · show Steps p.tables e below (T103.setTop (mkF m 104 #[.val (.int p0)] [(.ref b6)])) _
      jvm_step X103.here [X103.here.top, hx, (hb hby d13_104), X103.method', Bd.returns, Value.isRef, FieldType.isReference]
      first | (intro acts; rw [hr _ acts rfl rfl rfl]) | rw [hr _ _ rfl rfl rfl]
      exact Steps.refl _
    · show Q13 Z p0 h0 n0 _ T103.heap _
      rw [e103]
      exact ⟨_, _, rfl, sz_b6, N103, K103, (by unfold own_n17; rw [if_pos hc1]; exact V103)⟩
  · have sg107 : ∀ t, own_S p e below s₁ (mkF m 107 #[.val (.int p0)] [(.int (17 : Int32))]) t → own_S p e below s₁ (mkF m 1 #[.val (.int p0)] [(.int p0)]) t := by
      intro t k
      show own_S p e below s₁ (mkF m 1 #[.val (.int p0)] [(.int p0)]) _
      refine XS.ifYes X0.here hx rfl (pc0 := 1) (pc' := 105) rfl (hb hby d13_1) rfl ((if0 _ _).trans (feq hc1).2) (by decide) (by decide) ?_
      show own_S p e below s₁ (mkF m 105 #[.val (.int p0)] []) _
      refine XS.bipush X0.here hx rfl (hb hby d13_105) ?_
      exact k
    refine own_by sg107 ?_
    obtain ⟨T107, h107, kc107, X107, e107, E107, A107, st107⟩ := newP X0 hx hZ (hw _ (List.mem_of_getElem? (i := 8) rfl)) e0 (g := (mkF m 107 #[.val (.int p0)] [(.int (17 : Int32))])) rfl (hb hby d13_107) rfl (by decide) (cap := 17) (by decide) (by decide) (by decide) (by decide)
    obtain ⟨b107, g107⟩ : ∃ z, z = h0.size := ⟨_, rfl⟩
    rw [← g107] at A107 st107
    have g_b107 : n0 ≤ b107 := Nat.le_trans Z0 (Nat.le_of_eq g107.symm)
    have sz_b107 : h0.size ≤ b107 := Nat.le_trans K0.1 (Nat.le_of_eq g107.symm)
    have K107 := K0.ext E107
    have Z107 : n0 ≤ h107.size := Nat.le_trans Z0 E107.1
    have V107 : Arv Z h107 b107 kc107 .char (17 : Int32) [(.int (0 : Int32)), (.int (0 : Int32)), (.int (0 : Int32)), (.int (0 : Int32)), (.int (0 : Int32)), (.int (0 : Int32)), (.int (0 : Int32)), (.int (0 : Int32)), (.int (0 : Int32)), (.int (0 : Int32)), (.int (0 : Int32)), (.int (0 : Int32)), (.int (0 : Int32)), (.int (0 : Int32)), (.int (0 : Int32)), (.int (0 : Int32)), (.int (0 : Int32))] (.int (0 : Int32)) := (Arv.new A107 (by decide)).pad (pad_rep [] (.int (0 : Int32)) 17)
    refine own_by st107 ?_
    have sg113 : ∀ t, own_S p e below T107 (mkF m 113 #[.val (.int p0)] [(.int (99 : Int32)), (.int (0 : Int32)), (.ref b107), (.ref b107)]) t → own_S p e below T107 (mkF m 109 #[.val (.int p0)] [(.ref b107)]) t := by
      intro t k
      show own_S p e below T107 (mkF m 109 #[.val (.int p0)] [(.ref b107)]) _
      refine XS.dup X107.here hx rfl (hb hby d13_109) rfl rfl ?_
      show own_S p e below T107 (mkF m 110 #[.val (.int p0)] [(.ref b107), (.ref b107)]) _
      refine XS.iconst X107.here hx rfl (hb hby d13_110) ?_
      show own_S p e below T107 (mkF m 111 #[.val (.int p0)] [(.int (0 : Int32)), (.ref b107), (.ref b107)]) _
      refine XS.bipush X107.here hx rfl (hb hby d13_111) ?_
      exact k
    refine own_by sg113 ?_
    obtain ⟨cl113, Ar113, qa113, Sa113, Na113, Ha113, Ga113⟩ := id V107
    obtain ⟨T113, h113, X113, e113, W113, st113⟩ := stC X107 hx hZ e107 Ar113 (j := (0 : Int32)) (inb_of Sa113 ⟨by decide, by decide⟩) (g := (mkF m 113 #[.val (.int p0)] [(.int (99 : Int32)), (.int (0 : Int32)), (.ref b107), (.ref b107)])) rfl rfl (hb hby d13_113)
    have V113 : Arv Z h113 b107 kc107 .char (17 : Int32) [(.int (99 : Int32)), (.int (0 : Int32)), (.int (0 : Int32)), (.int (0 : Int32)), (.int (0 : Int32)), (.int (0 : Int32)), (.int (0 : Int32)), (.int (0 : Int32)), (.int (0 : Int32)), (.int (0 : Int32)), (.int (0 : Int32)), (.int (0 : Int32)), (.int (0 : Int32)), (.int (0 : Int32)), (.int (0 : Int32)), (.int (0 : Int32)), (.int (0 : Int32))] (.int (0 : Int32)) := by
      have q := Arv.set Ar113 qa113 Sa113 Na113 Ha113 Ga113 (fits_nar_char _) W113 0 rfl (Nat.le_of_ble_eq_true rfl)
      exact q
    have K113 : Keep h0 h113 [] := K107.wr W113 (Or.inr sz_b107)
    have Z113 : n0 ≤ h113.size := Nat.le_trans Z107 (Keep.of_wr W113).1
    have N113 := Fr.snoc X113 N0 g_b107
    refine own_by st113 ?_
    have sg118 : ∀ t, own_S p e below T113 (mkF m 118 #[.val (.int p0)] [(.int (108 : Int32)), (.int (1 : Int32)), (.ref b107), (.ref b107)]) t → own_S p e below T113 (mkF m 114 #[.val (.int p0)] [(.ref b107)]) t := by
      intro t k
      show own_S p e below T113 (mkF m 114 #[.val (.int p0)] [(.ref b107)]) _
      refine XS.dup X113.here hx rfl (hb hby d13_114) rfl rfl ?_
      show own_S p e below T113 (mkF m 115 #[.val (.int p0)] [(.ref b107), (.ref b107)]) _
      refine XS.iconst X113.here hx rfl (hb hby d13_115) ?_
      show own_S p e below T113 (mkF m 116 #[.val (.int p0)] [(.int (1 : Int32)), (.ref b107), (.ref b107)]) _
      refine XS.bipush X113.here hx rfl (hb hby d13_116) ?_
      exact k
    refine own_by sg118 ?_
    obtain ⟨cl118, Ar118, qa118, Sa118, Na118, Ha118, Ga118⟩ := id V113
    obtain ⟨T118, h118, X118, e118, W118, st118⟩ := stC X113 hx hZ e113 Ar118 (j := (1 : Int32)) (inb_of Sa118 ⟨by decide, by decide⟩) (g := (mkF m 118 #[.val (.int p0)] [(.int (108 : Int32)), (.int (1 : Int32)), (.ref b107), (.ref b107)])) rfl rfl (hb hby d13_118)
    have V118 : Arv Z h118 b107 kc107 .char (17 : Int32) [(.int (99 : Int32)), (.int (108 : Int32)), (.int (0 : Int32)), (.int (0 : Int32)), (.int (0 : Int32)), (.int (0 : Int32)), (.int (0 : Int32)), (.int (0 : Int32)), (.int (0 : Int32)), (.int (0 : Int32)), (.int (0 : Int32)), (.int (0 : Int32)), (.int (0 : Int32)), (.int (0 : Int32)), (.int (0 : Int32)), (.int (0 : Int32)), (.int (0 : Int32))] (.int (0 : Int32)) := by
      have q := Arv.set Ar118 qa118 Sa118 Na118 Ha118 Ga118 (fits_nar_char _) W118 1 rfl (Nat.le_of_ble_eq_true rfl)
      exact q
    have K118 : Keep h0 h118 [] := K113.wr W118 (Or.inr sz_b107)
    have Z118 : n0 ≤ h118.size := Nat.le_trans Z113 (Keep.of_wr W118).1
    have N118 := Fr.snoc X118 N113 g_b107
    refine own_by st118 ?_
    have sg123 : ∀ t, own_S p e below T118 (mkF m 123 #[.val (.int p0)] [(.int (105 : Int32)), (.int (2 : Int32)), (.ref b107), (.ref b107)]) t → own_S p e below T118 (mkF m 119 #[.val (.int p0)] [(.ref b107)]) t := by
      intro t k
      show own_S p e below T118 (mkF m 119 #[.val (.int p0)] [(.ref b107)]) _
      refine XS.dup X118.here hx rfl (hb hby d13_119) rfl rfl ?_
      show own_S p e below T118 (mkF m 120 #[.val (.int p0)] [(.ref b107), (.ref b107)]) _
      refine XS.iconst X118.here hx rfl (hb hby d13_120) ?_
      show own_S p e below T118 (mkF m 121 #[.val (.int p0)] [(.int (2 : Int32)), (.ref b107), (.ref b107)]) _
      refine XS.bipush X118.here hx rfl (hb hby d13_121) ?_
      exact k
    refine own_by sg123 ?_
    obtain ⟨cl123, Ar123, qa123, Sa123, Na123, Ha123, Ga123⟩ := id V118
    obtain ⟨T123, h123, X123, e123, W123, st123⟩ := stC X118 hx hZ e118 Ar123 (j := (2 : Int32)) (inb_of Sa123 ⟨by decide, by decide⟩) (g := (mkF m 123 #[.val (.int p0)] [(.int (105 : Int32)), (.int (2 : Int32)), (.ref b107), (.ref b107)])) rfl rfl (hb hby d13_123)
    have V123 : Arv Z h123 b107 kc107 .char (17 : Int32) [(.int (99 : Int32)), (.int (108 : Int32)), (.int (105 : Int32)), (.int (0 : Int32)), (.int (0 : Int32)), (.int (0 : Int32)), (.int (0 : Int32)), (.int (0 : Int32)), (.int (0 : Int32)), (.int (0 : Int32)), (.int (0 : Int32)), (.int (0 : Int32)), (.int (0 : Int32)), (.int (0 : Int32)), (.int (0 : Int32)), (.int (0 : Int32)), (.int (0 : Int32))] (.int (0 : Int32)) := by
      have q := Arv.set Ar123 qa123 Sa123 Na123 Ha123 Ga123 (fits_nar_char _) W123 2 rfl (Nat.le_of_ble_eq_true rfl)
      exact q
    have K123 : Keep h0 h123 [] := K118.wr W123 (Or.inr sz_b107)
    have Z123 : n0 ≤ h123.size := Nat.le_trans Z118 (Keep.of_wr W123).1
    have N123 := Fr.snoc X123 N118 g_b107
    refine own_by st123 ?_
    have sg128 : ∀ t, own_S p e below T123 (mkF m 128 #[.val (.int p0)] [(.int (101 : Int32)), (.int (3 : Int32)), (.ref b107), (.ref b107)]) t → own_S p e below T123 (mkF m 124 #[.val (.int p0)] [(.ref b107)]) t := by
      intro t k
      show own_S p e below T123 (mkF m 124 #[.val (.int p0)] [(.ref b107)]) _
      refine XS.dup X123.here hx rfl (hb hby d13_124) rfl rfl ?_
      show own_S p e below T123 (mkF m 125 #[.val (.int p0)] [(.ref b107), (.ref b107)]) _
      refine XS.iconst X123.here hx rfl (hb hby d13_125) ?_
      show own_S p e below T123 (mkF m 126 #[.val (.int p0)] [(.int (3 : Int32)), (.ref b107), (.ref b107)]) _
      refine XS.bipush X123.here hx rfl (hb hby d13_126) ?_
      exact k
    refine own_by sg128 ?_
    obtain ⟨cl128, Ar128, qa128, Sa128, Na128, Ha128, Ga128⟩ := id V123
    obtain ⟨T128, h128, X128, e128, W128, st128⟩ := stC X123 hx hZ e123 Ar128 (j := (3 : Int32)) (inb_of Sa128 ⟨by decide, by decide⟩) (g := (mkF m 128 #[.val (.int p0)] [(.int (101 : Int32)), (.int (3 : Int32)), (.ref b107), (.ref b107)])) rfl rfl (hb hby d13_128)
    have V128 : Arv Z h128 b107 kc107 .char (17 : Int32) [(.int (99 : Int32)), (.int (108 : Int32)), (.int (105 : Int32)), (.int (101 : Int32)), (.int (0 : Int32)), (.int (0 : Int32)), (.int (0 : Int32)), (.int (0 : Int32)), (.int (0 : Int32)), (.int (0 : Int32)), (.int (0 : Int32)), (.int (0 : Int32)), (.int (0 : Int32)), (.int (0 : Int32)), (.int (0 : Int32)), (.int (0 : Int32)), (.int (0 : Int32))] (.int (0 : Int32)) := by
      have q := Arv.set Ar128 qa128 Sa128 Na128 Ha128 Ga128 (fits_nar_char _) W128 3 rfl (Nat.le_of_ble_eq_true rfl)
      exact q
    have K128 : Keep h0 h128 [] := K123.wr W128 (Or.inr sz_b107)
    have Z128 : n0 ≤ h128.size := Nat.le_trans Z123 (Keep.of_wr W128).1
    have N128 := Fr.snoc X128 N123 g_b107
    refine own_by st128 ?_
    have sg133 : ∀ t, own_S p e below T128 (mkF m 133 #[.val (.int p0)] [(.int (110 : Int32)), (.int (4 : Int32)), (.ref b107), (.ref b107)]) t → own_S p e below T128 (mkF m 129 #[.val (.int p0)] [(.ref b107)]) t := by
      intro t k
      show own_S p e below T128 (mkF m 129 #[.val (.int p0)] [(.ref b107)]) _
      refine XS.dup X128.here hx rfl (hb hby d13_129) rfl rfl ?_
      show own_S p e below T128 (mkF m 130 #[.val (.int p0)] [(.ref b107), (.ref b107)]) _
      refine XS.iconst X128.here hx rfl (hb hby d13_130) ?_
      show own_S p e below T128 (mkF m 131 #[.val (.int p0)] [(.int (4 : Int32)), (.ref b107), (.ref b107)]) _
      refine XS.bipush X128.here hx rfl (hb hby d13_131) ?_
      exact k
    refine own_by sg133 ?_
    obtain ⟨cl133, Ar133, qa133, Sa133, Na133, Ha133, Ga133⟩ := id V128
    obtain ⟨T133, h133, X133, e133, W133, st133⟩ := stC X128 hx hZ e128 Ar133 (j := (4 : Int32)) (inb_of Sa133 ⟨by decide, by decide⟩) (g := (mkF m 133 #[.val (.int p0)] [(.int (110 : Int32)), (.int (4 : Int32)), (.ref b107), (.ref b107)])) rfl rfl (hb hby d13_133)
    have V133 : Arv Z h133 b107 kc107 .char (17 : Int32) [(.int (99 : Int32)), (.int (108 : Int32)), (.int (105 : Int32)), (.int (101 : Int32)), (.int (110 : Int32)), (.int (0 : Int32)), (.int (0 : Int32)), (.int (0 : Int32)), (.int (0 : Int32)), (.int (0 : Int32)), (.int (0 : Int32)), (.int (0 : Int32)), (.int (0 : Int32)), (.int (0 : Int32)), (.int (0 : Int32)), (.int (0 : Int32)), (.int (0 : Int32))] (.int (0 : Int32)) := by
      have q := Arv.set Ar133 qa133 Sa133 Na133 Ha133 Ga133 (fits_nar_char _) W133 4 rfl (Nat.le_of_ble_eq_true rfl)
      exact q
    have K133 : Keep h0 h133 [] := K128.wr W133 (Or.inr sz_b107)
    have Z133 : n0 ≤ h133.size := Nat.le_trans Z128 (Keep.of_wr W133).1
    have N133 := Fr.snoc X133 N128 g_b107
    refine own_by st133 ?_
    have sg138 : ∀ t, own_S p e below T133 (mkF m 138 #[.val (.int p0)] [(.int (116 : Int32)), (.int (5 : Int32)), (.ref b107), (.ref b107)]) t → own_S p e below T133 (mkF m 134 #[.val (.int p0)] [(.ref b107)]) t := by
      intro t k
      show own_S p e below T133 (mkF m 134 #[.val (.int p0)] [(.ref b107)]) _
      refine XS.dup X133.here hx rfl (hb hby d13_134) rfl rfl ?_
      show own_S p e below T133 (mkF m 135 #[.val (.int p0)] [(.ref b107), (.ref b107)]) _
      refine XS.iconst X133.here hx rfl (hb hby d13_135) ?_
      show own_S p e below T133 (mkF m 136 #[.val (.int p0)] [(.int (5 : Int32)), (.ref b107), (.ref b107)]) _
      refine XS.bipush X133.here hx rfl (hb hby d13_136) ?_
      exact k
    refine own_by sg138 ?_
    obtain ⟨cl138, Ar138, qa138, Sa138, Na138, Ha138, Ga138⟩ := id V133
    obtain ⟨T138, h138, X138, e138, W138, st138⟩ := stC X133 hx hZ e133 Ar138 (j := (5 : Int32)) (inb_of Sa138 ⟨by decide, by decide⟩) (g := (mkF m 138 #[.val (.int p0)] [(.int (116 : Int32)), (.int (5 : Int32)), (.ref b107), (.ref b107)])) rfl rfl (hb hby d13_138)
    have V138 : Arv Z h138 b107 kc107 .char (17 : Int32) [(.int (99 : Int32)), (.int (108 : Int32)), (.int (105 : Int32)), (.int (101 : Int32)), (.int (110 : Int32)), (.int (116 : Int32)), (.int (0 : Int32)), (.int (0 : Int32)), (.int (0 : Int32)), (.int (0 : Int32)), (.int (0 : Int32)), (.int (0 : Int32)), (.int (0 : Int32)), (.int (0 : Int32)), (.int (0 : Int32)), (.int (0 : Int32)), (.int (0 : Int32))] (.int (0 : Int32)) := by
      have q := Arv.set Ar138 qa138 Sa138 Na138 Ha138 Ga138 (fits_nar_char _) W138 5 rfl (Nat.le_of_ble_eq_true rfl)
      exact q
    have K138 : Keep h0 h138 [] := K133.wr W138 (Or.inr sz_b107)
    have Z138 : n0 ≤ h138.size := Nat.le_trans Z133 (Keep.of_wr W138).1
    have N138 := Fr.snoc X138 N133 g_b107
    refine own_by st138 ?_
    have sg144 : ∀ t, own_S p e below T138 (mkF m 144 #[.val (.int p0)] [(.int (95 : Int32)), (.int (6 : Int32)), (.ref b107), (.ref b107)]) t → own_S p e below T138 (mkF m 139 #[.val (.int p0)] [(.ref b107)]) t := by
      intro t k
      show own_S p e below T138 (mkF m 139 #[.val (.int p0)] [(.ref b107)]) _
      refine XS.dup X138.here hx rfl (hb hby d13_139) rfl rfl ?_
      show own_S p e below T138 (mkF m 140 #[.val (.int p0)] [(.ref b107), (.ref b107)]) _
      refine XS.bipush X138.here hx rfl (hb hby d13_140) ?_
      show own_S p e below T138 (mkF m 142 #[.val (.int p0)] [(.int (6 : Int32)), (.ref b107), (.ref b107)]) _
      refine XS.bipush X138.here hx rfl (hb hby d13_142) ?_
      exact k
    refine own_by sg144 ?_
    obtain ⟨cl144, Ar144, qa144, Sa144, Na144, Ha144, Ga144⟩ := id V138
    obtain ⟨T144, h144, X144, e144, W144, st144⟩ := stC X138 hx hZ e138 Ar144 (j := (6 : Int32)) (inb_of Sa144 ⟨by decide, by decide⟩) (g := (mkF m 144 #[.val (.int p0)] [(.int (95 : Int32)), (.int (6 : Int32)), (.ref b107), (.ref b107)])) rfl rfl (hb hby d13_144)
    have V144 : Arv Z h144 b107 kc107 .char (17 : Int32) [(.int (99 : Int32)), (.int (108 : Int32)), (.int (105 : Int32)), (.int (101 : Int32)), (.int (110 : Int32)), (.int (116 : Int32)), (.int (95 : Int32)), (.int (0 : Int32)), (.int (0 : Int32)), (.int (0 : Int32)), (.int (0 : Int32)), (.int (0 : Int32)), (.int (0 : Int32)), (.int (0 : Int32)), (.int (0 : Int32)), (.int (0 : Int32)), (.int (0 : Int32))] (.int (0 : Int32)) := by
      have q := Arv.set Ar144 qa144 Sa144 Na144 Ha144 Ga144 (fits_nar_char _) W144 6 rfl (Nat.le_of_ble_eq_true rfl)
      exact q
    have K144 : Keep h0 h144 [] := K138.wr W144 (Or.inr sz_b107)
    have Z144 : n0 ≤ h144.size := Nat.le_trans Z138 (Keep.of_wr W144).1
    have N144 := Fr.snoc X144 N138 g_b107
    refine own_by st144 ?_
    have sg150 : ∀ t, own_S p e below T144 (mkF m 150 #[.val (.int p0)] [(.int (99 : Int32)), (.int (7 : Int32)), (.ref b107), (.ref b107)]) t → own_S p e below T144 (mkF m 145 #[.val (.int p0)] [(.ref b107)]) t := by
      intro t k
      show own_S p e below T144 (mkF m 145 #[.val (.int p0)] [(.ref b107)]) _
      refine XS.dup X144.here hx rfl (hb hby d13_145) rfl rfl ?_
      show own_S p e below T144 (mkF m 146 #[.val (.int p0)] [(.ref b107), (.ref b107)]) _
      refine XS.bipush X144.here hx rfl (hb hby d13_146) ?_
      show own_S p e below T144 (mkF m 148 #[.val (.int p0)] [(.int (7 : Int32)), (.ref b107), (.ref b107)]) _
      refine XS.bipush X144.here hx rfl (hb hby d13_148) ?_
      exact k
    refine own_by sg150 ?_
    obtain ⟨cl150, Ar150, qa150, Sa150, Na150, Ha150, Ga150⟩ := id V144
    obtain ⟨T150, h150, X150, e150, W150, st150⟩ := stC X144 hx hZ e144 Ar150 (j := (7 : Int32)) (inb_of Sa150 ⟨by decide, by decide⟩) (g := (mkF m 150 #[.val (.int p0)] [(.int (99 : Int32)), (.int (7 : Int32)), (.ref b107), (.ref b107)])) rfl rfl (hb hby d13_150)
    have V150 : Arv Z h150 b107 kc107 .char (17 : Int32) [(.int (99 : Int32)), (.int (108 : Int32)), (.int (105 : Int32)), (.int (101 : Int32)), (.int (110 : Int32)), (.int (116 : Int32)), (.int (95 : Int32)), (.int (99 : Int32)), (.int (0 : Int32)), (.int (0 : Int32)), (.int (0 : Int32)), (.int (0 : Int32)), (.int (0 : Int32)), (.int (0 : Int32)), (.int (0 : Int32)), (.int (0 : Int32)), (.int (0 : Int32))] (.int (0 : Int32)) := by
      have q := Arv.set Ar150 qa150 Sa150 Na150 Ha150 Ga150 (fits_nar_char _) W150 7 rfl (Nat.le_of_ble_eq_true rfl)
      exact q
    have K150 : Keep h0 h150 [] := K144.wr W150 (Or.inr sz_b107)
    have Z150 : n0 ≤ h150.size := Nat.le_trans Z144 (Keep.of_wr W150).1
    have N150 := Fr.snoc X150 N144 g_b107
    refine own_by st150 ?_
    have sg156 : ∀ t, own_S p e below T150 (mkF m 156 #[.val (.int p0)] [(.int (114 : Int32)), (.int (8 : Int32)), (.ref b107), (.ref b107)]) t → own_S p e below T150 (mkF m 151 #[.val (.int p0)] [(.ref b107)]) t := by
      intro t k
      show own_S p e below T150 (mkF m 151 #[.val (.int p0)] [(.ref b107)]) _
      refine XS.dup X150.here hx rfl (hb hby d13_151) rfl rfl ?_
      show own_S p e below T150 (mkF m 152 #[.val (.int p0)] [(.ref b107), (.ref b107)]) _
      refine XS.bipush X150.here hx rfl (hb hby d13_152) ?_
      show own_S p e below T150 (mkF m 154 #[.val (.int p0)] [(.int (8 : Int32)), (.ref b107), (.ref b107)]) _
      refine XS.bipush X150.here hx rfl (hb hby d13_154) ?_
      exact k
    refine own_by sg156 ?_
    obtain ⟨cl156, Ar156, qa156, Sa156, Na156, Ha156, Ga156⟩ := id V150
    obtain ⟨T156, h156, X156, e156, W156, st156⟩ := stC X150 hx hZ e150 Ar156 (j := (8 : Int32)) (inb_of Sa156 ⟨by decide, by decide⟩) (g := (mkF m 156 #[.val (.int p0)] [(.int (114 : Int32)), (.int (8 : Int32)), (.ref b107), (.ref b107)])) rfl rfl (hb hby d13_156)
    have V156 : Arv Z h156 b107 kc107 .char (17 : Int32) [(.int (99 : Int32)), (.int (108 : Int32)), (.int (105 : Int32)), (.int (101 : Int32)), (.int (110 : Int32)), (.int (116 : Int32)), (.int (95 : Int32)), (.int (99 : Int32)), (.int (114 : Int32)), (.int (0 : Int32)), (.int (0 : Int32)), (.int (0 : Int32)), (.int (0 : Int32)), (.int (0 : Int32)), (.int (0 : Int32)), (.int (0 : Int32)), (.int (0 : Int32))] (.int (0 : Int32)) := by
      have q := Arv.set Ar156 qa156 Sa156 Na156 Ha156 Ga156 (fits_nar_char _) W156 8 rfl (Nat.le_of_ble_eq_true rfl)
      exact q
    have K156 : Keep h0 h156 [] := K150.wr W156 (Or.inr sz_b107)
    have Z156 : n0 ≤ h156.size := Nat.le_trans Z150 (Keep.of_wr W156).1
    have N156 := Fr.snoc X156 N150 g_b107
    refine own_by st156 ?_
    have sg162 : ∀ t, own_S p e below T156 (mkF m 162 #[.val (.int p0)] [(.int (101 : Int32)), (.int (9 : Int32)), (.ref b107), (.ref b107)]) t → own_S p e below T156 (mkF m 157 #[.val (.int p0)] [(.ref b107)]) t := by
      intro t k
      show own_S p e below T156 (mkF m 157 #[.val (.int p0)] [(.ref b107)]) _
      refine XS.dup X156.here hx rfl (hb hby d13_157) rfl rfl ?_
      show own_S p e below T156 (mkF m 158 #[.val (.int p0)] [(.ref b107), (.ref b107)]) _
      refine XS.bipush X156.here hx rfl (hb hby d13_158) ?_
      show own_S p e below T156 (mkF m 160 #[.val (.int p0)] [(.int (9 : Int32)), (.ref b107), (.ref b107)]) _
      refine XS.bipush X156.here hx rfl (hb hby d13_160) ?_
      exact k
    refine own_by sg162 ?_
    obtain ⟨cl162, Ar162, qa162, Sa162, Na162, Ha162, Ga162⟩ := id V156
    obtain ⟨T162, h162, X162, e162, W162, st162⟩ := stC X156 hx hZ e156 Ar162 (j := (9 : Int32)) (inb_of Sa162 ⟨by decide, by decide⟩) (g := (mkF m 162 #[.val (.int p0)] [(.int (101 : Int32)), (.int (9 : Int32)), (.ref b107), (.ref b107)])) rfl rfl (hb hby d13_162)
    have V162 : Arv Z h162 b107 kc107 .char (17 : Int32) [(.int (99 : Int32)), (.int (108 : Int32)), (.int (105 : Int32)), (.int (101 : Int32)), (.int (110 : Int32)), (.int (116 : Int32)), (.int (95 : Int32)), (.int (99 : Int32)), (.int (114 : Int32)), (.int (101 : Int32)), (.int (0 : Int32)), (.int (0 : Int32)), (.int (0 : Int32)), (.int (0 : Int32)), (.int (0 : Int32)), (.int (0 : Int32)), (.int (0 : Int32))] (.int (0 : Int32)) := by
      have q := Arv.set Ar162 qa162 Sa162 Na162 Ha162 Ga162 (fits_nar_char _) W162 9 rfl (Nat.le_of_ble_eq_true rfl)
      exact q
    have K162 : Keep h0 h162 [] := K156.wr W162 (Or.inr sz_b107)
    have Z162 : n0 ≤ h162.size := Nat.le_trans Z156 (Keep.of_wr W162).1
    have N162 := Fr.snoc X162 N156 g_b107
    refine own_by st162 ?_
    have sg168 : ∀ t, own_S p e below T162 (mkF m 168 #[.val (.int p0)] [(.int (100 : Int32)), (.int (10 : Int32)), (.ref b107), (.ref b107)]) t → own_S p e below T162 (mkF m 163 #[.val (.int p0)] [(.ref b107)]) t := by
      intro t k
      show own_S p e below T162 (mkF m 163 #[.val (.int p0)] [(.ref b107)]) _
      refine XS.dup X162.here hx rfl (hb hby d13_163) rfl rfl ?_
      show own_S p e below T162 (mkF m 164 #[.val (.int p0)] [(.ref b107), (.ref b107)]) _
      refine XS.bipush X162.here hx rfl (hb hby d13_164) ?_
      show own_S p e below T162 (mkF m 166 #[.val (.int p0)] [(.int (10 : Int32)), (.ref b107), (.ref b107)]) _
      refine XS.bipush X162.here hx rfl (hb hby d13_166) ?_
      exact k
    refine own_by sg168 ?_
    obtain ⟨cl168, Ar168, qa168, Sa168, Na168, Ha168, Ga168⟩ := id V162
    obtain ⟨T168, h168, X168, e168, W168, st168⟩ := stC X162 hx hZ e162 Ar168 (j := (10 : Int32)) (inb_of Sa168 ⟨by decide, by decide⟩) (g := (mkF m 168 #[.val (.int p0)] [(.int (100 : Int32)), (.int (10 : Int32)), (.ref b107), (.ref b107)])) rfl rfl (hb hby d13_168)
    have V168 : Arv Z h168 b107 kc107 .char (17 : Int32) [(.int (99 : Int32)), (.int (108 : Int32)), (.int (105 : Int32)), (.int (101 : Int32)), (.int (110 : Int32)), (.int (116 : Int32)), (.int (95 : Int32)), (.int (99 : Int32)), (.int (114 : Int32)), (.int (101 : Int32)), (.int (100 : Int32)), (.int (0 : Int32)), (.int (0 : Int32)), (.int (0 : Int32)), (.int (0 : Int32)), (.int (0 : Int32)), (.int (0 : Int32))] (.int (0 : Int32)) := by
      have q := Arv.set Ar168 qa168 Sa168 Na168 Ha168 Ga168 (fits_nar_char _) W168 10 rfl (Nat.le_of_ble_eq_true rfl)
      exact q
    have K168 : Keep h0 h168 [] := K162.wr W168 (Or.inr sz_b107)
    have Z168 : n0 ≤ h168.size := Nat.le_trans Z162 (Keep.of_wr W168).1
    have N168 := Fr.snoc X168 N162 g_b107
    refine own_by st168 ?_
    have sg174 : ∀ t, own_S p e below T168 (mkF m 174 #[.val (.int p0)] [(.int (101 : Int32)), (.int (11 : Int32)), (.ref b107), (.ref b107)]) t → own_S p e below T168 (mkF m 169 #[.val (.int p0)] [(.ref b107)]) t := by
      intro t k
      show own_S p e below T168 (mkF m 169 #[.val (.int p0)] [(.ref b107)]) _
      refine XS.dup X168.here hx rfl (hb hby d13_169) rfl rfl ?_
      show own_S p e below T168 (mkF m 170 #[.val (.int p0)] [(.ref b107), (.ref b107)]) _
      refine XS.bipush X168.here hx rfl (hb hby d13_170) ?_
      show own_S p e below T168 (mkF m 172 #[.val (.int p0)] [(.int (11 : Int32)), (.ref b107), (.ref b107)]) _
      refine XS.bipush X168.here hx rfl (hb hby d13_172) ?_
      exact k
    refine own_by sg174 ?_
    obtain ⟨cl174, Ar174, qa174, Sa174, Na174, Ha174, Ga174⟩ := id V168
    obtain ⟨T174, h174, X174, e174, W174, st174⟩ := stC X168 hx hZ e168 Ar174 (j := (11 : Int32)) (inb_of Sa174 ⟨by decide, by decide⟩) (g := (mkF m 174 #[.val (.int p0)] [(.int (101 : Int32)), (.int (11 : Int32)), (.ref b107), (.ref b107)])) rfl rfl (hb hby d13_174)
    have V174 : Arv Z h174 b107 kc107 .char (17 : Int32) [(.int (99 : Int32)), (.int (108 : Int32)), (.int (105 : Int32)), (.int (101 : Int32)), (.int (110 : Int32)), (.int (116 : Int32)), (.int (95 : Int32)), (.int (99 : Int32)), (.int (114 : Int32)), (.int (101 : Int32)), (.int (100 : Int32)), (.int (101 : Int32)), (.int (0 : Int32)), (.int (0 : Int32)), (.int (0 : Int32)), (.int (0 : Int32)), (.int (0 : Int32))] (.int (0 : Int32)) := by
      have q := Arv.set Ar174 qa174 Sa174 Na174 Ha174 Ga174 (fits_nar_char _) W174 11 rfl (Nat.le_of_ble_eq_true rfl)
      exact q
    have K174 : Keep h0 h174 [] := K168.wr W174 (Or.inr sz_b107)
    have Z174 : n0 ≤ h174.size := Nat.le_trans Z168 (Keep.of_wr W174).1
    have N174 := Fr.snoc X174 N168 g_b107
    refine own_by st174 ?_
    have sg180 : ∀ t, own_S p e below T174 (mkF m 180 #[.val (.int p0)] [(.int (110 : Int32)), (.int (12 : Int32)), (.ref b107), (.ref b107)]) t → own_S p e below T174 (mkF m 175 #[.val (.int p0)] [(.ref b107)]) t := by
      intro t k
      show own_S p e below T174 (mkF m 175 #[.val (.int p0)] [(.ref b107)]) _
      refine XS.dup X174.here hx rfl (hb hby d13_175) rfl rfl ?_
      show own_S p e below T174 (mkF m 176 #[.val (.int p0)] [(.ref b107), (.ref b107)]) _
      refine XS.bipush X174.here hx rfl (hb hby d13_176) ?_
      show own_S p e below T174 (mkF m 178 #[.val (.int p0)] [(.int (12 : Int32)), (.ref b107), (.ref b107)]) _
      refine XS.bipush X174.here hx rfl (hb hby d13_178) ?_
      exact k
    refine own_by sg180 ?_
    obtain ⟨cl180, Ar180, qa180, Sa180, Na180, Ha180, Ga180⟩ := id V174
    obtain ⟨T180, h180, X180, e180, W180, st180⟩ := stC X174 hx hZ e174 Ar180 (j := (12 : Int32)) (inb_of Sa180 ⟨by decide, by decide⟩) (g := (mkF m 180 #[.val (.int p0)] [(.int (110 : Int32)), (.int (12 : Int32)), (.ref b107), (.ref b107)])) rfl rfl (hb hby d13_180)
    have V180 : Arv Z h180 b107 kc107 .char (17 : Int32) [(.int (99 : Int32)), (.int (108 : Int32)), (.int (105 : Int32)), (.int (101 : Int32)), (.int (110 : Int32)), (.int (116 : Int32)), (.int (95 : Int32)), (.int (99 : Int32)), (.int (114 : Int32)), (.int (101 : Int32)), (.int (100 : Int32)), (.int (101 : Int32)), (.int (110 : Int32)), (.int (0 : Int32)), (.int (0 : Int32)), (.int (0 : Int32)), (.int (0 : Int32))] (.int (0 : Int32)) := by
      have q := Arv.set Ar180 qa180 Sa180 Na180 Ha180 Ga180 (fits_nar_char _) W180 12 rfl (Nat.le_of_ble_eq_true rfl)
      exact q
    have K180 : Keep h0 h180 [] := K174.wr W180 (Or.inr sz_b107)
    have Z180 : n0 ≤ h180.size := Nat.le_trans Z174 (Keep.of_wr W180).1
    have N180 := Fr.snoc X180 N174 g_b107
    refine own_by st180 ?_
    have sg186 : ∀ t, own_S p e below T180 (mkF m 186 #[.val (.int p0)] [(.int (116 : Int32)), (.int (13 : Int32)), (.ref b107), (.ref b107)]) t → own_S p e below T180 (mkF m 181 #[.val (.int p0)] [(.ref b107)]) t := by
      intro t k
      show own_S p e below T180 (mkF m 181 #[.val (.int p0)] [(.ref b107)]) _
      refine XS.dup X180.here hx rfl (hb hby d13_181) rfl rfl ?_
      show own_S p e below T180 (mkF m 182 #[.val (.int p0)] [(.ref b107), (.ref b107)]) _
      refine XS.bipush X180.here hx rfl (hb hby d13_182) ?_
      show own_S p e below T180 (mkF m 184 #[.val (.int p0)] [(.int (13 : Int32)), (.ref b107), (.ref b107)]) _
      refine XS.bipush X180.here hx rfl (hb hby d13_184) ?_
      exact k
    refine own_by sg186 ?_
    obtain ⟨cl186, Ar186, qa186, Sa186, Na186, Ha186, Ga186⟩ := id V180
    obtain ⟨T186, h186, X186, e186, W186, st186⟩ := stC X180 hx hZ e180 Ar186 (j := (13 : Int32)) (inb_of Sa186 ⟨by decide, by decide⟩) (g := (mkF m 186 #[.val (.int p0)] [(.int (116 : Int32)), (.int (13 : Int32)), (.ref b107), (.ref b107)])) rfl rfl (hb hby d13_186)
    have V186 : Arv Z h186 b107 kc107 .char (17 : Int32) [(.int (99 : Int32)), (.int (108 : Int32)), (.int (105 : Int32)), (.int (101 : Int32)), (.int (110 : Int32)), (.int (116 : Int32)), (.int (95 : Int32)), (.int (99 : Int32)), (.int (114 : Int32)), (.int (101 : Int32)), (.int (100 : Int32)), (.int (101 : Int32)), (.int (110 : Int32)), (.int (116 : Int32)), (.int (0 : Int32)), (.int (0 : Int32)), (.int (0 : Int32))] (.int (0 : Int32)) := by
      have q := Arv.set Ar186 qa186 Sa186 Na186 Ha186 Ga186 (fits_nar_char _) W186 13 rfl (Nat.le_of_ble_eq_true rfl)
      exact q
    have K186 : Keep h0 h186 [] := K180.wr W186 (Or.inr sz_b107)
    have Z186 : n0 ≤ h186.size := Nat.le_trans Z180 (Keep.of_wr W186).1
    have N186 := Fr.snoc X186 N180 g_b107
    refine own_by st186 ?_
    have sg192 : ∀ t, own_S p e below T186 (mkF m 192 #[.val (.int p0)] [(.int (105 : Int32)), (.int (14 : Int32)), (.ref b107), (.ref b107)]) t → own_S p e below T186 (mkF m 187 #[.val (.int p0)] [(.ref b107)]) t := by
      intro t k
      show own_S p e below T186 (mkF m 187 #[.val (.int p0)] [(.ref b107)]) _
      refine XS.dup X186.here hx rfl (hb hby d13_187) rfl rfl ?_
      show own_S p e below T186 (mkF m 188 #[.val (.int p0)] [(.ref b107), (.ref b107)]) _
      refine XS.bipush X186.here hx rfl (hb hby d13_188) ?_
      show own_S p e below T186 (mkF m 190 #[.val (.int p0)] [(.int (14 : Int32)), (.ref b107), (.ref b107)]) _
      refine XS.bipush X186.here hx rfl (hb hby d13_190) ?_
      exact k
    refine own_by sg192 ?_
    obtain ⟨cl192, Ar192, qa192, Sa192, Na192, Ha192, Ga192⟩ := id V186
    obtain ⟨T192, h192, X192, e192, W192, st192⟩ := stC X186 hx hZ e186 Ar192 (j := (14 : Int32)) (inb_of Sa192 ⟨by decide, by decide⟩) (g := (mkF m 192 #[.val (.int p0)] [(.int (105 : Int32)), (.int (14 : Int32)), (.ref b107), (.ref b107)])) rfl rfl (hb hby d13_192)
    have V192 : Arv Z h192 b107 kc107 .char (17 : Int32) [(.int (99 : Int32)), (.int (108 : Int32)), (.int (105 : Int32)), (.int (101 : Int32)), (.int (110 : Int32)), (.int (116 : Int32)), (.int (95 : Int32)), (.int (99 : Int32)), (.int (114 : Int32)), (.int (101 : Int32)), (.int (100 : Int32)), (.int (101 : Int32)), (.int (110 : Int32)), (.int (116 : Int32)), (.int (105 : Int32)), (.int (0 : Int32)), (.int (0 : Int32))] (.int (0 : Int32)) := by
      have q := Arv.set Ar192 qa192 Sa192 Na192 Ha192 Ga192 (fits_nar_char _) W192 14 rfl (Nat.le_of_ble_eq_true rfl)
      exact q
    have K192 : Keep h0 h192 [] := K186.wr W192 (Or.inr sz_b107)
    have Z192 : n0 ≤ h192.size := Nat.le_trans Z186 (Keep.of_wr W192).1
    have N192 := Fr.snoc X192 N186 g_b107
    refine own_by st192 ?_
    have sg198 : ∀ t, own_S p e below T192 (mkF m 198 #[.val (.int p0)] [(.int (97 : Int32)), (.int (15 : Int32)), (.ref b107), (.ref b107)]) t → own_S p e below T192 (mkF m 193 #[.val (.int p0)] [(.ref b107)]) t := by
      intro t k
      show own_S p e below T192 (mkF m 193 #[.val (.int p0)] [(.ref b107)]) _
      refine XS.dup X192.here hx rfl (hb hby d13_193) rfl rfl ?_
      show own_S p e below T192 (mkF m 194 #[.val (.int p0)] [(.ref b107), (.ref b107)]) _
      refine XS.bipush X192.here hx rfl (hb hby d13_194) ?_
      show own_S p e below T192 (mkF m 196 #[.val (.int p0)] [(.int (15 : Int32)), (.ref b107), (.ref b107)]) _
      refine XS.bipush X192.here hx rfl (hb hby d13_196) ?_
      exact k
    refine own_by sg198 ?_
    obtain ⟨cl198, Ar198, qa198, Sa198, Na198, Ha198, Ga198⟩ := id V192
    obtain ⟨T198, h198, X198, e198, W198, st198⟩ := stC X192 hx hZ e192 Ar198 (j := (15 : Int32)) (inb_of Sa198 ⟨by decide, by decide⟩) (g := (mkF m 198 #[.val (.int p0)] [(.int (97 : Int32)), (.int (15 : Int32)), (.ref b107), (.ref b107)])) rfl rfl (hb hby d13_198)
    have V198 : Arv Z h198 b107 kc107 .char (17 : Int32) [(.int (99 : Int32)), (.int (108 : Int32)), (.int (105 : Int32)), (.int (101 : Int32)), (.int (110 : Int32)), (.int (116 : Int32)), (.int (95 : Int32)), (.int (99 : Int32)), (.int (114 : Int32)), (.int (101 : Int32)), (.int (100 : Int32)), (.int (101 : Int32)), (.int (110 : Int32)), (.int (116 : Int32)), (.int (105 : Int32)), (.int (97 : Int32)), (.int (0 : Int32))] (.int (0 : Int32)) := by
      have q := Arv.set Ar198 qa198 Sa198 Na198 Ha198 Ga198 (fits_nar_char _) W198 15 rfl (Nat.le_of_ble_eq_true rfl)
      exact q
    have K198 : Keep h0 h198 [] := K192.wr W198 (Or.inr sz_b107)
    have Z198 : n0 ≤ h198.size := Nat.le_trans Z192 (Keep.of_wr W198).1
    have N198 := Fr.snoc X198 N192 g_b107
    refine own_by st198 ?_
    have sg204 : ∀ t, own_S p e below T198 (mkF m 204 #[.val (.int p0)] [(.int (108 : Int32)), (.int (16 : Int32)), (.ref b107), (.ref b107)]) t → own_S p e below T198 (mkF m 199 #[.val (.int p0)] [(.ref b107)]) t := by
      intro t k
      show own_S p e below T198 (mkF m 199 #[.val (.int p0)] [(.ref b107)]) _
      refine XS.dup X198.here hx rfl (hb hby d13_199) rfl rfl ?_
      show own_S p e below T198 (mkF m 200 #[.val (.int p0)] [(.ref b107), (.ref b107)]) _
      refine XS.bipush X198.here hx rfl (hb hby d13_200) ?_
      show own_S p e below T198 (mkF m 202 #[.val (.int p0)] [(.int (16 : Int32)), (.ref b107), (.ref b107)]) _
      refine XS.bipush X198.here hx rfl (hb hby d13_202) ?_
      exact k
    refine own_by sg204 ?_
    obtain ⟨cl204, Ar204, qa204, Sa204, Na204, Ha204, Ga204⟩ := id V198
    obtain ⟨T204, h204, X204, e204, W204, st204⟩ := stC X198 hx hZ e198 Ar204 (j := (16 : Int32)) (inb_of Sa204 ⟨by decide, by decide⟩) (g := (mkF m 204 #[.val (.int p0)] [(.int (108 : Int32)), (.int (16 : Int32)), (.ref b107), (.ref b107)])) rfl rfl (hb hby d13_204)
    have V204 : Arv Z h204 b107 kc107 .char (17 : Int32) [(.int (99 : Int32)), (.int (108 : Int32)), (.int (105 : Int32)), (.int (101 : Int32)), (.int (110 : Int32)), (.int (116 : Int32)), (.int (95 : Int32)), (.int (99 : Int32)), (.int (114 : Int32)), (.int (101 : Int32)), (.int (100 : Int32)), (.int (101 : Int32)), (.int (110 : Int32)), (.int (116 : Int32)), (.int (105 : Int32)), (.int (97 : Int32)), (.int (108 : Int32))] (.int (0 : Int32)) := by
      have q := Arv.set Ar204 qa204 Sa204 Na204 Ha204 Ga204 (fits_nar_char _) W204 16 rfl (Nat.le_of_ble_eq_true rfl)
      exact q
    have K204 : Keep h0 h204 [] := K198.wr W204 (Or.inr sz_b107)
    have Z204 : n0 ≤ h204.size := Nat.le_trans Z198 (Keep.of_wr W204).1
    have N204 := Fr.snoc X204 N198 g_b107
    refine own_by st204 ?_
    obtain ⟨fs, hr, hrun, hended, hW, hsame⟩ := X204.leave (v := some (.ref b107)) (fun h => by rw [Bd.returns] at h; cases h)
    refine ⟨_, _, ?_, hrun, hended, _, _, rfl, ?_, ⟨_, rfl⟩, hW, hsame.mono (by decide) (by decide)⟩
    · show Steps p.tables e below (T204.setTop (mkF m 205 #[.val (.int p0)] [(.ref b107)])) _
      jvm_step X204.here [X204.here.top, hx, (hb hby d13_205), X204.method', Bd.returns, Value.isRef, FieldType.isReference]
      first | (intro acts; rw [hr _ acts rfl rfl rfl]) | rw [hr _ _ rfl rfl rfl]
      exact Steps.refl _
    · show Q13 Z p0 h0 n0 _ T204.heap _
      rw [e204]
      exact ⟨_, _, rfl, sz_b107, N204, K204, (by unfold own_n17; rw [if_neg hc1]; exact V204)⟩
theorem d12_0 : decode method_5_code 0 = .ok (.iload_n 0, 1) := by decide +kernel
theorem d12_1 : decode method_5_code 1 = .ok (.ifCond .ne 115, 3) := by decide +kernel
theorem d12_4 : decode method_5_code 4 = .ok (.bipush 19, 2) := by decide +kernel
theorem d12_6 : decode method_5_code 6 = .ok (.newarray .char, 2) := by decide +kernel
theorem d12_8 : decode method_5_code 8 = .ok (.dup, 1) := by decide +kernel
theorem d12_9 : decode method_5_code 9 = .ok (.iconst 0, 1) := by decide +kernel
theorem d12_10 : decode method_5_code 10 = .ok (.bipush 97, 2) := by decide +kernel
theorem d12_12 : decode method_5_code 12 = .ok (.castore, 1) := by decide +kernel
theorem d12_13 : decode method_5_code 13 = .ok (.dup, 1) := by decide +kernel
theorem d12_14 : decode method_5_code 14 = .ok (.iconst 1, 1) := by decide +kernel
theorem d12_15 : decode method_5_code 15 = .ok (.bipush 117, 2) := by decide +kernel
theorem d12_17 : decode method_5_code 17 = .ok (.castore, 1) := by decide +kernel
theorem d12_18 : decode method_5_code 18 = .ok (.dup, 1) := by decide +kernel
theorem d12_19 : decode method_5_code 19 = .ok (.iconst 2, 1) := by decide +kernel
theorem d12_20 : decode method_5_code 20 = .ok (.bipush 116, 2) := by decide +kernel
theorem d12_22 : decode method_5_code 22 = .ok (.castore, 1) := by decide +kernel
theorem d12_23 : decode method_5_code 23 = .ok (.dup, 1) := by decide +kernel
theorem d12_24 : decode method_5_code 24 = .ok (.iconst 3, 1) := by decide +kernel
theorem d12_25 : decode method_5_code 25 = .ok (.bipush 104, 2) := by decide +kernel
theorem d12_27 : decode method_5_code 27 = .ok (.castore, 1) := by decide +kernel
theorem d12_28 : decode method_5_code 28 = .ok (.dup, 1) := by decide +kernel
theorem d12_29 : decode method_5_code 29 = .ok (.iconst 4, 1) := by decide +kernel
theorem d12_30 : decode method_5_code 30 = .ok (.bipush 111, 2) := by decide +kernel
theorem d12_32 : decode method_5_code 32 = .ok (.castore, 1) := by decide +kernel
theorem d12_33 : decode method_5_code 33 = .ok (.dup, 1) := by decide +kernel
theorem d12_34 : decode method_5_code 34 = .ok (.iconst 5, 1) := by decide +kernel
theorem d12_35 : decode method_5_code 35 = .ok (.bipush 114, 2) := by decide +kernel
theorem d12_37 : decode method_5_code 37 = .ok (.castore, 1) := by decide +kernel
theorem d12_38 : decode method_5_code 38 = .ok (.dup, 1) := by decide +kernel
theorem d12_39 : decode method_5_code 39 = .ok (.bipush 6, 2) := by decide +kernel
theorem d12_41 : decode method_5_code 41 = .ok (.bipush 105, 2) := by decide +kernel
theorem d12_43 : decode method_5_code 43 = .ok (.castore, 1) := by decide +kernel
theorem d12_44 : decode method_5_code 44 = .ok (.dup, 1) := by decide +kernel
theorem d12_45 : decode method_5_code 45 = .ok (.bipush 7, 2) := by decide +kernel
theorem d12_47 : decode method_5_code 47 = .ok (.bipush 122, 2) := by decide +kernel
theorem d12_49 : decode method_5_code 49 = .ok (.castore, 1) := by decide +kernel
theorem d12_50 : decode method_5_code 50 = .ok (.dup, 1) := by decide +kernel
theorem d12_51 : decode method_5_code 51 = .ok (.bipush 8, 2) := by decide +kernel
theorem d12_53 : decode method_5_code 53 = .ok (.bipush 97, 2) := by decide +kernel
theorem d12_55 : decode method_5_code 55 = .ok (.castore, 1) := by decide +kernel
theorem d12_56 : decode method_5_code 56 = .ok (.dup, 1) := by decide +kernel
theorem d12_57 : decode method_5_code 57 = .ok (.bipush 9, 2) := by decide +kernel
theorem d12_59 : decode method_5_code 59 = .ok (.bipush 116, 2) := by decide +kernel
theorem d12_61 : decode method_5_code 61 = .ok (.castore, 1) := by decide +kernel
theorem d12_62 : decode method_5_code 62 = .ok (.dup, 1) := by decide +kernel
theorem d12_63 : decode method_5_code 63 = .ok (.bipush 10, 2) := by decide +kernel
theorem d12_65 : decode method_5_code 65 = .ok (.bipush 105, 2) := by decide +kernel
theorem d12_67 : decode method_5_code 67 = .ok (.castore, 1) := by decide +kernel
theorem d12_68 : decode method_5_code 68 = .ok (.dup, 1) := by decide +kernel
theorem d12_69 : decode method_5_code 69 = .ok (.bipush 11, 2) := by decide +kernel
theorem d12_71 : decode method_5_code 71 = .ok (.bipush 111, 2) := by decide +kernel
theorem d12_73 : decode method_5_code 73 = .ok (.castore, 1) := by decide +kernel
theorem d12_74 : decode method_5_code 74 = .ok (.dup, 1) := by decide +kernel
theorem d12_75 : decode method_5_code 75 = .ok (.bipush 12, 2) := by decide +kernel
theorem d12_77 : decode method_5_code 77 = .ok (.bipush 110, 2) := by decide +kernel
theorem d12_79 : decode method_5_code 79 = .ok (.castore, 1) := by decide +kernel
theorem d12_80 : decode method_5_code 80 = .ok (.dup, 1) := by decide +kernel
theorem d12_81 : decode method_5_code 81 = .ok (.bipush 13, 2) := by decide +kernel
theorem d12_83 : decode method_5_code 83 = .ok (.bipush 95, 2) := by decide +kernel
theorem d12_85 : decode method_5_code 85 = .ok (.castore, 1) := by decide +kernel
theorem d12_86 : decode method_5_code 86 = .ok (.dup, 1) := by decide +kernel
theorem d12_87 : decode method_5_code 87 = .ok (.bipush 14, 2) := by decide +kernel
theorem d12_89 : decode method_5_code 89 = .ok (.bipush 99, 2) := by decide +kernel
theorem d12_91 : decode method_5_code 91 = .ok (.castore, 1) := by decide +kernel
theorem d12_92 : decode method_5_code 92 = .ok (.dup, 1) := by decide +kernel
theorem d12_93 : decode method_5_code 93 = .ok (.bipush 15, 2) := by decide +kernel
theorem d12_95 : decode method_5_code 95 = .ok (.bipush 111, 2) := by decide +kernel
theorem d12_97 : decode method_5_code 97 = .ok (.castore, 1) := by decide +kernel
theorem d12_98 : decode method_5_code 98 = .ok (.dup, 1) := by decide +kernel
theorem d12_99 : decode method_5_code 99 = .ok (.bipush 16, 2) := by decide +kernel
theorem d12_101 : decode method_5_code 101 = .ok (.bipush 100, 2) := by decide +kernel
theorem d12_103 : decode method_5_code 103 = .ok (.castore, 1) := by decide +kernel
theorem d12_104 : decode method_5_code 104 = .ok (.dup, 1) := by decide +kernel
theorem d12_105 : decode method_5_code 105 = .ok (.bipush 17, 2) := by decide +kernel
theorem d12_107 : decode method_5_code 107 = .ok (.bipush 101, 2) := by decide +kernel
theorem d12_109 : decode method_5_code 109 = .ok (.castore, 1) := by decide +kernel
theorem d12_110 : decode method_5_code 110 = .ok (.dup, 1) := by decide +kernel
theorem d12_111 : decode method_5_code 111 = .ok (.bipush 18, 2) := by decide +kernel
theorem d12_113 : decode method_5_code 113 = .ok (.iload_n 1, 1) := by decide +kernel
theorem d12_114 : decode method_5_code 114 = .ok (.castore, 1) := by decide +kernel
theorem d12_115 : decode method_5_code 115 = .ok (.areturn, 1) := by decide +kernel
theorem d12_116 : decode method_5_code 116 = .ok (.bipush 19, 2) := by decide +kernel
theorem d12_118 : decode method_5_code 118 = .ok (.newarray .char, 2) := by decide +kernel
theorem d12_120 : decode method_5_code 120 = .ok (.dup, 1) := by decide +kernel
theorem d12_121 : decode method_5_code 121 = .ok (.iconst 0, 1) := by decide +kernel
theorem d12_122 : decode method_5_code 122 = .ok (.bipush 99, 2) := by decide +kernel
theorem d12_124 : decode method_5_code 124 = .ok (.castore, 1) := by decide +kernel
theorem d12_125 : decode method_5_code 125 = .ok (.dup, 1) := by decide +kernel
theorem d12_126 : decode method_5_code 126 = .ok (.iconst 1, 1) := by decide +kernel
theorem d12_127 : decode method_5_code 127 = .ok (.bipush 108, 2) := by decide +kernel
theorem d12_129 : decode method_5_code 129 = .ok (.castore, 1) := by decide +kernel
theorem d12_130 : decode method_5_code 130 = .ok (.dup, 1) := by decide +kernel
theorem d12_131 : decode method_5_code 131 = .ok (.iconst 2, 1) := by decide +kernel
theorem d12_132 : decode method_5_code 132 = .ok (.bipush 105, 2) := by decide +kernel
theorem d12_134 : decode method_5_code 134 = .ok (.castore, 1) := by decide +kernel
theorem d12_135 : decode method_5_code 135 = .ok (.dup, 1) := by decide +kernel
theorem d12_136 : decode method_5_code 136 = .ok (.iconst 3, 1) := by decide +kernel
theorem d12_137 : decode method_5_code 137 = .ok (.bipush 101, 2) := by decide +kernel
theorem d12_139 : decode method_5_code 139 = .ok (.castore, 1) := by decide +kernel
theorem d12_140 : decode method_5_code 140 = .ok (.dup, 1) := by decide +kernel
theorem d12_141 : decode method_5_code 141 = .ok (.iconst 4, 1) := by decide +kernel
theorem d12_142 : decode method_5_code 142 = .ok (.bipush 110, 2) := by decide +kernel
theorem d12_144 : decode method_5_code 144 = .ok (.castore, 1) := by decide +kernel
theorem d12_145 : decode method_5_code 145 = .ok (.dup, 1) := by decide +kernel
theorem d12_146 : decode method_5_code 146 = .ok (.iconst 5, 1) := by decide +kernel
theorem d12_147 : decode method_5_code 147 = .ok (.bipush 116, 2) := by decide +kernel
theorem d12_149 : decode method_5_code 149 = .ok (.castore, 1) := by decide +kernel
theorem d12_150 : decode method_5_code 150 = .ok (.dup, 1) := by decide +kernel
theorem d12_151 : decode method_5_code 151 = .ok (.bipush 6, 2) := by decide +kernel
theorem d12_153 : decode method_5_code 153 = .ok (.bipush 95, 2) := by decide +kernel
theorem d12_155 : decode method_5_code 155 = .ok (.castore, 1) := by decide +kernel
theorem d12_156 : decode method_5_code 156 = .ok (.dup, 1) := by decide +kernel
theorem d12_157 : decode method_5_code 157 = .ok (.bipush 7, 2) := by decide +kernel
theorem d12_159 : decode method_5_code 159 = .ok (.bipush 99, 2) := by decide +kernel
theorem d12_161 : decode method_5_code 161 = .ok (.castore, 1) := by decide +kernel
theorem d12_162 : decode method_5_code 162 = .ok (.dup, 1) := by decide +kernel
theorem d12_163 : decode method_5_code 163 = .ok (.bipush 8, 2) := by decide +kernel
theorem d12_165 : decode method_5_code 165 = .ok (.bipush 114, 2) := by decide +kernel
theorem d12_167 : decode method_5_code 167 = .ok (.castore, 1) := by decide +kernel
theorem d12_168 : decode method_5_code 168 = .ok (.dup, 1) := by decide +kernel
theorem d12_169 : decode method_5_code 169 = .ok (.bipush 9, 2) := by decide +kernel
theorem d12_171 : decode method_5_code 171 = .ok (.bipush 101, 2) := by decide +kernel
theorem d12_173 : decode method_5_code 173 = .ok (.castore, 1) := by decide +kernel
theorem d12_174 : decode method_5_code 174 = .ok (.dup, 1) := by decide +kernel
theorem d12_175 : decode method_5_code 175 = .ok (.bipush 10, 2) := by decide +kernel
theorem d12_177 : decode method_5_code 177 = .ok (.bipush 100, 2) := by decide +kernel
theorem d12_179 : decode method_5_code 179 = .ok (.castore, 1) := by decide +kernel
theorem d12_180 : decode method_5_code 180 = .ok (.dup, 1) := by decide +kernel
theorem d12_181 : decode method_5_code 181 = .ok (.bipush 11, 2) := by decide +kernel
theorem d12_183 : decode method_5_code 183 = .ok (.bipush 101, 2) := by decide +kernel
theorem d12_185 : decode method_5_code 185 = .ok (.castore, 1) := by decide +kernel
theorem d12_186 : decode method_5_code 186 = .ok (.dup, 1) := by decide +kernel
theorem d12_187 : decode method_5_code 187 = .ok (.bipush 12, 2) := by decide +kernel
theorem d12_189 : decode method_5_code 189 = .ok (.bipush 110, 2) := by decide +kernel
theorem d12_191 : decode method_5_code 191 = .ok (.castore, 1) := by decide +kernel
theorem d12_192 : decode method_5_code 192 = .ok (.dup, 1) := by decide +kernel
theorem d12_193 : decode method_5_code 193 = .ok (.bipush 13, 2) := by decide +kernel
theorem d12_195 : decode method_5_code 195 = .ok (.bipush 116, 2) := by decide +kernel
theorem d12_197 : decode method_5_code 197 = .ok (.castore, 1) := by decide +kernel
theorem d12_198 : decode method_5_code 198 = .ok (.dup, 1) := by decide +kernel
theorem d12_199 : decode method_5_code 199 = .ok (.bipush 14, 2) := by decide +kernel
theorem d12_201 : decode method_5_code 201 = .ok (.bipush 105, 2) := by decide +kernel
theorem d12_203 : decode method_5_code 203 = .ok (.castore, 1) := by decide +kernel
theorem d12_204 : decode method_5_code 204 = .ok (.dup, 1) := by decide +kernel
theorem d12_205 : decode method_5_code 205 = .ok (.bipush 15, 2) := by decide +kernel
theorem d12_207 : decode method_5_code 207 = .ok (.bipush 97, 2) := by decide +kernel
theorem d12_209 : decode method_5_code 209 = .ok (.castore, 1) := by decide +kernel
theorem d12_210 : decode method_5_code 210 = .ok (.dup, 1) := by decide +kernel
theorem d12_211 : decode method_5_code 211 = .ok (.bipush 16, 2) := by decide +kernel
theorem d12_213 : decode method_5_code 213 = .ok (.bipush 108, 2) := by decide +kernel
theorem d12_215 : decode method_5_code 215 = .ok (.castore, 1) := by decide +kernel
theorem d12_216 : decode method_5_code 216 = .ok (.dup, 1) := by decide +kernel
theorem d12_217 : decode method_5_code 217 = .ok (.bipush 17, 2) := by decide +kernel
theorem d12_219 : decode method_5_code 219 = .ok (.bipush 115, 2) := by decide +kernel
theorem d12_221 : decode method_5_code 221 = .ok (.castore, 1) := by decide +kernel
theorem d12_222 : decode method_5_code 222 = .ok (.dup, 1) := by decide +kernel
theorem d12_223 : decode method_5_code 223 = .ok (.bipush 18, 2) := by decide +kernel
theorem d12_225 : decode method_5_code 225 = .ok (.iload_n 1, 1) := by decide +kernel
theorem d12_226 : decode method_5_code 226 = .ok (.castore, 1) := by decide +kernel
theorem d12_227 : decode method_5_code 227 = .ok (.areturn, 1) := by decide +kernel
theorem pn_12 : plainFor (⟨"com/example/writd/writd/model/GrantTypeFromValuePinLaw", "name19", "(IC)[C"⟩ : MethodName) = true := by first | exact plainFor_of_name (by first | (simp [plainName, overriddenIn]; done) | decide +kernel) | decide +kernel | exact Jvm.Free.JP.mathPlain rfl (by decide +kernel)
theorem ef_12 (m : MethodId) (p0 : Int32) (p1 : Int32) : entryFrame m #[(.int p0), (.int p1)] 2 = mkF m 0 #[.val (.int p0), .val (.int p1)] [] := by first | (simp [entryFrame, mkF, argsToLocals, Value.category]; done) | rfl
def Q12 (Z : State) (p0 : Int32) (p1 : Int32) (h0 : Heap) (n0 : Nat) (v : Option Value) (h : Heap) (L : List Loc) : Prop := ∃ r kc, v = some (.ref r) ∧ h0.size ≤ r ∧ Fr n0 L ∧ Keep h0 h [] ∧ Arv Z h r kc .char (Int32.ofNat (own_n19 p0 p1).length) ((own_n19 p0 p1).map Value.int) (.int 0)
set_option maxRecDepth 65536 in
set_option maxHeartbeats 40000000 in
theorem rm12 (l : Launch) (Z : State) (a0 : Array Value) (hw : ∀ d ∈ tables_1, d.before a0 Z = true) (ws : List Jvm.Cond) (p0 : Int32) (p1 : Int32) (h0 : Heap) (n0 : Nat) (Z0 : n0 ≤ h0.size) (hk : ¬ p1 < 0 ∧ ¬ (255 : Int32) < p1) :
    MetFree l (⟨"com/example/writd/writd/model/GrantTypeFromValuePinLaw", "name19", "(IC)[C"⟩ : MethodName) (head1 (Jvm.Cond.code (⟨"com/example/writd/writd/model/GrantTypeFromValuePinLaw", "name19", "(IC)[C"⟩ : MethodName) method_5_code 2 (some (.array .char)) :: ws) ({ frames := 0, cells := 1, slots := 19, locals := 0 } : Room)) (fun a U => a = #[(.int p0), (.int p1)] ∧ Z.Warmed39 U.vm ∧ U.heap = h0) (fun _ _ _ _ _ => True) (fun _ U o U' => ∃ v L, o = .returned v ∧ Q12 Z p0 p1 h0 n0 v U'.heap L ∧ FrameEnd U o U' L ({ frames := 0, cells := 1, slots := 19, locals := 0 } : Room).cells ({ frames := 0, cells := 1, slots := 19, locals := 0 } : Room).slots) := by
  refine MetFree.of_bodySF pn_12 hisR ?_
  intro p e s m args below meth c s₁ Bd hml0 hP hK
  obtain ⟨rfl, hZ, hh⟩ := hP
  have hx := Bd.exec
  have hby := Bd.bytes
  have hml : c.maxLocals = 2 := hml0
  have hown : s.vm.findClass "com/example/writd/writd/model/GrantTypeFromValuePinLaw" = some m.cls := findClass_of_methodNamed Bd.named
  have hnm := (name_of_methodNamed Bd.named Bd.method).1
  have X0 : Stand p l e ({ frames := 0, cells := 1, slots := 19, locals := 0 } : Room) s m #[(.int p0), (.int p1)] below meth c s₁ [] 0 0 := Stand.of_body Bd
  have e0 : s₁.heap = h0 := by rw [← hh, Bd.state]; rfl
  have N0 := Fr.nil n0
  refine own_at (castTop (ef_12 m p0 p1)) ?_
  have K0 := Keep.refl h0 []
  have sg1 : ∀ t, own_S p e below s₁ (mkF m 1 #[.val (.int p0), .val (.int p1)] [(.int p0)]) t → own_S p e below s₁ (mkF m 0 #[.val (.int p0), .val (.int p1)] []) t := by
    intro t k
    show own_S p e below s₁ (mkF m 0 #[.val (.int p0), .val (.int p1)] []) _
    refine XS.iloadN X0.here hx rfl (hb hby d12_0) rfl ?_
    exact k
  refine own_by sg1 ?_
  by_cases hc1 : p0 = (0 : Int32)
  · have sg6 : ∀ t, own_S p e below s₁ (mkF m 6 #[.val (.int p0), .val (.int p1)] [(.int (19 : Int32))]) t → own_S p e below s₁ (mkF m 1 #[.val (.int p0), .val (.int p1)] [(.int p0)]) t := by
      intro t k
      show own_S p e below s₁ (mkF m 1 #[.val (.int p0), .val (.int p1)] [(.int p0)]) _
      refine XS.ifNo X0.here hx rfl (hb hby d12_1) rfl ((if0 _ _).trans (teq hc1).2) ?_
      show own_S p e below s₁ (mkF m 4 #[.val (.int p0), .val (.int p1)] []) _
      refine XS.bipush X0.here hx rfl (hb hby d12_4) ?_
      exact k
    refine own_by sg6 ?_
    obtain ⟨T6, h6, kc6, X6, e6, E6, A6, st6⟩ := newP X0 hx hZ (hw _ (List.mem_of_getElem? (i := 8) rfl)) e0 (g := (mkF m 6 #[.val (.int p0), .val (.int p1)] [(.int (19 : Int32))])) rfl (hb hby d12_6) rfl (by decide) (cap := 19) (by decide) (by decide) (by decide) (by decide)
    obtain ⟨b6, g6⟩ : ∃ z, z = h0.size := ⟨_, rfl⟩
    rw [← g6] at A6 st6
    have g_b6 : n0 ≤ b6 := Nat.le_trans Z0 (Nat.le_of_eq g6.symm)
    have sz_b6 : h0.size ≤ b6 := Nat.le_trans K0.1 (Nat.le_of_eq g6.symm)
    have K6 := K0.ext E6
    have Z6 : n0 ≤ h6.size := Nat.le_trans Z0 E6.1
    have V6 : Arv Z h6 b6 kc6 .char (19 : Int32) [(.int (0 : Int32)), (.int (0 : Int32)), (.int (0 : Int32)), (.int (0 : Int32)), (.int (0 : Int32)), (.int (0 : Int32)), (.int (0 : Int32)), (.int (0 : Int32)), (.int (0 : Int32)), (.int (0 : Int32)), (.int (0 : Int32)), (.int (0 : Int32)), (.int (0 : Int32)), (.int (0 : Int32)), (.int (0 : Int32)), (.int (0 : Int32)), (.int (0 : Int32)), (.int (0 : Int32)), (.int (0 : Int32))] (.int (0 : Int32)) := (Arv.new A6 (by decide)).pad (pad_rep [] (.int (0 : Int32)) 19)
    refine own_by st6 ?_
    have sg12 : ∀ t, own_S p e below T6 (mkF m 12 #[.val (.int p0), .val (.int p1)] [(.int (97 : Int32)), (.int (0 : Int32)), (.ref b6), (.ref b6)]) t → own_S p e below T6 (mkF m 8 #[.val (.int p0), .val (.int p1)] [(.ref b6)]) t := by
      intro t k
      show own_S p e below T6 (mkF m 8 #[.val (.int p0), .val (.int p1)] [(.ref b6)]) _
      refine XS.dup X6.here hx rfl (hb hby d12_8) rfl rfl ?_
      show own_S p e below T6 (mkF m 9 #[.val (.int p0), .val (.int p1)] [(.ref b6), (.ref b6)]) _
      refine XS.iconst X6.here hx rfl (hb hby d12_9) ?_
      show own_S p e below T6 (mkF m 10 #[.val (.int p0), .val (.int p1)] [(.int (0 : Int32)), (.ref b6), (.ref b6)]) _
      refine XS.bipush X6.here hx rfl (hb hby d12_10) ?_
      exact k
    refine own_by sg12 ?_
    obtain ⟨cl12, Ar12, qa12, Sa12, Na12, Ha12, Ga12⟩ := id V6
    obtain ⟨T12, h12, X12, e12, W12, st12⟩ := stC X6 hx hZ e6 Ar12 (j := (0 : Int32)) (inb_of Sa12 ⟨by decide, by decide⟩) (g := (mkF m 12 #[.val (.int p0), .val (.int p1)] [(.int (97 : Int32)), (.int (0 : Int32)), (.ref b6), (.ref b6)])) rfl rfl (hb hby d12_12)
    have V12 : Arv Z h12 b6 kc6 .char (19 : Int32) [(.int (97 : Int32)), (.int (0 : Int32)), (.int (0 : Int32)), (.int (0 : Int32)), (.int (0 : Int32)), (.int (0 : Int32)), (.int (0 : Int32)), (.int (0 : Int32)), (.int (0 : Int32)), (.int (0 : Int32)), (.int (0 : Int32)), (.int (0 : Int32)), (.int (0 : Int32)), (.int (0 : Int32)), (.int (0 : Int32)), (.int (0 : Int32)), (.int (0 : Int32)), (.int (0 : Int32)), (.int (0 : Int32))] (.int (0 : Int32)) := by
      have q := Arv.set Ar12 qa12 Sa12 Na12 Ha12 Ga12 (fits_nar_char _) W12 0 rfl (Nat.le_of_ble_eq_true rfl)
      exact q
    have K12 : Keep h0 h12 [] := K6.wr W12 (Or.inr sz_b6)
    have Z12 : n0 ≤ h12.size := Nat.le_trans Z6 (Keep.of_wr W12).1
    have N12 := Fr.snoc X12 N0 g_b6
    refine own_by st12 ?_
    have sg17 : ∀ t, own_S p e below T12 (mkF m 17 #[.val (.int p0), .val (.int p1)] [(.int (117 : Int32)), (.int (1 : Int32)), (.ref b6), (.ref b6)]) t → own_S p e below T12 (mkF m 13 #[.val (.int p0), .val (.int p1)] [(.ref b6)]) t := by
      intro t k
      show own_S p e below T12 (mkF m 13 #[.val (.int p0), .val (.int p1)] [(.ref b6)]) _
      refine XS.dup X12.here hx rfl (hb hby d12_13) rfl rfl ?_
      show own_S p e below T12 (mkF m 14 #[.val (.int p0), .val (.int p1)] [(.ref b6), (.ref b6)]) _
      refine XS.iconst X12.here hx rfl (hb hby d12_14) ?_
      show own_S p e below T12 (mkF m 15 #[.val (.int p0), .val (.int p1)] [(.int (1 : Int32)), (.ref b6), (.ref b6)]) _
      refine XS.bipush X12.here hx rfl (hb hby d12_15) ?_
      exact k
    refine own_by sg17 ?_
    obtain ⟨cl17, Ar17, qa17, Sa17, Na17, Ha17, Ga17⟩ := id V12
    obtain ⟨T17, h17, X17, e17, W17, st17⟩ := stC X12 hx hZ e12 Ar17 (j := (1 : Int32)) (inb_of Sa17 ⟨by decide, by decide⟩) (g := (mkF m 17 #[.val (.int p0), .val (.int p1)] [(.int (117 : Int32)), (.int (1 : Int32)), (.ref b6), (.ref b6)])) rfl rfl (hb hby d12_17)
    have V17 : Arv Z h17 b6 kc6 .char (19 : Int32) [(.int (97 : Int32)), (.int (117 : Int32)), (.int (0 : Int32)), (.int (0 : Int32)), (.int (0 : Int32)), (.int (0 : Int32)), (.int (0 : Int32)), (.int (0 : Int32)), (.int (0 : Int32)), (.int (0 : Int32)), (.int (0 : Int32)), (.int (0 : Int32)), (.int (0 : Int32)), (.int (0 : Int32)), (.int (0 : Int32)), (.int (0 : Int32)), (.int (0 : Int32)), (.int (0 : Int32)), (.int (0 : Int32))] (.int (0 : Int32)) := by
      have q := Arv.set Ar17 qa17 Sa17 Na17 Ha17 Ga17 (fits_nar_char _) W17 1 rfl (Nat.le_of_ble_eq_true rfl)
      exact q
    have K17 : Keep h0 h17 [] := K12.wr W17 (Or.inr sz_b6)
    have Z17 : n0 ≤ h17.size := Nat.le_trans Z12 (Keep.of_wr W17).1
    have N17 := Fr.snoc X17 N12 g_b6
    refine own_by st17 ?_
    have sg22 : ∀ t, own_S p e below T17 (mkF m 22 #[.val (.int p0), .val (.int p1)] [(.int (116 : Int32)), (.int (2 : Int32)), (.ref b6), (.ref b6)]) t → own_S p e below T17 (mkF m 18 #[.val (.int p0), .val (.int p1)] [(.ref b6)]) t := by
      intro t k
      show own_S p e below T17 (mkF m 18 #[.val (.int p0), .val (.int p1)] [(.ref b6)]) _
      refine XS.dup X17.here hx rfl (hb hby d12_18) rfl rfl ?_
      show own_S p e below T17 (mkF m 19 #[.val (.int p0), .val (.int p1)] [(.ref b6), (.ref b6)]) _
      refine XS.iconst X17.here hx rfl (hb hby d12_19) ?_
      show own_S p e below T17 (mkF m 20 #[.val (.int p0), .val (.int p1)] [(.int (2 : Int32)), (.ref b6), (.ref b6)]) _
      refine XS.bipush X17.here hx rfl (hb hby d12_20) ?_
      exact k
    refine own_by sg22 ?_
    obtain ⟨cl22, Ar22, qa22, Sa22, Na22, Ha22, Ga22⟩ := id V17
    obtain ⟨T22, h22, X22, e22, W22, st22⟩ := stC X17 hx hZ e17 Ar22 (j := (2 : Int32)) (inb_of Sa22 ⟨by decide, by decide⟩) (g := (mkF m 22 #[.val (.int p0), .val (.int p1)] [(.int (116 : Int32)), (.int (2 : Int32)), (.ref b6), (.ref b6)])) rfl rfl (hb hby d12_22)
    have V22 : Arv Z h22 b6 kc6 .char (19 : Int32) [(.int (97 : Int32)), (.int (117 : Int32)), (.int (116 : Int32)), (.int (0 : Int32)), (.int (0 : Int32)), (.int (0 : Int32)), (.int (0 : Int32)), (.int (0 : Int32)), (.int (0 : Int32)), (.int (0 : Int32)), (.int (0 : Int32)), (.int (0 : Int32)), (.int (0 : Int32)), (.int (0 : Int32)), (.int (0 : Int32)), (.int (0 : Int32)), (.int (0 : Int32)), (.int (0 : Int32)), (.int (0 : Int32))] (.int (0 : Int32)) := by
      have q := Arv.set Ar22 qa22 Sa22 Na22 Ha22 Ga22 (fits_nar_char _) W22 2 rfl (Nat.le_of_ble_eq_true rfl)
      exact q
    have K22 : Keep h0 h22 [] := K17.wr W22 (Or.inr sz_b6)
    have Z22 : n0 ≤ h22.size := Nat.le_trans Z17 (Keep.of_wr W22).1
    have N22 := Fr.snoc X22 N17 g_b6
    refine own_by st22 ?_
    have sg27 : ∀ t, own_S p e below T22 (mkF m 27 #[.val (.int p0), .val (.int p1)] [(.int (104 : Int32)), (.int (3 : Int32)), (.ref b6), (.ref b6)]) t → own_S p e below T22 (mkF m 23 #[.val (.int p0), .val (.int p1)] [(.ref b6)]) t := by
      intro t k
      show own_S p e below T22 (mkF m 23 #[.val (.int p0), .val (.int p1)] [(.ref b6)]) _
      refine XS.dup X22.here hx rfl (hb hby d12_23) rfl rfl ?_
      show own_S p e below T22 (mkF m 24 #[.val (.int p0), .val (.int p1)] [(.ref b6), (.ref b6)]) _
      refine XS.iconst X22.here hx rfl (hb hby d12_24) ?_
      show own_S p e below T22 (mkF m 25 #[.val (.int p0), .val (.int p1)] [(.int (3 : Int32)), (.ref b6), (.ref b6)]) _
      refine XS.bipush X22.here hx rfl (hb hby d12_25) ?_
      exact k
    refine own_by sg27 ?_
    obtain ⟨cl27, Ar27, qa27, Sa27, Na27, Ha27, Ga27⟩ := id V22
    obtain ⟨T27, h27, X27, e27, W27, st27⟩ := stC X22 hx hZ e22 Ar27 (j := (3 : Int32)) (inb_of Sa27 ⟨by decide, by decide⟩) (g := (mkF m 27 #[.val (.int p0), .val (.int p1)] [(.int (104 : Int32)), (.int (3 : Int32)), (.ref b6), (.ref b6)])) rfl rfl (hb hby d12_27)
    have V27 : Arv Z h27 b6 kc6 .char (19 : Int32) [(.int (97 : Int32)), (.int (117 : Int32)), (.int (116 : Int32)), (.int (104 : Int32)), (.int (0 : Int32)), (.int (0 : Int32)), (.int (0 : Int32)), (.int (0 : Int32)), (.int (0 : Int32)), (.int (0 : Int32)), (.int (0 : Int32)), (.int (0 : Int32)), (.int (0 : Int32)), (.int (0 : Int32)), (.int (0 : Int32)), (.int (0 : Int32)), (.int (0 : Int32)), (.int (0 : Int32)), (.int (0 : Int32))] (.int (0 : Int32)) := by
      have q := Arv.set Ar27 qa27 Sa27 Na27 Ha27 Ga27 (fits_nar_char _) W27 3 rfl (Nat.le_of_ble_eq_true rfl)
      exact q
    have K27 : Keep h0 h27 [] := K22.wr W27 (Or.inr sz_b6)
    have Z27 : n0 ≤ h27.size := Nat.le_trans Z22 (Keep.of_wr W27).1
    have N27 := Fr.snoc X27 N22 g_b6
    refine own_by st27 ?_
    have sg32 : ∀ t, own_S p e below T27 (mkF m 32 #[.val (.int p0), .val (.int p1)] [(.int (111 : Int32)), (.int (4 : Int32)), (.ref b6), (.ref b6)]) t → own_S p e below T27 (mkF m 28 #[.val (.int p0), .val (.int p1)] [(.ref b6)]) t := by
      intro t k
      show own_S p e below T27 (mkF m 28 #[.val (.int p0), .val (.int p1)] [(.ref b6)]) _
      refine XS.dup X27.here hx rfl (hb hby d12_28) rfl rfl ?_
      show own_S p e below T27 (mkF m 29 #[.val (.int p0), .val (.int p1)] [(.ref b6), (.ref b6)]) _
      refine XS.iconst X27.here hx rfl (hb hby d12_29) ?_
      show own_S p e below T27 (mkF m 30 #[.val (.int p0), .val (.int p1)] [(.int (4 : Int32)), (.ref b6), (.ref b6)]) _
      refine XS.bipush X27.here hx rfl (hb hby d12_30) ?_
      exact k
    refine own_by sg32 ?_
    obtain ⟨cl32, Ar32, qa32, Sa32, Na32, Ha32, Ga32⟩ := id V27
    obtain ⟨T32, h32, X32, e32, W32, st32⟩ := stC X27 hx hZ e27 Ar32 (j := (4 : Int32)) (inb_of Sa32 ⟨by decide, by decide⟩) (g := (mkF m 32 #[.val (.int p0), .val (.int p1)] [(.int (111 : Int32)), (.int (4 : Int32)), (.ref b6), (.ref b6)])) rfl rfl (hb hby d12_32)
    have V32 : Arv Z h32 b6 kc6 .char (19 : Int32) [(.int (97 : Int32)), (.int (117 : Int32)), (.int (116 : Int32)), (.int (104 : Int32)), (.int (111 : Int32)), (.int (0 : Int32)), (.int (0 : Int32)), (.int (0 : Int32)), (.int (0 : Int32)), (.int (0 : Int32)), (.int (0 : Int32)), (.int (0 : Int32)), (.int (0 : Int32)), (.int (0 : Int32)), (.int (0 : Int32)), (.int (0 : Int32)), (.int (0 : Int32)), (.int (0 : Int32)), (.int (0 : Int32))] (.int (0 : Int32)) := by
      have q := Arv.set Ar32 qa32 Sa32 Na32 Ha32 Ga32 (fits_nar_char _) W32 4 rfl (Nat.le_of_ble_eq_true rfl)
      exact q
    have K32 : Keep h0 h32 [] := K27.wr W32 (Or.inr sz_b6)
    have Z32 : n0 ≤ h32.size := Nat.le_trans Z27 (Keep.of_wr W32).1
    have N32 := Fr.snoc X32 N27 g_b6
    refine own_by st32 ?_
    have sg37 : ∀ t, own_S p e below T32 (mkF m 37 #[.val (.int p0), .val (.int p1)] [(.int (114 : Int32)), (.int (5 : Int32)), (.ref b6), (.ref b6)]) t → own_S p e below T32 (mkF m 33 #[.val (.int p0), .val (.int p1)] [(.ref b6)]) t := by
      intro t k
      show own_S p e below T32 (mkF m 33 #[.val (.int p0), .val (.int p1)] [(.ref b6)]) _
      refine XS.dup X32.here hx rfl (hb hby d12_33) rfl rfl ?_
      show own_S p e below T32 (mkF m 34 #[.val (.int p0), .val (.int p1)] [(.ref b6), (.ref b6)]) _
      refine XS.iconst X32.here hx rfl (hb hby d12_34) ?_
      show own_S p e below T32 (mkF m 35 #[.val (.int p0), .val (.int p1)] [(.int (5 : Int32)), (.ref b6), (.ref b6)]) _
      refine XS.bipush X32.here hx rfl (hb hby d12_35) ?_
      exact k
    refine own_by sg37 ?_
    obtain ⟨cl37, Ar37, qa37, Sa37, Na37, Ha37, Ga37⟩ := id V32
    obtain ⟨T37, h37, X37, e37, W37, st37⟩ := stC X32 hx hZ e32 Ar37 (j := (5 : Int32)) (inb_of Sa37 ⟨by decide, by decide⟩) (g := (mkF m 37 #[.val (.int p0), .val (.int p1)] [(.int (114 : Int32)), (.int (5 : Int32)), (.ref b6), (.ref b6)])) rfl rfl (hb hby d12_37)
    have V37 : Arv Z h37 b6 kc6 .char (19 : Int32) [(.int (97 : Int32)), (.int (117 : Int32)), (.int (116 : Int32)), (.int (104 : Int32)), (.int (111 : Int32)), (.int (114 : Int32)), (.int (0 : Int32)), (.int (0 : Int32)), (.int (0 : Int32)), (.int (0 : Int32)), (.int (0 : Int32)), (.int (0 : Int32)), (.int (0 : Int32)), (.int (0 : Int32)), (.int (0 : Int32)), (.int (0 : Int32)), (.int (0 : Int32)), (.int (0 : Int32)), (.int (0 : Int32))] (.int (0 : Int32)) := by
      have q := Arv.set Ar37 qa37 Sa37 Na37 Ha37 Ga37 (fits_nar_char _) W37 5 rfl (Nat.le_of_ble_eq_true rfl)
      exact q
    have K37 : Keep h0 h37 [] := K32.wr W37 (Or.inr sz_b6)
    have Z37 : n0 ≤ h37.size := Nat.le_trans Z32 (Keep.of_wr W37).1
    have N37 := Fr.snoc X37 N32 g_b6
    refine own_by st37 ?_
    have sg43 : ∀ t, own_S p e below T37 (mkF m 43 #[.val (.int p0), .val (.int p1)] [(.int (105 : Int32)), (.int (6 : Int32)), (.ref b6), (.ref b6)]) t → own_S p e below T37 (mkF m 38 #[.val (.int p0), .val (.int p1)] [(.ref b6)]) t := by
      intro t k
      show own_S p e below T37 (mkF m 38 #[.val (.int p0), .val (.int p1)] [(.ref b6)]) _
      refine XS.dup X37.here hx rfl (hb hby d12_38) rfl rfl ?_
      show own_S p e below T37 (mkF m 39 #[.val (.int p0), .val (.int p1)] [(.ref b6), (.ref b6)]) _
      refine XS.bipush X37.here hx rfl (hb hby d12_39) ?_
      show own_S p e below T37 (mkF m 41 #[.val (.int p0), .val (.int p1)] [(.int (6 : Int32)), (.ref b6), (.ref b6)]) _
      refine XS.bipush X37.here hx rfl (hb hby d12_41) ?_
      exact k
    refine own_by sg43 ?_
    obtain ⟨cl43, Ar43, qa43, Sa43, Na43, Ha43, Ga43⟩ := id V37
    obtain ⟨T43, h43, X43, e43, W43, st43⟩ := stC X37 hx hZ e37 Ar43 (j := (6 : Int32)) (inb_of Sa43 ⟨by decide, by decide⟩) (g := (mkF m 43 #[.val (.int p0), .val (.int p1)] [(.int (105 : Int32)), (.int (6 : Int32)), (.ref b6), (.ref b6)])) rfl rfl (hb hby d12_43)
    have V43 : Arv Z h43 b6 kc6 .char (19 : Int32) [(.int (97 : Int32)), (.int (117 : Int32)), (.int (116 : Int32)), (.int (104 : Int32)), (.int (111 : Int32)), (.int (114 : Int32)), (.int (105 : Int32)), (.int (0 : Int32)), (.int (0 : Int32)), (.int (0 : Int32)), (.int (0 : Int32)), (.int (0 : Int32)), (.int (0 : Int32)), (.int (0 : Int32)), (.int (0 : Int32)), (.int (0 : Int32)), (.int (0 : Int32)), (.int (0 : Int32)), (.int (0 : Int32))] (.int (0 : Int32)) := by
      have q := Arv.set Ar43 qa43 Sa43 Na43 Ha43 Ga43 (fits_nar_char _) W43 6 rfl (Nat.le_of_ble_eq_true rfl)
      exact q
    have K43 : Keep h0 h43 [] := K37.wr W43 (Or.inr sz_b6)
    have Z43 : n0 ≤ h43.size := Nat.le_trans Z37 (Keep.of_wr W43).1
    have N43 := Fr.snoc X43 N37 g_b6
    refine own_by st43 ?_
    have sg49 : ∀ t, own_S p e below T43 (mkF m 49 #[.val (.int p0), .val (.int p1)] [(.int (122 : Int32)), (.int (7 : Int32)), (.ref b6), (.ref b6)]) t → own_S p e below T43 (mkF m 44 #[.val (.int p0), .val (.int p1)] [(.ref b6)]) t := by
      intro t k
      show own_S p e below T43 (mkF m 44 #[.val (.int p0), .val (.int p1)] [(.ref b6)]) _
      refine XS.dup X43.here hx rfl (hb hby d12_44) rfl rfl ?_
      show own_S p e below T43 (mkF m 45 #[.val (.int p0), .val (.int p1)] [(.ref b6), (.ref b6)]) _
      refine XS.bipush X43.here hx rfl (hb hby d12_45) ?_
      show own_S p e below T43 (mkF m 47 #[.val (.int p0), .val (.int p1)] [(.int (7 : Int32)), (.ref b6), (.ref b6)]) _
      refine XS.bipush X43.here hx rfl (hb hby d12_47) ?_
      exact k
    refine own_by sg49 ?_
    obtain ⟨cl49, Ar49, qa49, Sa49, Na49, Ha49, Ga49⟩ := id V43
    obtain ⟨T49, h49, X49, e49, W49, st49⟩ := stC X43 hx hZ e43 Ar49 (j := (7 : Int32)) (inb_of Sa49 ⟨by decide, by decide⟩) (g := (mkF m 49 #[.val (.int p0), .val (.int p1)] [(.int (122 : Int32)), (.int (7 : Int32)), (.ref b6), (.ref b6)])) rfl rfl (hb hby d12_49)
    have V49 : Arv Z h49 b6 kc6 .char (19 : Int32) [(.int (97 : Int32)), (.int (117 : Int32)), (.int (116 : Int32)), (.int (104 : Int32)), (.int (111 : Int32)), (.int (114 : Int32)), (.int (105 : Int32)), (.int (122 : Int32)), (.int (0 : Int32)), (.int (0 : Int32)), (.int (0 : Int32)), (.int (0 : Int32)), (.int (0 : Int32)), (.int (0 : Int32)), (.int (0 : Int32)), (.int (0 : Int32)), (.int (0 : Int32)), (.int (0 : Int32)), (.int (0 : Int32))] (.int (0 : Int32)) := by
      have q := Arv.set Ar49 qa49 Sa49 Na49 Ha49 Ga49 (fits_nar_char _) W49 7 rfl (Nat.le_of_ble_eq_true rfl)
      exact q
    have K49 : Keep h0 h49 [] := K43.wr W49 (Or.inr sz_b6)
    have Z49 : n0 ≤ h49.size := Nat.le_trans Z43 (Keep.of_wr W49).1
    have N49 := Fr.snoc X49 N43 g_b6
    refine own_by st49 ?_
    have sg55 : ∀ t, own_S p e below T49 (mkF m 55 #[.val (.int p0), .val (.int p1)] [(.int (97 : Int32)), (.int (8 : Int32)), (.ref b6), (.ref b6)]) t → own_S p e below T49 (mkF m 50 #[.val (.int p0), .val (.int p1)] [(.ref b6)]) t := by
      intro t k
      show own_S p e below T49 (mkF m 50 #[.val (.int p0), .val (.int p1)] [(.ref b6)]) _
      refine XS.dup X49.here hx rfl (hb hby d12_50) rfl rfl ?_
      show own_S p e below T49 (mkF m 51 #[.val (.int p0), .val (.int p1)] [(.ref b6), (.ref b6)]) _
      refine XS.bipush X49.here hx rfl (hb hby d12_51) ?_
      show own_S p e below T49 (mkF m 53 #[.val (.int p0), .val (.int p1)] [(.int (8 : Int32)), (.ref b6), (.ref b6)]) _
      refine XS.bipush X49.here hx rfl (hb hby d12_53) ?_
      exact k
    refine own_by sg55 ?_
    obtain ⟨cl55, Ar55, qa55, Sa55, Na55, Ha55, Ga55⟩ := id V49
    obtain ⟨T55, h55, X55, e55, W55, st55⟩ := stC X49 hx hZ e49 Ar55 (j := (8 : Int32)) (inb_of Sa55 ⟨by decide, by decide⟩) (g := (mkF m 55 #[.val (.int p0), .val (.int p1)] [(.int (97 : Int32)), (.int (8 : Int32)), (.ref b6), (.ref b6)])) rfl rfl (hb hby d12_55)
    have V55 : Arv Z h55 b6 kc6 .char (19 : Int32) [(.int (97 : Int32)), (.int (117 : Int32)), (.int (116 : Int32)), (.int (104 : Int32)), (.int (111 : Int32)), (.int (114 : Int32)), (.int (105 : Int32)), (.int (122 : Int32)), (.int (97 : Int32)), (.int (0 : Int32)), (.int (0 : Int32)), (.int (0 : Int32)), (.int (0 : Int32)), (.int (0 : Int32)), (.int (0 : Int32)), (.int (0 : Int32)), (.int (0 : Int32)), (.int (0 : Int32)), (.int (0 : Int32))] (.int (0 : Int32)) := by
      have q := Arv.set Ar55 qa55 Sa55 Na55 Ha55 Ga55 (fits_nar_char _) W55 8 rfl (Nat.le_of_ble_eq_true rfl)
      exact q
    have K55 : Keep h0 h55 [] := K49.wr W55 (Or.inr sz_b6)
    have Z55 : n0 ≤ h55.size := Nat.le_trans Z49 (Keep.of_wr W55).1
    have N55 := Fr.snoc X55 N49 g_b6
    refine own_by st55 ?_
    have sg61 : ∀ t, own_S p e below T55 (mkF m 61 #[.val (.int p0), .val (.int p1)] [(.int (116 : Int32)), (.int (9 : Int32)), (.ref b6), (.ref b6)]) t → own_S p e below T55 (mkF m 56 #[.val (.int p0), .val (.int p1)] [(.ref b6)]) t := by
      intro t k
      show own_S p e below T55 (mkF m 56 #[.val (.int p0), .val (.int p1)] [(.ref b6)]) _
      refine XS.dup X55.here hx rfl (hb hby d12_56) rfl rfl ?_
      show own_S p e below T55 (mkF m 57 #[.val (.int p0), .val (.int p1)] [(.ref b6), (.ref b6)]) _
      refine XS.bipush X55.here hx rfl (hb hby d12_57) ?_
      show own_S p e below T55 (mkF m 59 #[.val (.int p0), .val (.int p1)] [(.int (9 : Int32)), (.ref b6), (.ref b6)]) _
      refine XS.bipush X55.here hx rfl (hb hby d12_59) ?_
      exact k
    refine own_by sg61 ?_
    obtain ⟨cl61, Ar61, qa61, Sa61, Na61, Ha61, Ga61⟩ := id V55
    obtain ⟨T61, h61, X61, e61, W61, st61⟩ := stC X55 hx hZ e55 Ar61 (j := (9 : Int32)) (inb_of Sa61 ⟨by decide, by decide⟩) (g := (mkF m 61 #[.val (.int p0), .val (.int p1)] [(.int (116 : Int32)), (.int (9 : Int32)), (.ref b6), (.ref b6)])) rfl rfl (hb hby d12_61)
    have V61 : Arv Z h61 b6 kc6 .char (19 : Int32) [(.int (97 : Int32)), (.int (117 : Int32)), (.int (116 : Int32)), (.int (104 : Int32)), (.int (111 : Int32)), (.int (114 : Int32)), (.int (105 : Int32)), (.int (122 : Int32)), (.int (97 : Int32)), (.int (116 : Int32)), (.int (0 : Int32)), (.int (0 : Int32)), (.int (0 : Int32)), (.int (0 : Int32)), (.int (0 : Int32)), (.int (0 : Int32)), (.int (0 : Int32)), (.int (0 : Int32)), (.int (0 : Int32))] (.int (0 : Int32)) := by
      have q := Arv.set Ar61 qa61 Sa61 Na61 Ha61 Ga61 (fits_nar_char _) W61 9 rfl (Nat.le_of_ble_eq_true rfl)
      exact q
    have K61 : Keep h0 h61 [] := K55.wr W61 (Or.inr sz_b6)
    have Z61 : n0 ≤ h61.size := Nat.le_trans Z55 (Keep.of_wr W61).1
    have N61 := Fr.snoc X61 N55 g_b6
    refine own_by st61 ?_
    have sg67 : ∀ t, own_S p e below T61 (mkF m 67 #[.val (.int p0), .val (.int p1)] [(.int (105 : Int32)), (.int (10 : Int32)), (.ref b6), (.ref b6)]) t → own_S p e below T61 (mkF m 62 #[.val (.int p0), .val (.int p1)] [(.ref b6)]) t := by
      intro t k
      show own_S p e below T61 (mkF m 62 #[.val (.int p0), .val (.int p1)] [(.ref b6)]) _
      refine XS.dup X61.here hx rfl (hb hby d12_62) rfl rfl ?_
      show own_S p e below T61 (mkF m 63 #[.val (.int p0), .val (.int p1)] [(.ref b6), (.ref b6)]) _
      refine XS.bipush X61.here hx rfl (hb hby d12_63) ?_
      show own_S p e below T61 (mkF m 65 #[.val (.int p0), .val (.int p1)] [(.int (10 : Int32)), (.ref b6), (.ref b6)]) _
      refine XS.bipush X61.here hx rfl (hb hby d12_65) ?_
      exact k
    refine own_by sg67 ?_
    obtain ⟨cl67, Ar67, qa67, Sa67, Na67, Ha67, Ga67⟩ := id V61
    obtain ⟨T67, h67, X67, e67, W67, st67⟩ := stC X61 hx hZ e61 Ar67 (j := (10 : Int32)) (inb_of Sa67 ⟨by decide, by decide⟩) (g := (mkF m 67 #[.val (.int p0), .val (.int p1)] [(.int (105 : Int32)), (.int (10 : Int32)), (.ref b6), (.ref b6)])) rfl rfl (hb hby d12_67)
    have V67 : Arv Z h67 b6 kc6 .char (19 : Int32) [(.int (97 : Int32)), (.int (117 : Int32)), (.int (116 : Int32)), (.int (104 : Int32)), (.int (111 : Int32)), (.int (114 : Int32)), (.int (105 : Int32)), (.int (122 : Int32)), (.int (97 : Int32)), (.int (116 : Int32)), (.int (105 : Int32)), (.int (0 : Int32)), (.int (0 : Int32)), (.int (0 : Int32)), (.int (0 : Int32)), (.int (0 : Int32)), (.int (0 : Int32)), (.int (0 : Int32)), (.int (0 : Int32))] (.int (0 : Int32)) := by
      have q := Arv.set Ar67 qa67 Sa67 Na67 Ha67 Ga67 (fits_nar_char _) W67 10 rfl (Nat.le_of_ble_eq_true rfl)
      exact q
    have K67 : Keep h0 h67 [] := K61.wr W67 (Or.inr sz_b6)
    have Z67 : n0 ≤ h67.size := Nat.le_trans Z61 (Keep.of_wr W67).1
    have N67 := Fr.snoc X67 N61 g_b6
    refine own_by st67 ?_
    have sg73 : ∀ t, own_S p e below T67 (mkF m 73 #[.val (.int p0), .val (.int p1)] [(.int (111 : Int32)), (.int (11 : Int32)), (.ref b6), (.ref b6)]) t → own_S p e below T67 (mkF m 68 #[.val (.int p0), .val (.int p1)] [(.ref b6)]) t := by
      intro t k
      show own_S p e below T67 (mkF m 68 #[.val (.int p0), .val (.int p1)] [(.ref b6)]) _
      refine XS.dup X67.here hx rfl (hb hby d12_68) rfl rfl ?_
      show own_S p e below T67 (mkF m 69 #[.val (.int p0), .val (.int p1)] [(.ref b6), (.ref b6)]) _
      refine XS.bipush X67.here hx rfl (hb hby d12_69) ?_
      show own_S p e below T67 (mkF m 71 #[.val (.int p0), .val (.int p1)] [(.int (11 : Int32)), (.ref b6), (.ref b6)]) _
      refine XS.bipush X67.here hx rfl (hb hby d12_71) ?_
      exact k
    refine own_by sg73 ?_
    obtain ⟨cl73, Ar73, qa73, Sa73, Na73, Ha73, Ga73⟩ := id V67
    obtain ⟨T73, h73, X73, e73, W73, st73⟩ := stC X67 hx hZ e67 Ar73 (j := (11 : Int32)) (inb_of Sa73 ⟨by decide, by decide⟩) (g := (mkF m 73 #[.val (.int p0), .val (.int p1)] [(.int (111 : Int32)), (.int (11 : Int32)), (.ref b6), (.ref b6)])) rfl rfl (hb hby d12_73)
    have V73 : Arv Z h73 b6 kc6 .char (19 : Int32) [(.int (97 : Int32)), (.int (117 : Int32)), (.int (116 : Int32)), (.int (104 : Int32)), (.int (111 : Int32)), (.int (114 : Int32)), (.int (105 : Int32)), (.int (122 : Int32)), (.int (97 : Int32)), (.int (116 : Int32)), (.int (105 : Int32)), (.int (111 : Int32)), (.int (0 : Int32)), (.int (0 : Int32)), (.int (0 : Int32)), (.int (0 : Int32)), (.int (0 : Int32)), (.int (0 : Int32)), (.int (0 : Int32))] (.int (0 : Int32)) := by
      have q := Arv.set Ar73 qa73 Sa73 Na73 Ha73 Ga73 (fits_nar_char _) W73 11 rfl (Nat.le_of_ble_eq_true rfl)
      exact q
    have K73 : Keep h0 h73 [] := K67.wr W73 (Or.inr sz_b6)
    have Z73 : n0 ≤ h73.size := Nat.le_trans Z67 (Keep.of_wr W73).1
    have N73 := Fr.snoc X73 N67 g_b6
    refine own_by st73 ?_
    have sg79 : ∀ t, own_S p e below T73 (mkF m 79 #[.val (.int p0), .val (.int p1)] [(.int (110 : Int32)), (.int (12 : Int32)), (.ref b6), (.ref b6)]) t → own_S p e below T73 (mkF m 74 #[.val (.int p0), .val (.int p1)] [(.ref b6)]) t := by
      intro t k
      show own_S p e below T73 (mkF m 74 #[.val (.int p0), .val (.int p1)] [(.ref b6)]) _
      refine XS.dup X73.here hx rfl (hb hby d12_74) rfl rfl ?_
      show own_S p e below T73 (mkF m 75 #[.val (.int p0), .val (.int p1)] [(.ref b6), (.ref b6)]) _
      refine XS.bipush X73.here hx rfl (hb hby d12_75) ?_
      show own_S p e below T73 (mkF m 77 #[.val (.int p0), .val (.int p1)] [(.int (12 : Int32)), (.ref b6), (.ref b6)]) _
      refine XS.bipush X73.here hx rfl (hb hby d12_77) ?_
      exact k
    refine own_by sg79 ?_
    obtain ⟨cl79, Ar79, qa79, Sa79, Na79, Ha79, Ga79⟩ := id V73
    obtain ⟨T79, h79, X79, e79, W79, st79⟩ := stC X73 hx hZ e73 Ar79 (j := (12 : Int32)) (inb_of Sa79 ⟨by decide, by decide⟩) (g := (mkF m 79 #[.val (.int p0), .val (.int p1)] [(.int (110 : Int32)), (.int (12 : Int32)), (.ref b6), (.ref b6)])) rfl rfl (hb hby d12_79)
    have V79 : Arv Z h79 b6 kc6 .char (19 : Int32) [(.int (97 : Int32)), (.int (117 : Int32)), (.int (116 : Int32)), (.int (104 : Int32)), (.int (111 : Int32)), (.int (114 : Int32)), (.int (105 : Int32)), (.int (122 : Int32)), (.int (97 : Int32)), (.int (116 : Int32)), (.int (105 : Int32)), (.int (111 : Int32)), (.int (110 : Int32)), (.int (0 : Int32)), (.int (0 : Int32)), (.int (0 : Int32)), (.int (0 : Int32)), (.int (0 : Int32)), (.int (0 : Int32))] (.int (0 : Int32)) := by
      have q := Arv.set Ar79 qa79 Sa79 Na79 Ha79 Ga79 (fits_nar_char _) W79 12 rfl (Nat.le_of_ble_eq_true rfl)
      exact q
    have K79 : Keep h0 h79 [] := K73.wr W79 (Or.inr sz_b6)
    have Z79 : n0 ≤ h79.size := Nat.le_trans Z73 (Keep.of_wr W79).1
    have N79 := Fr.snoc X79 N73 g_b6
    refine own_by st79 ?_
    have sg85 : ∀ t, own_S p e below T79 (mkF m 85 #[.val (.int p0), .val (.int p1)] [(.int (95 : Int32)), (.int (13 : Int32)), (.ref b6), (.ref b6)]) t → own_S p e below T79 (mkF m 80 #[.val (.int p0), .val (.int p1)] [(.ref b6)]) t := by
      intro t k
      show own_S p e below T79 (mkF m 80 #[.val (.int p0), .val (.int p1)] [(.ref b6)]) _
      refine XS.dup X79.here hx rfl (hb hby d12_80) rfl rfl ?_
      show own_S p e below T79 (mkF m 81 #[.val (.int p0), .val (.int p1)] [(.ref b6), (.ref b6)]) _
      refine XS.bipush X79.here hx rfl (hb hby d12_81) ?_
      show own_S p e below T79 (mkF m 83 #[.val (.int p0), .val (.int p1)] [(.int (13 : Int32)), (.ref b6), (.ref b6)]) _
      refine XS.bipush X79.here hx rfl (hb hby d12_83) ?_
      exact k
    refine own_by sg85 ?_
    obtain ⟨cl85, Ar85, qa85, Sa85, Na85, Ha85, Ga85⟩ := id V79
    obtain ⟨T85, h85, X85, e85, W85, st85⟩ := stC X79 hx hZ e79 Ar85 (j := (13 : Int32)) (inb_of Sa85 ⟨by decide, by decide⟩) (g := (mkF m 85 #[.val (.int p0), .val (.int p1)] [(.int (95 : Int32)), (.int (13 : Int32)), (.ref b6), (.ref b6)])) rfl rfl (hb hby d12_85)
    have V85 : Arv Z h85 b6 kc6 .char (19 : Int32) [(.int (97 : Int32)), (.int (117 : Int32)), (.int (116 : Int32)), (.int (104 : Int32)), (.int (111 : Int32)), (.int (114 : Int32)), (.int (105 : Int32)), (.int (122 : Int32)), (.int (97 : Int32)), (.int (116 : Int32)), (.int (105 : Int32)), (.int (111 : Int32)), (.int (110 : Int32)), (.int (95 : Int32)), (.int (0 : Int32)), (.int (0 : Int32)), (.int (0 : Int32)), (.int (0 : Int32)), (.int (0 : Int32))] (.int (0 : Int32)) := by
      have q := Arv.set Ar85 qa85 Sa85 Na85 Ha85 Ga85 (fits_nar_char _) W85 13 rfl (Nat.le_of_ble_eq_true rfl)
      exact q
    have K85 : Keep h0 h85 [] := K79.wr W85 (Or.inr sz_b6)
    have Z85 : n0 ≤ h85.size := Nat.le_trans Z79 (Keep.of_wr W85).1
    have N85 := Fr.snoc X85 N79 g_b6
    refine own_by st85 ?_
    have sg91 : ∀ t, own_S p e below T85 (mkF m 91 #[.val (.int p0), .val (.int p1)] [(.int (99 : Int32)), (.int (14 : Int32)), (.ref b6), (.ref b6)]) t → own_S p e below T85 (mkF m 86 #[.val (.int p0), .val (.int p1)] [(.ref b6)]) t := by
      intro t k
      show own_S p e below T85 (mkF m 86 #[.val (.int p0), .val (.int p1)] [(.ref b6)]) _
      refine XS.dup X85.here hx rfl (hb hby d12_86) rfl rfl ?_
      show own_S p e below T85 (mkF m 87 #[.val (.int p0), .val (.int p1)] [(.ref b6), (.ref b6)]) _
      refine XS.bipush X85.here hx rfl (hb hby d12_87) ?_
      show own_S p e below T85 (mkF m 89 #[.val (.int p0), .val (.int p1)] [(.int (14 : Int32)), (.ref b6), (.ref b6)]) _
      refine XS.bipush X85.here hx rfl (hb hby d12_89) ?_
      exact k
    refine own_by sg91 ?_
    obtain ⟨cl91, Ar91, qa91, Sa91, Na91, Ha91, Ga91⟩ := id V85
    obtain ⟨T91, h91, X91, e91, W91, st91⟩ := stC X85 hx hZ e85 Ar91 (j := (14 : Int32)) (inb_of Sa91 ⟨by decide, by decide⟩) (g := (mkF m 91 #[.val (.int p0), .val (.int p1)] [(.int (99 : Int32)), (.int (14 : Int32)), (.ref b6), (.ref b6)])) rfl rfl (hb hby d12_91)
    have V91 : Arv Z h91 b6 kc6 .char (19 : Int32) [(.int (97 : Int32)), (.int (117 : Int32)), (.int (116 : Int32)), (.int (104 : Int32)), (.int (111 : Int32)), (.int (114 : Int32)), (.int (105 : Int32)), (.int (122 : Int32)), (.int (97 : Int32)), (.int (116 : Int32)), (.int (105 : Int32)), (.int (111 : Int32)), (.int (110 : Int32)), (.int (95 : Int32)), (.int (99 : Int32)), (.int (0 : Int32)), (.int (0 : Int32)), (.int (0 : Int32)), (.int (0 : Int32))] (.int (0 : Int32)) := by
      have q := Arv.set Ar91 qa91 Sa91 Na91 Ha91 Ga91 (fits_nar_char _) W91 14 rfl (Nat.le_of_ble_eq_true rfl)
      exact q
    have K91 : Keep h0 h91 [] := K85.wr W91 (Or.inr sz_b6)
    have Z91 : n0 ≤ h91.size := Nat.le_trans Z85 (Keep.of_wr W91).1
    have N91 := Fr.snoc X91 N85 g_b6
    refine own_by st91 ?_
    have sg97 : ∀ t, own_S p e below T91 (mkF m 97 #[.val (.int p0), .val (.int p1)] [(.int (111 : Int32)), (.int (15 : Int32)), (.ref b6), (.ref b6)]) t → own_S p e below T91 (mkF m 92 #[.val (.int p0), .val (.int p1)] [(.ref b6)]) t := by
      intro t k
      show own_S p e below T91 (mkF m 92 #[.val (.int p0), .val (.int p1)] [(.ref b6)]) _
      refine XS.dup X91.here hx rfl (hb hby d12_92) rfl rfl ?_
      show own_S p e below T91 (mkF m 93 #[.val (.int p0), .val (.int p1)] [(.ref b6), (.ref b6)]) _
      refine XS.bipush X91.here hx rfl (hb hby d12_93) ?_
      show own_S p e below T91 (mkF m 95 #[.val (.int p0), .val (.int p1)] [(.int (15 : Int32)), (.ref b6), (.ref b6)]) _
      refine XS.bipush X91.here hx rfl (hb hby d12_95) ?_
      exact k
    refine own_by sg97 ?_
    obtain ⟨cl97, Ar97, qa97, Sa97, Na97, Ha97, Ga97⟩ := id V91
    obtain ⟨T97, h97, X97, e97, W97, st97⟩ := stC X91 hx hZ e91 Ar97 (j := (15 : Int32)) (inb_of Sa97 ⟨by decide, by decide⟩) (g := (mkF m 97 #[.val (.int p0), .val (.int p1)] [(.int (111 : Int32)), (.int (15 : Int32)), (.ref b6), (.ref b6)])) rfl rfl (hb hby d12_97)
    have V97 : Arv Z h97 b6 kc6 .char (19 : Int32) [(.int (97 : Int32)), (.int (117 : Int32)), (.int (116 : Int32)), (.int (104 : Int32)), (.int (111 : Int32)), (.int (114 : Int32)), (.int (105 : Int32)), (.int (122 : Int32)), (.int (97 : Int32)), (.int (116 : Int32)), (.int (105 : Int32)), (.int (111 : Int32)), (.int (110 : Int32)), (.int (95 : Int32)), (.int (99 : Int32)), (.int (111 : Int32)), (.int (0 : Int32)), (.int (0 : Int32)), (.int (0 : Int32))] (.int (0 : Int32)) := by
      have q := Arv.set Ar97 qa97 Sa97 Na97 Ha97 Ga97 (fits_nar_char _) W97 15 rfl (Nat.le_of_ble_eq_true rfl)
      exact q
    have K97 : Keep h0 h97 [] := K91.wr W97 (Or.inr sz_b6)
    have Z97 : n0 ≤ h97.size := Nat.le_trans Z91 (Keep.of_wr W97).1
    have N97 := Fr.snoc X97 N91 g_b6
    refine own_by st97 ?_
    have sg103 : ∀ t, own_S p e below T97 (mkF m 103 #[.val (.int p0), .val (.int p1)] [(.int (100 : Int32)), (.int (16 : Int32)), (.ref b6), (.ref b6)]) t → own_S p e below T97 (mkF m 98 #[.val (.int p0), .val (.int p1)] [(.ref b6)]) t := by
      intro t k
      show own_S p e below T97 (mkF m 98 #[.val (.int p0), .val (.int p1)] [(.ref b6)]) _
      refine XS.dup X97.here hx rfl (hb hby d12_98) rfl rfl ?_
      show own_S p e below T97 (mkF m 99 #[.val (.int p0), .val (.int p1)] [(.ref b6), (.ref b6)]) _
      refine XS.bipush X97.here hx rfl (hb hby d12_99) ?_
      show own_S p e below T97 (mkF m 101 #[.val (.int p0), .val (.int p1)] [(.int (16 : Int32)), (.ref b6), (.ref b6)]) _
      refine XS.bipush X97.here hx rfl (hb hby d12_101) ?_
      exact k
    refine own_by sg103 ?_
    obtain ⟨cl103, Ar103, qa103, Sa103, Na103, Ha103, Ga103⟩ := id V97
    obtain ⟨T103, h103, X103, e103, W103, st103⟩ := stC X97 hx hZ e97 Ar103 (j := (16 : Int32)) (inb_of Sa103 ⟨by decide, by decide⟩) (g := (mkF m 103 #[.val (.int p0), .val (.int p1)] [(.int (100 : Int32)), (.int (16 : Int32)), (.ref b6), (.ref b6)])) rfl rfl (hb hby d12_103)
    have V103 : Arv Z h103 b6 kc6 .char (19 : Int32) [(.int (97 : Int32)), (.int (117 : Int32)), (.int (116 : Int32)), (.int (104 : Int32)), (.int (111 : Int32)), (.int (114 : Int32)), (.int (105 : Int32)), (.int (122 : Int32)), (.int (97 : Int32)), (.int (116 : Int32)), (.int (105 : Int32)), (.int (111 : Int32)), (.int (110 : Int32)), (.int (95 : Int32)), (.int (99 : Int32)), (.int (111 : Int32)), (.int (100 : Int32)), (.int (0 : Int32)), (.int (0 : Int32))] (.int (0 : Int32)) := by
      have q := Arv.set Ar103 qa103 Sa103 Na103 Ha103 Ga103 (fits_nar_char _) W103 16 rfl (Nat.le_of_ble_eq_true rfl)
      exact q
    have K103 : Keep h0 h103 [] := K97.wr W103 (Or.inr sz_b6)
    have Z103 : n0 ≤ h103.size := Nat.le_trans Z97 (Keep.of_wr W103).1
    have N103 := Fr.snoc X103 N97 g_b6
    refine own_by st103 ?_
    have sg109 : ∀ t, own_S p e below T103 (mkF m 109 #[.val (.int p0), .val (.int p1)] [(.int (101 : Int32)), (.int (17 : Int32)), (.ref b6), (.ref b6)]) t → own_S p e below T103 (mkF m 104 #[.val (.int p0), .val (.int p1)] [(.ref b6)]) t := by
      intro t k
      show own_S p e below T103 (mkF m 104 #[.val (.int p0), .val (.int p1)] [(.ref b6)]) _
      refine XS.dup X103.here hx rfl (hb hby d12_104) rfl rfl ?_
      show own_S p e below T103 (mkF m 105 #[.val (.int p0), .val (.int p1)] [(.ref b6), (.ref b6)]) _
      refine XS.bipush X103.here hx rfl (hb hby d12_105) ?_
      show own_S p e below T103 (mkF m 107 #[.val (.int p0), .val (.int p1)] [(.int (17 : Int32)), (.ref b6), (.ref b6)]) _
      refine XS.bipush X103.here hx rfl (hb hby d12_107) ?_
      exact k
    refine own_by sg109 ?_
    obtain ⟨cl109, Ar109, qa109, Sa109, Na109, Ha109, Ga109⟩ := id V103
    obtain ⟨T109, h109, X109, e109, W109, st109⟩ := stC X103 hx hZ e103 Ar109 (j := (17 : Int32)) (inb_of Sa109 ⟨by decide, by decide⟩) (g := (mkF m 109 #[.val (.int p0), .val (.int p1)] [(.int (101 : Int32)), (.int (17 : Int32)), (.ref b6), (.ref b6)])) rfl rfl (hb hby d12_109)
    have V109 : Arv Z h109 b6 kc6 .char (19 : Int32) [(.int (97 : Int32)), (.int (117 : Int32)), (.int (116 : Int32)), (.int (104 : Int32)), (.int (111 : Int32)), (.int (114 : Int32)), (.int (105 : Int32)), (.int (122 : Int32)), (.int (97 : Int32)), (.int (116 : Int32)), (.int (105 : Int32)), (.int (111 : Int32)), (.int (110 : Int32)), (.int (95 : Int32)), (.int (99 : Int32)), (.int (111 : Int32)), (.int (100 : Int32)), (.int (101 : Int32)), (.int (0 : Int32))] (.int (0 : Int32)) := by
      have q := Arv.set Ar109 qa109 Sa109 Na109 Ha109 Ga109 (fits_nar_char _) W109 17 rfl (Nat.le_of_ble_eq_true rfl)
      exact q
    have K109 : Keep h0 h109 [] := K103.wr W109 (Or.inr sz_b6)
    have Z109 : n0 ≤ h109.size := Nat.le_trans Z103 (Keep.of_wr W109).1
    have N109 := Fr.snoc X109 N103 g_b6
    refine own_by st109 ?_
    have sg114 : ∀ t, own_S p e below T109 (mkF m 114 #[.val (.int p0), .val (.int p1)] [(.int p1), (.int (18 : Int32)), (.ref b6), (.ref b6)]) t → own_S p e below T109 (mkF m 110 #[.val (.int p0), .val (.int p1)] [(.ref b6)]) t := by
      intro t k
      show own_S p e below T109 (mkF m 110 #[.val (.int p0), .val (.int p1)] [(.ref b6)]) _
      refine XS.dup X109.here hx rfl (hb hby d12_110) rfl rfl ?_
      show own_S p e below T109 (mkF m 111 #[.val (.int p0), .val (.int p1)] [(.ref b6), (.ref b6)]) _
      refine XS.bipush X109.here hx rfl (hb hby d12_111) ?_
      show own_S p e below T109 (mkF m 113 #[.val (.int p0), .val (.int p1)] [(.int (18 : Int32)), (.ref b6), (.ref b6)]) _
      refine XS.iloadN X109.here hx rfl (hb hby d12_113) rfl ?_
      exact k
    refine own_by sg114 ?_
    obtain ⟨cl114, Ar114, qa114, Sa114, Na114, Ha114, Ga114⟩ := id V109
    obtain ⟨T114, h114, X114, e114, W114, st114⟩ := stC X109 hx hZ e109 Ar114 (j := (18 : Int32)) (inb_of Sa114 ⟨by decide, by decide⟩) (g := (mkF m 114 #[.val (.int p0), .val (.int p1)] [(.int p1), (.int (18 : Int32)), (.ref b6), (.ref b6)])) rfl rfl (hb hby d12_114)
    have V114 : Arv Z h114 b6 kc6 .char (19 : Int32) [(.int (97 : Int32)), (.int (117 : Int32)), (.int (116 : Int32)), (.int (104 : Int32)), (.int (111 : Int32)), (.int (114 : Int32)), (.int (105 : Int32)), (.int (122 : Int32)), (.int (97 : Int32)), (.int (116 : Int32)), (.int (105 : Int32)), (.int (111 : Int32)), (.int (110 : Int32)), (.int (95 : Int32)), (.int (99 : Int32)), (.int (111 : Int32)), (.int (100 : Int32)), (.int (101 : Int32)), (.int p1)] (.int (0 : Int32)) := by
      have q := Arv.set Ar114 qa114 Sa114 Na114 Ha114 Ga114 (fits_nar_char _) W114 18 rfl (Nat.le_of_ble_eq_true rfl)
      rw [own_narc hk] at q
      exact q
    have K114 : Keep h0 h114 [] := K109.wr W114 (Or.inr sz_b6)
    have Z114 : n0 ≤ h114.size := Nat.le_trans Z109 (Keep.of_wr W114).1
    have N114 := Fr.snoc X114 N109 g_b6
    refine own_by st114 ?_
    obtain ⟨fs, hr, hrun, hended, hW, hsame⟩ := X114.leave (v := some (.ref b6)) (fun h => by rw [Bd.returns] at h; cases h)
    refine ⟨_, _, ?_, hrun, hended, _, _, rfl, ?_, ⟨_, rfl⟩, hW, hsame.mono (by decide) (by decide)⟩
    · show Steps p.tables e below (T114.setTop (mkF m 115 #[.val (.int p0), .val (.int p1)] [(.ref b6)])) _
      jvm_step X114.here [X114.here.top, hx, (hb hby d12_115), X114.method', Bd.returns, Value.isRef, FieldType.isReference]
      first | (intro acts; rw [hr _ acts rfl rfl rfl]) | rw [hr _ _ rfl rfl rfl]
      exact Steps.refl _
    · show Q12 Z p0 p1 h0 n0 _ T114.heap _
      rw [e114]
      exact ⟨_, _, rfl, sz_b6, N114, K114, (by unfold own_n19; rw [if_pos hc1]; exact V114)⟩
  · have sg118 : ∀ t, own_S p e below s₁ (mkF m 118 #[.val (.int p0), .val (.int p1)] [(.int (19 : Int32))]) t → own_S p e below s₁ (mkF m 1 #[.val (.int p0), .val (.int p1)] [(.int p0)]) t := by
      intro t k
      show own_S p e below s₁ (mkF m 1 #[.val (.int p0), .val (.int p1)] [(.int p0)]) _
      refine XS.ifYes X0.here hx rfl (pc0 := 1) (pc' := 116) rfl (hb hby d12_1) rfl ((if0 _ _).trans (feq hc1).2) (by decide) (by decide) ?_
      show own_S p e below s₁ (mkF m 116 #[.val (.int p0), .val (.int p1)] []) _
      refine XS.bipush X0.here hx rfl (hb hby d12_116) ?_
      exact k
    refine own_by sg118 ?_
    obtain ⟨T118, h118, kc118, X118, e118, E118, A118, st118⟩ := newP X0 hx hZ (hw _ (List.mem_of_getElem? (i := 8) rfl)) e0 (g := (mkF m 118 #[.val (.int p0), .val (.int p1)] [(.int (19 : Int32))])) rfl (hb hby d12_118) rfl (by decide) (cap := 19) (by decide) (by decide) (by decide) (by decide)
    obtain ⟨b118, g118⟩ : ∃ z, z = h0.size := ⟨_, rfl⟩
    rw [← g118] at A118 st118
    have g_b118 : n0 ≤ b118 := Nat.le_trans Z0 (Nat.le_of_eq g118.symm)
    have sz_b118 : h0.size ≤ b118 := Nat.le_trans K0.1 (Nat.le_of_eq g118.symm)
    have K118 := K0.ext E118
    have Z118 : n0 ≤ h118.size := Nat.le_trans Z0 E118.1
    have V118 : Arv Z h118 b118 kc118 .char (19 : Int32) [(.int (0 : Int32)), (.int (0 : Int32)), (.int (0 : Int32)), (.int (0 : Int32)), (.int (0 : Int32)), (.int (0 : Int32)), (.int (0 : Int32)), (.int (0 : Int32)), (.int (0 : Int32)), (.int (0 : Int32)), (.int (0 : Int32)), (.int (0 : Int32)), (.int (0 : Int32)), (.int (0 : Int32)), (.int (0 : Int32)), (.int (0 : Int32)), (.int (0 : Int32)), (.int (0 : Int32)), (.int (0 : Int32))] (.int (0 : Int32)) := (Arv.new A118 (by decide)).pad (pad_rep [] (.int (0 : Int32)) 19)
    refine own_by st118 ?_
    have sg124 : ∀ t, own_S p e below T118 (mkF m 124 #[.val (.int p0), .val (.int p1)] [(.int (99 : Int32)), (.int (0 : Int32)), (.ref b118), (.ref b118)]) t → own_S p e below T118 (mkF m 120 #[.val (.int p0), .val (.int p1)] [(.ref b118)]) t := by
      intro t k
      show own_S p e below T118 (mkF m 120 #[.val (.int p0), .val (.int p1)] [(.ref b118)]) _
      refine XS.dup X118.here hx rfl (hb hby d12_120) rfl rfl ?_
      show own_S p e below T118 (mkF m 121 #[.val (.int p0), .val (.int p1)] [(.ref b118), (.ref b118)]) _
      refine XS.iconst X118.here hx rfl (hb hby d12_121) ?_
      show own_S p e below T118 (mkF m 122 #[.val (.int p0), .val (.int p1)] [(.int (0 : Int32)), (.ref b118), (.ref b118)]) _
      refine XS.bipush X118.here hx rfl (hb hby d12_122) ?_
      exact k
    refine own_by sg124 ?_
    obtain ⟨cl124, Ar124, qa124, Sa124, Na124, Ha124, Ga124⟩ := id V118
    obtain ⟨T124, h124, X124, e124, W124, st124⟩ := stC X118 hx hZ e118 Ar124 (j := (0 : Int32)) (inb_of Sa124 ⟨by decide, by decide⟩) (g := (mkF m 124 #[.val (.int p0), .val (.int p1)] [(.int (99 : Int32)), (.int (0 : Int32)), (.ref b118), (.ref b118)])) rfl rfl (hb hby d12_124)
    have V124 : Arv Z h124 b118 kc118 .char (19 : Int32) [(.int (99 : Int32)), (.int (0 : Int32)), (.int (0 : Int32)), (.int (0 : Int32)), (.int (0 : Int32)), (.int (0 : Int32)), (.int (0 : Int32)), (.int (0 : Int32)), (.int (0 : Int32)), (.int (0 : Int32)), (.int (0 : Int32)), (.int (0 : Int32)), (.int (0 : Int32)), (.int (0 : Int32)), (.int (0 : Int32)), (.int (0 : Int32)), (.int (0 : Int32)), (.int (0 : Int32)), (.int (0 : Int32))] (.int (0 : Int32)) := by
      have q := Arv.set Ar124 qa124 Sa124 Na124 Ha124 Ga124 (fits_nar_char _) W124 0 rfl (Nat.le_of_ble_eq_true rfl)
      exact q
    have K124 : Keep h0 h124 [] := K118.wr W124 (Or.inr sz_b118)
    have Z124 : n0 ≤ h124.size := Nat.le_trans Z118 (Keep.of_wr W124).1
    have N124 := Fr.snoc X124 N0 g_b118
    refine own_by st124 ?_
    have sg129 : ∀ t, own_S p e below T124 (mkF m 129 #[.val (.int p0), .val (.int p1)] [(.int (108 : Int32)), (.int (1 : Int32)), (.ref b118), (.ref b118)]) t → own_S p e below T124 (mkF m 125 #[.val (.int p0), .val (.int p1)] [(.ref b118)]) t := by
      intro t k
      show own_S p e below T124 (mkF m 125 #[.val (.int p0), .val (.int p1)] [(.ref b118)]) _
      refine XS.dup X124.here hx rfl (hb hby d12_125) rfl rfl ?_
      show own_S p e below T124 (mkF m 126 #[.val (.int p0), .val (.int p1)] [(.ref b118), (.ref b118)]) _
      refine XS.iconst X124.here hx rfl (hb hby d12_126) ?_
      show own_S p e below T124 (mkF m 127 #[.val (.int p0), .val (.int p1)] [(.int (1 : Int32)), (.ref b118), (.ref b118)]) _
      refine XS.bipush X124.here hx rfl (hb hby d12_127) ?_
      exact k
    refine own_by sg129 ?_
    obtain ⟨cl129, Ar129, qa129, Sa129, Na129, Ha129, Ga129⟩ := id V124
    obtain ⟨T129, h129, X129, e129, W129, st129⟩ := stC X124 hx hZ e124 Ar129 (j := (1 : Int32)) (inb_of Sa129 ⟨by decide, by decide⟩) (g := (mkF m 129 #[.val (.int p0), .val (.int p1)] [(.int (108 : Int32)), (.int (1 : Int32)), (.ref b118), (.ref b118)])) rfl rfl (hb hby d12_129)
    have V129 : Arv Z h129 b118 kc118 .char (19 : Int32) [(.int (99 : Int32)), (.int (108 : Int32)), (.int (0 : Int32)), (.int (0 : Int32)), (.int (0 : Int32)), (.int (0 : Int32)), (.int (0 : Int32)), (.int (0 : Int32)), (.int (0 : Int32)), (.int (0 : Int32)), (.int (0 : Int32)), (.int (0 : Int32)), (.int (0 : Int32)), (.int (0 : Int32)), (.int (0 : Int32)), (.int (0 : Int32)), (.int (0 : Int32)), (.int (0 : Int32)), (.int (0 : Int32))] (.int (0 : Int32)) := by
      have q := Arv.set Ar129 qa129 Sa129 Na129 Ha129 Ga129 (fits_nar_char _) W129 1 rfl (Nat.le_of_ble_eq_true rfl)
      exact q
    have K129 : Keep h0 h129 [] := K124.wr W129 (Or.inr sz_b118)
    have Z129 : n0 ≤ h129.size := Nat.le_trans Z124 (Keep.of_wr W129).1
    have N129 := Fr.snoc X129 N124 g_b118
    refine own_by st129 ?_
    have sg134 : ∀ t, own_S p e below T129 (mkF m 134 #[.val (.int p0), .val (.int p1)] [(.int (105 : Int32)), (.int (2 : Int32)), (.ref b118), (.ref b118)]) t → own_S p e below T129 (mkF m 130 #[.val (.int p0), .val (.int p1)] [(.ref b118)]) t := by
      intro t k
      show own_S p e below T129 (mkF m 130 #[.val (.int p0), .val (.int p1)] [(.ref b118)]) _
      refine XS.dup X129.here hx rfl (hb hby d12_130) rfl rfl ?_
      show own_S p e below T129 (mkF m 131 #[.val (.int p0), .val (.int p1)] [(.ref b118), (.ref b118)]) _
      refine XS.iconst X129.here hx rfl (hb hby d12_131) ?_
      show own_S p e below T129 (mkF m 132 #[.val (.int p0), .val (.int p1)] [(.int (2 : Int32)), (.ref b118), (.ref b118)]) _
      refine XS.bipush X129.here hx rfl (hb hby d12_132) ?_
      exact k
    refine own_by sg134 ?_
    obtain ⟨cl134, Ar134, qa134, Sa134, Na134, Ha134, Ga134⟩ := id V129
    obtain ⟨T134, h134, X134, e134, W134, st134⟩ := stC X129 hx hZ e129 Ar134 (j := (2 : Int32)) (inb_of Sa134 ⟨by decide, by decide⟩) (g := (mkF m 134 #[.val (.int p0), .val (.int p1)] [(.int (105 : Int32)), (.int (2 : Int32)), (.ref b118), (.ref b118)])) rfl rfl (hb hby d12_134)
    have V134 : Arv Z h134 b118 kc118 .char (19 : Int32) [(.int (99 : Int32)), (.int (108 : Int32)), (.int (105 : Int32)), (.int (0 : Int32)), (.int (0 : Int32)), (.int (0 : Int32)), (.int (0 : Int32)), (.int (0 : Int32)), (.int (0 : Int32)), (.int (0 : Int32)), (.int (0 : Int32)), (.int (0 : Int32)), (.int (0 : Int32)), (.int (0 : Int32)), (.int (0 : Int32)), (.int (0 : Int32)), (.int (0 : Int32)), (.int (0 : Int32)), (.int (0 : Int32))] (.int (0 : Int32)) := by
      have q := Arv.set Ar134 qa134 Sa134 Na134 Ha134 Ga134 (fits_nar_char _) W134 2 rfl (Nat.le_of_ble_eq_true rfl)
      exact q
    have K134 : Keep h0 h134 [] := K129.wr W134 (Or.inr sz_b118)
    have Z134 : n0 ≤ h134.size := Nat.le_trans Z129 (Keep.of_wr W134).1
    have N134 := Fr.snoc X134 N129 g_b118
    refine own_by st134 ?_
    have sg139 : ∀ t, own_S p e below T134 (mkF m 139 #[.val (.int p0), .val (.int p1)] [(.int (101 : Int32)), (.int (3 : Int32)), (.ref b118), (.ref b118)]) t → own_S p e below T134 (mkF m 135 #[.val (.int p0), .val (.int p1)] [(.ref b118)]) t := by
      intro t k
      show own_S p e below T134 (mkF m 135 #[.val (.int p0), .val (.int p1)] [(.ref b118)]) _
      refine XS.dup X134.here hx rfl (hb hby d12_135) rfl rfl ?_
      show own_S p e below T134 (mkF m 136 #[.val (.int p0), .val (.int p1)] [(.ref b118), (.ref b118)]) _
      refine XS.iconst X134.here hx rfl (hb hby d12_136) ?_
      show own_S p e below T134 (mkF m 137 #[.val (.int p0), .val (.int p1)] [(.int (3 : Int32)), (.ref b118), (.ref b118)]) _
      refine XS.bipush X134.here hx rfl (hb hby d12_137) ?_
      exact k
    refine own_by sg139 ?_
    obtain ⟨cl139, Ar139, qa139, Sa139, Na139, Ha139, Ga139⟩ := id V134
    obtain ⟨T139, h139, X139, e139, W139, st139⟩ := stC X134 hx hZ e134 Ar139 (j := (3 : Int32)) (inb_of Sa139 ⟨by decide, by decide⟩) (g := (mkF m 139 #[.val (.int p0), .val (.int p1)] [(.int (101 : Int32)), (.int (3 : Int32)), (.ref b118), (.ref b118)])) rfl rfl (hb hby d12_139)
    have V139 : Arv Z h139 b118 kc118 .char (19 : Int32) [(.int (99 : Int32)), (.int (108 : Int32)), (.int (105 : Int32)), (.int (101 : Int32)), (.int (0 : Int32)), (.int (0 : Int32)), (.int (0 : Int32)), (.int (0 : Int32)), (.int (0 : Int32)), (.int (0 : Int32)), (.int (0 : Int32)), (.int (0 : Int32)), (.int (0 : Int32)), (.int (0 : Int32)), (.int (0 : Int32)), (.int (0 : Int32)), (.int (0 : Int32)), (.int (0 : Int32)), (.int (0 : Int32))] (.int (0 : Int32)) := by
      have q := Arv.set Ar139 qa139 Sa139 Na139 Ha139 Ga139 (fits_nar_char _) W139 3 rfl (Nat.le_of_ble_eq_true rfl)
      exact q
    have K139 : Keep h0 h139 [] := K134.wr W139 (Or.inr sz_b118)
    have Z139 : n0 ≤ h139.size := Nat.le_trans Z134 (Keep.of_wr W139).1
    have N139 := Fr.snoc X139 N134 g_b118
    refine own_by st139 ?_
    have sg144 : ∀ t, own_S p e below T139 (mkF m 144 #[.val (.int p0), .val (.int p1)] [(.int (110 : Int32)), (.int (4 : Int32)), (.ref b118), (.ref b118)]) t → own_S p e below T139 (mkF m 140 #[.val (.int p0), .val (.int p1)] [(.ref b118)]) t := by
      intro t k
      show own_S p e below T139 (mkF m 140 #[.val (.int p0), .val (.int p1)] [(.ref b118)]) _
      refine XS.dup X139.here hx rfl (hb hby d12_140) rfl rfl ?_
      show own_S p e below T139 (mkF m 141 #[.val (.int p0), .val (.int p1)] [(.ref b118), (.ref b118)]) _
      refine XS.iconst X139.here hx rfl (hb hby d12_141) ?_
      show own_S p e below T139 (mkF m 142 #[.val (.int p0), .val (.int p1)] [(.int (4 : Int32)), (.ref b118), (.ref b118)]) _
      refine XS.bipush X139.here hx rfl (hb hby d12_142) ?_
      exact k
    refine own_by sg144 ?_
    obtain ⟨cl144, Ar144, qa144, Sa144, Na144, Ha144, Ga144⟩ := id V139
    obtain ⟨T144, h144, X144, e144, W144, st144⟩ := stC X139 hx hZ e139 Ar144 (j := (4 : Int32)) (inb_of Sa144 ⟨by decide, by decide⟩) (g := (mkF m 144 #[.val (.int p0), .val (.int p1)] [(.int (110 : Int32)), (.int (4 : Int32)), (.ref b118), (.ref b118)])) rfl rfl (hb hby d12_144)
    have V144 : Arv Z h144 b118 kc118 .char (19 : Int32) [(.int (99 : Int32)), (.int (108 : Int32)), (.int (105 : Int32)), (.int (101 : Int32)), (.int (110 : Int32)), (.int (0 : Int32)), (.int (0 : Int32)), (.int (0 : Int32)), (.int (0 : Int32)), (.int (0 : Int32)), (.int (0 : Int32)), (.int (0 : Int32)), (.int (0 : Int32)), (.int (0 : Int32)), (.int (0 : Int32)), (.int (0 : Int32)), (.int (0 : Int32)), (.int (0 : Int32)), (.int (0 : Int32))] (.int (0 : Int32)) := by
      have q := Arv.set Ar144 qa144 Sa144 Na144 Ha144 Ga144 (fits_nar_char _) W144 4 rfl (Nat.le_of_ble_eq_true rfl)
      exact q
    have K144 : Keep h0 h144 [] := K139.wr W144 (Or.inr sz_b118)
    have Z144 : n0 ≤ h144.size := Nat.le_trans Z139 (Keep.of_wr W144).1
    have N144 := Fr.snoc X144 N139 g_b118
    refine own_by st144 ?_
    have sg149 : ∀ t, own_S p e below T144 (mkF m 149 #[.val (.int p0), .val (.int p1)] [(.int (116 : Int32)), (.int (5 : Int32)), (.ref b118), (.ref b118)]) t → own_S p e below T144 (mkF m 145 #[.val (.int p0), .val (.int p1)] [(.ref b118)]) t := by
      intro t k
      show own_S p e below T144 (mkF m 145 #[.val (.int p0), .val (.int p1)] [(.ref b118)]) _
      refine XS.dup X144.here hx rfl (hb hby d12_145) rfl rfl ?_
      show own_S p e below T144 (mkF m 146 #[.val (.int p0), .val (.int p1)] [(.ref b118), (.ref b118)]) _
      refine XS.iconst X144.here hx rfl (hb hby d12_146) ?_
      show own_S p e below T144 (mkF m 147 #[.val (.int p0), .val (.int p1)] [(.int (5 : Int32)), (.ref b118), (.ref b118)]) _
      refine XS.bipush X144.here hx rfl (hb hby d12_147) ?_
      exact k
    refine own_by sg149 ?_
    obtain ⟨cl149, Ar149, qa149, Sa149, Na149, Ha149, Ga149⟩ := id V144
    obtain ⟨T149, h149, X149, e149, W149, st149⟩ := stC X144 hx hZ e144 Ar149 (j := (5 : Int32)) (inb_of Sa149 ⟨by decide, by decide⟩) (g := (mkF m 149 #[.val (.int p0), .val (.int p1)] [(.int (116 : Int32)), (.int (5 : Int32)), (.ref b118), (.ref b118)])) rfl rfl (hb hby d12_149)
    have V149 : Arv Z h149 b118 kc118 .char (19 : Int32) [(.int (99 : Int32)), (.int (108 : Int32)), (.int (105 : Int32)), (.int (101 : Int32)), (.int (110 : Int32)), (.int (116 : Int32)), (.int (0 : Int32)), (.int (0 : Int32)), (.int (0 : Int32)), (.int (0 : Int32)), (.int (0 : Int32)), (.int (0 : Int32)), (.int (0 : Int32)), (.int (0 : Int32)), (.int (0 : Int32)), (.int (0 : Int32)), (.int (0 : Int32)), (.int (0 : Int32)), (.int (0 : Int32))] (.int (0 : Int32)) := by
      have q := Arv.set Ar149 qa149 Sa149 Na149 Ha149 Ga149 (fits_nar_char _) W149 5 rfl (Nat.le_of_ble_eq_true rfl)
      exact q
    have K149 : Keep h0 h149 [] := K144.wr W149 (Or.inr sz_b118)
    have Z149 : n0 ≤ h149.size := Nat.le_trans Z144 (Keep.of_wr W149).1
    have N149 := Fr.snoc X149 N144 g_b118
    refine own_by st149 ?_
    have sg155 : ∀ t, own_S p e below T149 (mkF m 155 #[.val (.int p0), .val (.int p1)] [(.int (95 : Int32)), (.int (6 : Int32)), (.ref b118), (.ref b118)]) t → own_S p e below T149 (mkF m 150 #[.val (.int p0), .val (.int p1)] [(.ref b118)]) t := by
      intro t k
      show own_S p e below T149 (mkF m 150 #[.val (.int p0), .val (.int p1)] [(.ref b118)]) _
      refine XS.dup X149.here hx rfl (hb hby d12_150) rfl rfl ?_
      show own_S p e below T149 (mkF m 151 #[.val (.int p0), .val (.int p1)] [(.ref b118), (.ref b118)]) _
      refine XS.bipush X149.here hx rfl (hb hby d12_151) ?_
      show own_S p e below T149 (mkF m 153 #[.val (.int p0), .val (.int p1)] [(.int (6 : Int32)), (.ref b118), (.ref b118)]) _
      refine XS.bipush X149.here hx rfl (hb hby d12_153) ?_
      exact k
    refine own_by sg155 ?_
    obtain ⟨cl155, Ar155, qa155, Sa155, Na155, Ha155, Ga155⟩ := id V149
    obtain ⟨T155, h155, X155, e155, W155, st155⟩ := stC X149 hx hZ e149 Ar155 (j := (6 : Int32)) (inb_of Sa155 ⟨by decide, by decide⟩) (g := (mkF m 155 #[.val (.int p0), .val (.int p1)] [(.int (95 : Int32)), (.int (6 : Int32)), (.ref b118), (.ref b118)])) rfl rfl (hb hby d12_155)
    have V155 : Arv Z h155 b118 kc118 .char (19 : Int32) [(.int (99 : Int32)), (.int (108 : Int32)), (.int (105 : Int32)), (.int (101 : Int32)), (.int (110 : Int32)), (.int (116 : Int32)), (.int (95 : Int32)), (.int (0 : Int32)), (.int (0 : Int32)), (.int (0 : Int32)), (.int (0 : Int32)), (.int (0 : Int32)), (.int (0 : Int32)), (.int (0 : Int32)), (.int (0 : Int32)), (.int (0 : Int32)), (.int (0 : Int32)), (.int (0 : Int32)), (.int (0 : Int32))] (.int (0 : Int32)) := by
      have q := Arv.set Ar155 qa155 Sa155 Na155 Ha155 Ga155 (fits_nar_char _) W155 6 rfl (Nat.le_of_ble_eq_true rfl)
      exact q
    have K155 : Keep h0 h155 [] := K149.wr W155 (Or.inr sz_b118)
    have Z155 : n0 ≤ h155.size := Nat.le_trans Z149 (Keep.of_wr W155).1
    have N155 := Fr.snoc X155 N149 g_b118
    refine own_by st155 ?_
    have sg161 : ∀ t, own_S p e below T155 (mkF m 161 #[.val (.int p0), .val (.int p1)] [(.int (99 : Int32)), (.int (7 : Int32)), (.ref b118), (.ref b118)]) t → own_S p e below T155 (mkF m 156 #[.val (.int p0), .val (.int p1)] [(.ref b118)]) t := by
      intro t k
      show own_S p e below T155 (mkF m 156 #[.val (.int p0), .val (.int p1)] [(.ref b118)]) _
      refine XS.dup X155.here hx rfl (hb hby d12_156) rfl rfl ?_
      show own_S p e below T155 (mkF m 157 #[.val (.int p0), .val (.int p1)] [(.ref b118), (.ref b118)]) _
      refine XS.bipush X155.here hx rfl (hb hby d12_157) ?_
      show own_S p e below T155 (mkF m 159 #[.val (.int p0), .val (.int p1)] [(.int (7 : Int32)), (.ref b118), (.ref b118)]) _
      refine XS.bipush X155.here hx rfl (hb hby d12_159) ?_
      exact k
    refine own_by sg161 ?_
    obtain ⟨cl161, Ar161, qa161, Sa161, Na161, Ha161, Ga161⟩ := id V155
    obtain ⟨T161, h161, X161, e161, W161, st161⟩ := stC X155 hx hZ e155 Ar161 (j := (7 : Int32)) (inb_of Sa161 ⟨by decide, by decide⟩) (g := (mkF m 161 #[.val (.int p0), .val (.int p1)] [(.int (99 : Int32)), (.int (7 : Int32)), (.ref b118), (.ref b118)])) rfl rfl (hb hby d12_161)
    have V161 : Arv Z h161 b118 kc118 .char (19 : Int32) [(.int (99 : Int32)), (.int (108 : Int32)), (.int (105 : Int32)), (.int (101 : Int32)), (.int (110 : Int32)), (.int (116 : Int32)), (.int (95 : Int32)), (.int (99 : Int32)), (.int (0 : Int32)), (.int (0 : Int32)), (.int (0 : Int32)), (.int (0 : Int32)), (.int (0 : Int32)), (.int (0 : Int32)), (.int (0 : Int32)), (.int (0 : Int32)), (.int (0 : Int32)), (.int (0 : Int32)), (.int (0 : Int32))] (.int (0 : Int32)) := by
      have q := Arv.set Ar161 qa161 Sa161 Na161 Ha161 Ga161 (fits_nar_char _) W161 7 rfl (Nat.le_of_ble_eq_true rfl)
      exact q
    have K161 : Keep h0 h161 [] := K155.wr W161 (Or.inr sz_b118)
    have Z161 : n0 ≤ h161.size := Nat.le_trans Z155 (Keep.of_wr W161).1
    have N161 := Fr.snoc X161 N155 g_b118
    refine own_by st161 ?_
    have sg167 : ∀ t, own_S p e below T161 (mkF m 167 #[.val (.int p0), .val (.int p1)] [(.int (114 : Int32)), (.int (8 : Int32)), (.ref b118), (.ref b118)]) t → own_S p e below T161 (mkF m 162 #[.val (.int p0), .val (.int p1)] [(.ref b118)]) t := by
      intro t k
      show own_S p e below T161 (mkF m 162 #[.val (.int p0), .val (.int p1)] [(.ref b118)]) _
      refine XS.dup X161.here hx rfl (hb hby d12_162) rfl rfl ?_
      show own_S p e below T161 (mkF m 163 #[.val (.int p0), .val (.int p1)] [(.ref b118), (.ref b118)]) _
      refine XS.bipush X161.here hx rfl (hb hby d12_163) ?_
      show own_S p e below T161 (mkF m 165 #[.val (.int p0), .val (.int p1)] [(.int (8 : Int32)), (.ref b118), (.ref b118)]) _
      refine XS.bipush X161.here hx rfl (hb hby d12_165) ?_
      exact k
    refine own_by sg167 ?_
    obtain ⟨cl167, Ar167, qa167, Sa167, Na167, Ha167, Ga167⟩ := id V161
    obtain ⟨T167, h167, X167, e167, W167, st167⟩ := stC X161 hx hZ e161 Ar167 (j := (8 : Int32)) (inb_of Sa167 ⟨by decide, by decide⟩) (g := (mkF m 167 #[.val (.int p0), .val (.int p1)] [(.int (114 : Int32)), (.int (8 : Int32)), (.ref b118), (.ref b118)])) rfl rfl (hb hby d12_167)
    have V167 : Arv Z h167 b118 kc118 .char (19 : Int32) [(.int (99 : Int32)), (.int (108 : Int32)), (.int (105 : Int32)), (.int (101 : Int32)), (.int (110 : Int32)), (.int (116 : Int32)), (.int (95 : Int32)), (.int (99 : Int32)), (.int (114 : Int32)), (.int (0 : Int32)), (.int (0 : Int32)), (.int (0 : Int32)), (.int (0 : Int32)), (.int (0 : Int32)), (.int (0 : Int32)), (.int (0 : Int32)), (.int (0 : Int32)), (.int (0 : Int32)), (.int (0 : Int32))] (.int (0 : Int32)) := by
      have q := Arv.set Ar167 qa167 Sa167 Na167 Ha167 Ga167 (fits_nar_char _) W167 8 rfl (Nat.le_of_ble_eq_true rfl)
      exact q
    have K167 : Keep h0 h167 [] := K161.wr W167 (Or.inr sz_b118)
    have Z167 : n0 ≤ h167.size := Nat.le_trans Z161 (Keep.of_wr W167).1
    have N167 := Fr.snoc X167 N161 g_b118
    refine own_by st167 ?_
    have sg173 : ∀ t, own_S p e below T167 (mkF m 173 #[.val (.int p0), .val (.int p1)] [(.int (101 : Int32)), (.int (9 : Int32)), (.ref b118), (.ref b118)]) t → own_S p e below T167 (mkF m 168 #[.val (.int p0), .val (.int p1)] [(.ref b118)]) t := by
      intro t k
      show own_S p e below T167 (mkF m 168 #[.val (.int p0), .val (.int p1)] [(.ref b118)]) _
      refine XS.dup X167.here hx rfl (hb hby d12_168) rfl rfl ?_
      show own_S p e below T167 (mkF m 169 #[.val (.int p0), .val (.int p1)] [(.ref b118), (.ref b118)]) _
      refine XS.bipush X167.here hx rfl (hb hby d12_169) ?_
      show own_S p e below T167 (mkF m 171 #[.val (.int p0), .val (.int p1)] [(.int (9 : Int32)), (.ref b118), (.ref b118)]) _
      refine XS.bipush X167.here hx rfl (hb hby d12_171) ?_
      exact k
    refine own_by sg173 ?_
    obtain ⟨cl173, Ar173, qa173, Sa173, Na173, Ha173, Ga173⟩ := id V167
    obtain ⟨T173, h173, X173, e173, W173, st173⟩ := stC X167 hx hZ e167 Ar173 (j := (9 : Int32)) (inb_of Sa173 ⟨by decide, by decide⟩) (g := (mkF m 173 #[.val (.int p0), .val (.int p1)] [(.int (101 : Int32)), (.int (9 : Int32)), (.ref b118), (.ref b118)])) rfl rfl (hb hby d12_173)
    have V173 : Arv Z h173 b118 kc118 .char (19 : Int32) [(.int (99 : Int32)), (.int (108 : Int32)), (.int (105 : Int32)), (.int (101 : Int32)), (.int (110 : Int32)), (.int (116 : Int32)), (.int (95 : Int32)), (.int (99 : Int32)), (.int (114 : Int32)), (.int (101 : Int32)), (.int (0 : Int32)), (.int (0 : Int32)), (.int (0 : Int32)), (.int (0 : Int32)), (.int (0 : Int32)), (.int (0 : Int32)), (.int (0 : Int32)), (.int (0 : Int32)), (.int (0 : Int32))] (.int (0 : Int32)) := by
      have q := Arv.set Ar173 qa173 Sa173 Na173 Ha173 Ga173 (fits_nar_char _) W173 9 rfl (Nat.le_of_ble_eq_true rfl)
      exact q
    have K173 : Keep h0 h173 [] := K167.wr W173 (Or.inr sz_b118)
    have Z173 : n0 ≤ h173.size := Nat.le_trans Z167 (Keep.of_wr W173).1
    have N173 := Fr.snoc X173 N167 g_b118
    refine own_by st173 ?_
    have sg179 : ∀ t, own_S p e below T173 (mkF m 179 #[.val (.int p0), .val (.int p1)] [(.int (100 : Int32)), (.int (10 : Int32)), (.ref b118), (.ref b118)]) t → own_S p e below T173 (mkF m 174 #[.val (.int p0), .val (.int p1)] [(.ref b118)]) t := by
      intro t k
      show own_S p e below T173 (mkF m 174 #[.val (.int p0), .val (.int p1)] [(.ref b118)]) _
      refine XS.dup X173.here hx rfl (hb hby d12_174) rfl rfl ?_
      show own_S p e below T173 (mkF m 175 #[.val (.int p0), .val (.int p1)] [(.ref b118), (.ref b118)]) _
      refine XS.bipush X173.here hx rfl (hb hby d12_175) ?_
      show own_S p e below T173 (mkF m 177 #[.val (.int p0), .val (.int p1)] [(.int (10 : Int32)), (.ref b118), (.ref b118)]) _
      refine XS.bipush X173.here hx rfl (hb hby d12_177) ?_
      exact k
    refine own_by sg179 ?_
    obtain ⟨cl179, Ar179, qa179, Sa179, Na179, Ha179, Ga179⟩ := id V173
    obtain ⟨T179, h179, X179, e179, W179, st179⟩ := stC X173 hx hZ e173 Ar179 (j := (10 : Int32)) (inb_of Sa179 ⟨by decide, by decide⟩) (g := (mkF m 179 #[.val (.int p0), .val (.int p1)] [(.int (100 : Int32)), (.int (10 : Int32)), (.ref b118), (.ref b118)])) rfl rfl (hb hby d12_179)
    have V179 : Arv Z h179 b118 kc118 .char (19 : Int32) [(.int (99 : Int32)), (.int (108 : Int32)), (.int (105 : Int32)), (.int (101 : Int32)), (.int (110 : Int32)), (.int (116 : Int32)), (.int (95 : Int32)), (.int (99 : Int32)), (.int (114 : Int32)), (.int (101 : Int32)), (.int (100 : Int32)), (.int (0 : Int32)), (.int (0 : Int32)), (.int (0 : Int32)), (.int (0 : Int32)), (.int (0 : Int32)), (.int (0 : Int32)), (.int (0 : Int32)), (.int (0 : Int32))] (.int (0 : Int32)) := by
      have q := Arv.set Ar179 qa179 Sa179 Na179 Ha179 Ga179 (fits_nar_char _) W179 10 rfl (Nat.le_of_ble_eq_true rfl)
      exact q
    have K179 : Keep h0 h179 [] := K173.wr W179 (Or.inr sz_b118)
    have Z179 : n0 ≤ h179.size := Nat.le_trans Z173 (Keep.of_wr W179).1
    have N179 := Fr.snoc X179 N173 g_b118
    refine own_by st179 ?_
    have sg185 : ∀ t, own_S p e below T179 (mkF m 185 #[.val (.int p0), .val (.int p1)] [(.int (101 : Int32)), (.int (11 : Int32)), (.ref b118), (.ref b118)]) t → own_S p e below T179 (mkF m 180 #[.val (.int p0), .val (.int p1)] [(.ref b118)]) t := by
      intro t k
      show own_S p e below T179 (mkF m 180 #[.val (.int p0), .val (.int p1)] [(.ref b118)]) _
      refine XS.dup X179.here hx rfl (hb hby d12_180) rfl rfl ?_
      show own_S p e below T179 (mkF m 181 #[.val (.int p0), .val (.int p1)] [(.ref b118), (.ref b118)]) _
      refine XS.bipush X179.here hx rfl (hb hby d12_181) ?_
      show own_S p e below T179 (mkF m 183 #[.val (.int p0), .val (.int p1)] [(.int (11 : Int32)), (.ref b118), (.ref b118)]) _
      refine XS.bipush X179.here hx rfl (hb hby d12_183) ?_
      exact k
    refine own_by sg185 ?_
    obtain ⟨cl185, Ar185, qa185, Sa185, Na185, Ha185, Ga185⟩ := id V179
    obtain ⟨T185, h185, X185, e185, W185, st185⟩ := stC X179 hx hZ e179 Ar185 (j := (11 : Int32)) (inb_of Sa185 ⟨by decide, by decide⟩) (g := (mkF m 185 #[.val (.int p0), .val (.int p1)] [(.int (101 : Int32)), (.int (11 : Int32)), (.ref b118), (.ref b118)])) rfl rfl (hb hby d12_185)
    have V185 : Arv Z h185 b118 kc118 .char (19 : Int32) [(.int (99 : Int32)), (.int (108 : Int32)), (.int (105 : Int32)), (.int (101 : Int32)), (.int (110 : Int32)), (.int (116 : Int32)), (.int (95 : Int32)), (.int (99 : Int32)), (.int (114 : Int32)), (.int (101 : Int32)), (.int (100 : Int32)), (.int (101 : Int32)), (.int (0 : Int32)), (.int (0 : Int32)), (.int (0 : Int32)), (.int (0 : Int32)), (.int (0 : Int32)), (.int (0 : Int32)), (.int (0 : Int32))] (.int (0 : Int32)) := by
      have q := Arv.set Ar185 qa185 Sa185 Na185 Ha185 Ga185 (fits_nar_char _) W185 11 rfl (Nat.le_of_ble_eq_true rfl)
      exact q
    have K185 : Keep h0 h185 [] := K179.wr W185 (Or.inr sz_b118)
    have Z185 : n0 ≤ h185.size := Nat.le_trans Z179 (Keep.of_wr W185).1
    have N185 := Fr.snoc X185 N179 g_b118
    refine own_by st185 ?_
    have sg191 : ∀ t, own_S p e below T185 (mkF m 191 #[.val (.int p0), .val (.int p1)] [(.int (110 : Int32)), (.int (12 : Int32)), (.ref b118), (.ref b118)]) t → own_S p e below T185 (mkF m 186 #[.val (.int p0), .val (.int p1)] [(.ref b118)]) t := by
      intro t k
      show own_S p e below T185 (mkF m 186 #[.val (.int p0), .val (.int p1)] [(.ref b118)]) _
      refine XS.dup X185.here hx rfl (hb hby d12_186) rfl rfl ?_
      show own_S p e below T185 (mkF m 187 #[.val (.int p0), .val (.int p1)] [(.ref b118), (.ref b118)]) _
      refine XS.bipush X185.here hx rfl (hb hby d12_187) ?_
      show own_S p e below T185 (mkF m 189 #[.val (.int p0), .val (.int p1)] [(.int (12 : Int32)), (.ref b118), (.ref b118)]) _
      refine XS.bipush X185.here hx rfl (hb hby d12_189) ?_
      exact k
    refine own_by sg191 ?_
    obtain ⟨cl191, Ar191, qa191, Sa191, Na191, Ha191, Ga191⟩ := id V185
    obtain ⟨T191, h191, X191, e191, W191, st191⟩ := stC X185 hx hZ e185 Ar191 (j := (12 : Int32)) (inb_of Sa191 ⟨by decide, by decide⟩) (g := (mkF m 191 #[.val (.int p0), .val (.int p1)] [(.int (110 : Int32)), (.int (12 : Int32)), (.ref b118), (.ref b118)])) rfl rfl (hb hby d12_191)
    have V191 : Arv Z h191 b118 kc118 .char (19 : Int32) [(.int (99 : Int32)), (.int (108 : Int32)), (.int (105 : Int32)), (.int (101 : Int32)), (.int (110 : Int32)), (.int (116 : Int32)), (.int (95 : Int32)), (.int (99 : Int32)), (.int (114 : Int32)), (.int (101 : Int32)), (.int (100 : Int32)), (.int (101 : Int32)), (.int (110 : Int32)), (.int (0 : Int32)), (.int (0 : Int32)), (.int (0 : Int32)), (.int (0 : Int32)), (.int (0 : Int32)), (.int (0 : Int32))] (.int (0 : Int32)) := by
      have q := Arv.set Ar191 qa191 Sa191 Na191 Ha191 Ga191 (fits_nar_char _) W191 12 rfl (Nat.le_of_ble_eq_true rfl)
      exact q
    have K191 : Keep h0 h191 [] := K185.wr W191 (Or.inr sz_b118)
    have Z191 : n0 ≤ h191.size := Nat.le_trans Z185 (Keep.of_wr W191).1
    have N191 := Fr.snoc X191 N185 g_b118
    refine own_by st191 ?_
    have sg197 : ∀ t, own_S p e below T191 (mkF m 197 #[.val (.int p0), .val (.int p1)] [(.int (116 : Int32)), (.int (13 : Int32)), (.ref b118), (.ref b118)]) t → own_S p e below T191 (mkF m 192 #[.val (.int p0), .val (.int p1)] [(.ref b118)]) t := by
      intro t k
      show own_S p e below T191 (mkF m 192 #[.val (.int p0), .val (.int p1)] [(.ref b118)]) _
      refine XS.dup X191.here hx rfl (hb hby d12_192) rfl rfl ?_
      show own_S p e below T191 (mkF m 193 #[.val (.int p0), .val (.int p1)] [(.ref b118), (.ref b118)]) _
      refine XS.bipush X191.here hx rfl (hb hby d12_193) ?_
      show own_S p e below T191 (mkF m 195 #[.val (.int p0), .val (.int p1)] [(.int (13 : Int32)), (.ref b118), (.ref b118)]) _
      refine XS.bipush X191.here hx rfl (hb hby d12_195) ?_
      exact k
    refine own_by sg197 ?_
    obtain ⟨cl197, Ar197, qa197, Sa197, Na197, Ha197, Ga197⟩ := id V191
    obtain ⟨T197, h197, X197, e197, W197, st197⟩ := stC X191 hx hZ e191 Ar197 (j := (13 : Int32)) (inb_of Sa197 ⟨by decide, by decide⟩) (g := (mkF m 197 #[.val (.int p0), .val (.int p1)] [(.int (116 : Int32)), (.int (13 : Int32)), (.ref b118), (.ref b118)])) rfl rfl (hb hby d12_197)
    have V197 : Arv Z h197 b118 kc118 .char (19 : Int32) [(.int (99 : Int32)), (.int (108 : Int32)), (.int (105 : Int32)), (.int (101 : Int32)), (.int (110 : Int32)), (.int (116 : Int32)), (.int (95 : Int32)), (.int (99 : Int32)), (.int (114 : Int32)), (.int (101 : Int32)), (.int (100 : Int32)), (.int (101 : Int32)), (.int (110 : Int32)), (.int (116 : Int32)), (.int (0 : Int32)), (.int (0 : Int32)), (.int (0 : Int32)), (.int (0 : Int32)), (.int (0 : Int32))] (.int (0 : Int32)) := by
      have q := Arv.set Ar197 qa197 Sa197 Na197 Ha197 Ga197 (fits_nar_char _) W197 13 rfl (Nat.le_of_ble_eq_true rfl)
      exact q
    have K197 : Keep h0 h197 [] := K191.wr W197 (Or.inr sz_b118)
    have Z197 : n0 ≤ h197.size := Nat.le_trans Z191 (Keep.of_wr W197).1
    have N197 := Fr.snoc X197 N191 g_b118
    refine own_by st197 ?_
    have sg203 : ∀ t, own_S p e below T197 (mkF m 203 #[.val (.int p0), .val (.int p1)] [(.int (105 : Int32)), (.int (14 : Int32)), (.ref b118), (.ref b118)]) t → own_S p e below T197 (mkF m 198 #[.val (.int p0), .val (.int p1)] [(.ref b118)]) t := by
      intro t k
      show own_S p e below T197 (mkF m 198 #[.val (.int p0), .val (.int p1)] [(.ref b118)]) _
      refine XS.dup X197.here hx rfl (hb hby d12_198) rfl rfl ?_
      show own_S p e below T197 (mkF m 199 #[.val (.int p0), .val (.int p1)] [(.ref b118), (.ref b118)]) _
      refine XS.bipush X197.here hx rfl (hb hby d12_199) ?_
      show own_S p e below T197 (mkF m 201 #[.val (.int p0), .val (.int p1)] [(.int (14 : Int32)), (.ref b118), (.ref b118)]) _
      refine XS.bipush X197.here hx rfl (hb hby d12_201) ?_
      exact k
    refine own_by sg203 ?_
    obtain ⟨cl203, Ar203, qa203, Sa203, Na203, Ha203, Ga203⟩ := id V197
    obtain ⟨T203, h203, X203, e203, W203, st203⟩ := stC X197 hx hZ e197 Ar203 (j := (14 : Int32)) (inb_of Sa203 ⟨by decide, by decide⟩) (g := (mkF m 203 #[.val (.int p0), .val (.int p1)] [(.int (105 : Int32)), (.int (14 : Int32)), (.ref b118), (.ref b118)])) rfl rfl (hb hby d12_203)
    have V203 : Arv Z h203 b118 kc118 .char (19 : Int32) [(.int (99 : Int32)), (.int (108 : Int32)), (.int (105 : Int32)), (.int (101 : Int32)), (.int (110 : Int32)), (.int (116 : Int32)), (.int (95 : Int32)), (.int (99 : Int32)), (.int (114 : Int32)), (.int (101 : Int32)), (.int (100 : Int32)), (.int (101 : Int32)), (.int (110 : Int32)), (.int (116 : Int32)), (.int (105 : Int32)), (.int (0 : Int32)), (.int (0 : Int32)), (.int (0 : Int32)), (.int (0 : Int32))] (.int (0 : Int32)) := by
      have q := Arv.set Ar203 qa203 Sa203 Na203 Ha203 Ga203 (fits_nar_char _) W203 14 rfl (Nat.le_of_ble_eq_true rfl)
      exact q
    have K203 : Keep h0 h203 [] := K197.wr W203 (Or.inr sz_b118)
    have Z203 : n0 ≤ h203.size := Nat.le_trans Z197 (Keep.of_wr W203).1
    have N203 := Fr.snoc X203 N197 g_b118
    refine own_by st203 ?_
    have sg209 : ∀ t, own_S p e below T203 (mkF m 209 #[.val (.int p0), .val (.int p1)] [(.int (97 : Int32)), (.int (15 : Int32)), (.ref b118), (.ref b118)]) t → own_S p e below T203 (mkF m 204 #[.val (.int p0), .val (.int p1)] [(.ref b118)]) t := by
      intro t k
      show own_S p e below T203 (mkF m 204 #[.val (.int p0), .val (.int p1)] [(.ref b118)]) _
      refine XS.dup X203.here hx rfl (hb hby d12_204) rfl rfl ?_
      show own_S p e below T203 (mkF m 205 #[.val (.int p0), .val (.int p1)] [(.ref b118), (.ref b118)]) _
      refine XS.bipush X203.here hx rfl (hb hby d12_205) ?_
      show own_S p e below T203 (mkF m 207 #[.val (.int p0), .val (.int p1)] [(.int (15 : Int32)), (.ref b118), (.ref b118)]) _
      refine XS.bipush X203.here hx rfl (hb hby d12_207) ?_
      exact k
    refine own_by sg209 ?_
    obtain ⟨cl209, Ar209, qa209, Sa209, Na209, Ha209, Ga209⟩ := id V203
    obtain ⟨T209, h209, X209, e209, W209, st209⟩ := stC X203 hx hZ e203 Ar209 (j := (15 : Int32)) (inb_of Sa209 ⟨by decide, by decide⟩) (g := (mkF m 209 #[.val (.int p0), .val (.int p1)] [(.int (97 : Int32)), (.int (15 : Int32)), (.ref b118), (.ref b118)])) rfl rfl (hb hby d12_209)
    have V209 : Arv Z h209 b118 kc118 .char (19 : Int32) [(.int (99 : Int32)), (.int (108 : Int32)), (.int (105 : Int32)), (.int (101 : Int32)), (.int (110 : Int32)), (.int (116 : Int32)), (.int (95 : Int32)), (.int (99 : Int32)), (.int (114 : Int32)), (.int (101 : Int32)), (.int (100 : Int32)), (.int (101 : Int32)), (.int (110 : Int32)), (.int (116 : Int32)), (.int (105 : Int32)), (.int (97 : Int32)), (.int (0 : Int32)), (.int (0 : Int32)), (.int (0 : Int32))] (.int (0 : Int32)) := by
      have q := Arv.set Ar209 qa209 Sa209 Na209 Ha209 Ga209 (fits_nar_char _) W209 15 rfl (Nat.le_of_ble_eq_true rfl)
      exact q
    have K209 : Keep h0 h209 [] := K203.wr W209 (Or.inr sz_b118)
    have Z209 : n0 ≤ h209.size := Nat.le_trans Z203 (Keep.of_wr W209).1
    have N209 := Fr.snoc X209 N203 g_b118
    refine own_by st209 ?_
    have sg215 : ∀ t, own_S p e below T209 (mkF m 215 #[.val (.int p0), .val (.int p1)] [(.int (108 : Int32)), (.int (16 : Int32)), (.ref b118), (.ref b118)]) t → own_S p e below T209 (mkF m 210 #[.val (.int p0), .val (.int p1)] [(.ref b118)]) t := by
      intro t k
      show own_S p e below T209 (mkF m 210 #[.val (.int p0), .val (.int p1)] [(.ref b118)]) _
      refine XS.dup X209.here hx rfl (hb hby d12_210) rfl rfl ?_
      show own_S p e below T209 (mkF m 211 #[.val (.int p0), .val (.int p1)] [(.ref b118), (.ref b118)]) _
      refine XS.bipush X209.here hx rfl (hb hby d12_211) ?_
      show own_S p e below T209 (mkF m 213 #[.val (.int p0), .val (.int p1)] [(.int (16 : Int32)), (.ref b118), (.ref b118)]) _
      refine XS.bipush X209.here hx rfl (hb hby d12_213) ?_
      exact k
    refine own_by sg215 ?_
    obtain ⟨cl215, Ar215, qa215, Sa215, Na215, Ha215, Ga215⟩ := id V209
    obtain ⟨T215, h215, X215, e215, W215, st215⟩ := stC X209 hx hZ e209 Ar215 (j := (16 : Int32)) (inb_of Sa215 ⟨by decide, by decide⟩) (g := (mkF m 215 #[.val (.int p0), .val (.int p1)] [(.int (108 : Int32)), (.int (16 : Int32)), (.ref b118), (.ref b118)])) rfl rfl (hb hby d12_215)
    have V215 : Arv Z h215 b118 kc118 .char (19 : Int32) [(.int (99 : Int32)), (.int (108 : Int32)), (.int (105 : Int32)), (.int (101 : Int32)), (.int (110 : Int32)), (.int (116 : Int32)), (.int (95 : Int32)), (.int (99 : Int32)), (.int (114 : Int32)), (.int (101 : Int32)), (.int (100 : Int32)), (.int (101 : Int32)), (.int (110 : Int32)), (.int (116 : Int32)), (.int (105 : Int32)), (.int (97 : Int32)), (.int (108 : Int32)), (.int (0 : Int32)), (.int (0 : Int32))] (.int (0 : Int32)) := by
      have q := Arv.set Ar215 qa215 Sa215 Na215 Ha215 Ga215 (fits_nar_char _) W215 16 rfl (Nat.le_of_ble_eq_true rfl)
      exact q
    have K215 : Keep h0 h215 [] := K209.wr W215 (Or.inr sz_b118)
    have Z215 : n0 ≤ h215.size := Nat.le_trans Z209 (Keep.of_wr W215).1
    have N215 := Fr.snoc X215 N209 g_b118
    refine own_by st215 ?_
    have sg221 : ∀ t, own_S p e below T215 (mkF m 221 #[.val (.int p0), .val (.int p1)] [(.int (115 : Int32)), (.int (17 : Int32)), (.ref b118), (.ref b118)]) t → own_S p e below T215 (mkF m 216 #[.val (.int p0), .val (.int p1)] [(.ref b118)]) t := by
      intro t k
      show own_S p e below T215 (mkF m 216 #[.val (.int p0), .val (.int p1)] [(.ref b118)]) _
      refine XS.dup X215.here hx rfl (hb hby d12_216) rfl rfl ?_
      show own_S p e below T215 (mkF m 217 #[.val (.int p0), .val (.int p1)] [(.ref b118), (.ref b118)]) _
      refine XS.bipush X215.here hx rfl (hb hby d12_217) ?_
      show own_S p e below T215 (mkF m 219 #[.val (.int p0), .val (.int p1)] [(.int (17 : Int32)), (.ref b118), (.ref b118)]) _
      refine XS.bipush X215.here hx rfl (hb hby d12_219) ?_
      exact k
    refine own_by sg221 ?_
    obtain ⟨cl221, Ar221, qa221, Sa221, Na221, Ha221, Ga221⟩ := id V215
    obtain ⟨T221, h221, X221, e221, W221, st221⟩ := stC X215 hx hZ e215 Ar221 (j := (17 : Int32)) (inb_of Sa221 ⟨by decide, by decide⟩) (g := (mkF m 221 #[.val (.int p0), .val (.int p1)] [(.int (115 : Int32)), (.int (17 : Int32)), (.ref b118), (.ref b118)])) rfl rfl (hb hby d12_221)
    have V221 : Arv Z h221 b118 kc118 .char (19 : Int32) [(.int (99 : Int32)), (.int (108 : Int32)), (.int (105 : Int32)), (.int (101 : Int32)), (.int (110 : Int32)), (.int (116 : Int32)), (.int (95 : Int32)), (.int (99 : Int32)), (.int (114 : Int32)), (.int (101 : Int32)), (.int (100 : Int32)), (.int (101 : Int32)), (.int (110 : Int32)), (.int (116 : Int32)), (.int (105 : Int32)), (.int (97 : Int32)), (.int (108 : Int32)), (.int (115 : Int32)), (.int (0 : Int32))] (.int (0 : Int32)) := by
      have q := Arv.set Ar221 qa221 Sa221 Na221 Ha221 Ga221 (fits_nar_char _) W221 17 rfl (Nat.le_of_ble_eq_true rfl)
      exact q
    have K221 : Keep h0 h221 [] := K215.wr W221 (Or.inr sz_b118)
    have Z221 : n0 ≤ h221.size := Nat.le_trans Z215 (Keep.of_wr W221).1
    have N221 := Fr.snoc X221 N215 g_b118
    refine own_by st221 ?_
    have sg226 : ∀ t, own_S p e below T221 (mkF m 226 #[.val (.int p0), .val (.int p1)] [(.int p1), (.int (18 : Int32)), (.ref b118), (.ref b118)]) t → own_S p e below T221 (mkF m 222 #[.val (.int p0), .val (.int p1)] [(.ref b118)]) t := by
      intro t k
      show own_S p e below T221 (mkF m 222 #[.val (.int p0), .val (.int p1)] [(.ref b118)]) _
      refine XS.dup X221.here hx rfl (hb hby d12_222) rfl rfl ?_
      show own_S p e below T221 (mkF m 223 #[.val (.int p0), .val (.int p1)] [(.ref b118), (.ref b118)]) _
      refine XS.bipush X221.here hx rfl (hb hby d12_223) ?_
      show own_S p e below T221 (mkF m 225 #[.val (.int p0), .val (.int p1)] [(.int (18 : Int32)), (.ref b118), (.ref b118)]) _
      refine XS.iloadN X221.here hx rfl (hb hby d12_225) rfl ?_
      exact k
    refine own_by sg226 ?_
    obtain ⟨cl226, Ar226, qa226, Sa226, Na226, Ha226, Ga226⟩ := id V221
    obtain ⟨T226, h226, X226, e226, W226, st226⟩ := stC X221 hx hZ e221 Ar226 (j := (18 : Int32)) (inb_of Sa226 ⟨by decide, by decide⟩) (g := (mkF m 226 #[.val (.int p0), .val (.int p1)] [(.int p1), (.int (18 : Int32)), (.ref b118), (.ref b118)])) rfl rfl (hb hby d12_226)
    have V226 : Arv Z h226 b118 kc118 .char (19 : Int32) [(.int (99 : Int32)), (.int (108 : Int32)), (.int (105 : Int32)), (.int (101 : Int32)), (.int (110 : Int32)), (.int (116 : Int32)), (.int (95 : Int32)), (.int (99 : Int32)), (.int (114 : Int32)), (.int (101 : Int32)), (.int (100 : Int32)), (.int (101 : Int32)), (.int (110 : Int32)), (.int (116 : Int32)), (.int (105 : Int32)), (.int (97 : Int32)), (.int (108 : Int32)), (.int (115 : Int32)), (.int p1)] (.int (0 : Int32)) := by
      have q := Arv.set Ar226 qa226 Sa226 Na226 Ha226 Ga226 (fits_nar_char _) W226 18 rfl (Nat.le_of_ble_eq_true rfl)
      rw [own_narc hk] at q
      exact q
    have K226 : Keep h0 h226 [] := K221.wr W226 (Or.inr sz_b118)
    have Z226 : n0 ≤ h226.size := Nat.le_trans Z221 (Keep.of_wr W226).1
    have N226 := Fr.snoc X226 N221 g_b118
    refine own_by st226 ?_
    obtain ⟨fs, hr, hrun, hended, hW, hsame⟩ := X226.leave (v := some (.ref b118)) (fun h => by rw [Bd.returns] at h; cases h)
    refine ⟨_, _, ?_, hrun, hended, _, _, rfl, ?_, ⟨_, rfl⟩, hW, hsame.mono (by decide) (by decide)⟩
    · show Steps p.tables e below (T226.setTop (mkF m 227 #[.val (.int p0), .val (.int p1)] [(.ref b118)])) _
      jvm_step X226.here [X226.here.top, hx, (hb hby d12_227), X226.method', Bd.returns, Value.isRef, FieldType.isReference]
      first | (intro acts; rw [hr _ acts rfl rfl rfl]) | rw [hr _ _ rfl rfl rfl]
      exact Steps.refl _
    · show Q12 Z p0 p1 h0 n0 _ T226.heap _
      rw [e226]
      exact ⟨_, _, rfl, sz_b118, N226, K226, (by unfold own_n19; rw [if_neg hc1]; exact V226)⟩
theorem d3_0 : decode jdk_42_method_149_code 0 = .ok (.aload_n 0, 1) := by decide +kernel
theorem d3_1 : decode jdk_42_method_149_code 1 = .ok (.invokespecial 1, 3) := by decide +kernel
theorem d3_4 : decode jdk_42_method_149_code 4 = .ok (.iload_n 3, 1) := by decide +kernel
theorem d3_5 : decode jdk_42_method_149_code 5 = .ok (.ifCond .ne 22, 3) := by decide +kernel
theorem d3_8 : decode jdk_42_method_149_code 8 = .ok (.aload_n 0, 1) := by decide +kernel
theorem d3_9 : decode jdk_42_method_149_code 9 = .ok (.ldc 7, 2) := by decide +kernel
theorem d3_11 : decode jdk_42_method_149_code 11 = .ok (.getfield 9, 3) := by decide +kernel
theorem d3_14 : decode jdk_42_method_149_code 14 = .ok (.putfield 9, 3) := by decide +kernel
theorem d3_17 : decode jdk_42_method_149_code 17 = .ok (.aload_n 0, 1) := by decide +kernel
theorem d3_18 : decode jdk_42_method_149_code 18 = .ok (.ldc 7, 2) := by decide +kernel
theorem d3_20 : decode jdk_42_method_149_code 20 = .ok (.getfield 15, 3) := by decide +kernel
theorem d3_23 : decode jdk_42_method_149_code 23 = .ok (.putfield 15, 3) := by decide +kernel
theorem d3_26 : decode jdk_42_method_149_code 26 = .ok (.return_, 1) := by decide +kernel
theorem pn_3e : plainFor (⟨"java/lang/String", "<init>", "([CIILjava/lang/Void;)V"⟩ : MethodName) = true := by first | exact plainFor_of_name (by first | (simp [plainName, overriddenIn]; done) | decide +kernel) | decide +kernel | exact Jvm.Free.JP.mathPlain rfl (by decide +kernel)
theorem ef_3e (m : MethodId) (a1 : Addr) (a2 : Addr) : entryFrame m #[(.ref a1), (.ref a2), (.int (0 : Int32)), (.int (0 : Int32)), .null] 6 = mkF m 0 #[.val (.ref a1), .val (.ref a2), .val (.int (0 : Int32)), .val (.int (0 : Int32)), .val .null, .unset] [] := by first | (simp [entryFrame, mkF, argsToLocals, Value.category]; done) | rfl
def Q3e (Z : State) (a1 : Addr) (a2 : Addr) (h0 : Heap) (n0 : Nat) (v : Option Value) (h : Heap) (L : List Loc) : Prop := v = none ∧ Fr n0 L ∧ Keep h0 h [a1] ∧ own_Str Z h a1 []
set_option maxRecDepth 65536 in
set_option maxHeartbeats 40000000 in
theorem rm3e (l : Launch) (Z : State) (a0 : Array Value) (hw : ∀ d ∈ tables_1, d.before a0 Z = true) (ws : List Jvm.Cond) (a1 : Addr) (a2 : Addr) (h0 : Heap) (n0 : Nat) (Z0 : n0 ≤ h0.size) (E_a1 : Exa Z h0 a1 "java/lang/String") (F_v : Fld Z h0 a1 "java/lang/String" "value" "[B" .null) (F_c : Fld Z h0 a1 "java/lang/String" "coder" "B" (.int (0 : Int32))) (g_a1 : n0 ≤ a1) :
    MetFree l (⟨"java/lang/String", "<init>", "([CIILjava/lang/Void;)V"⟩ : MethodName) (head1 (Jvm.Cond.code (⟨"java/lang/String", "<init>", "([CIILjava/lang/Void;)V"⟩ : MethodName) jdk_42_method_149_code 6 none :: ws) ({ frames := 1, cells := 4, slots := 8, locals := 12 } : Room)) (fun a U => a = #[(.ref a1), (.ref a2), (.int (0 : Int32)), (.int (0 : Int32)), .null] ∧ Z.Warmed39 U.vm ∧ U.heap = h0 ∧ CHv Z consts_1 U.vm h0) (fun _ _ _ _ _ => True) (fun _ U o U' => ∃ v L, o = .returned v ∧ Q3e Z a1 a2 h0 n0 v U'.heap L ∧ CHr Z consts_1 U.vm U.heap U'.vm U'.heap ∧ ReturnedEndW U o U' L ({ frames := 1, cells := 4, slots := 8, locals := 12 } : Room).cells ({ frames := 1, cells := 4, slots := 8, locals := 12 } : Room).slots) := by
  refine MetFree.of_bodySF pn_3e hisR ?_
  intro p e s m args below meth c s₁ Bd hml0 hP hK
  obtain ⟨rfl, hZ, hh, hH0⟩ := hP
  have hx := Bd.exec
  have hby := Bd.bytes
  have hml : c.maxLocals = 6 := hml0
  have hown : s.vm.findClass "java/lang/String" = some m.cls := findClass_of_methodNamed Bd.named
  have hnm := (name_of_methodNamed Bd.named Bd.method).1
  have X0 : Stand p l e ({ frames := 1, cells := 4, slots := 8, locals := 12 } : Room) (s.setVm s.vm) m #[(.ref a1), (.ref a2), (.int (0 : Int32)), (.int (0 : Int32)), .null] below meth c s₁ [] 0 0 := Stand.of_body Bd
  have e0 : s₁.heap = h0 := by rw [← hh, Bd.state]; rfl
  have N0 := Fr.nil n0
  have hS0 : s.Since s.vm 0 := (State.WarmedH.refl s).since 0
  refine own_at (castTop (ef_3e m a1 a2)) ?_
  have K0 := Keep.refl h0 [a1]
  have wS : ∀ a ∈ Bundle.stringAtoms, a.before a0 Z = true := fun d hd => hw d ((by decide +kernel : ∀ d ∈ Bundle.stringAtoms, d ∈ tables_1) d hd)
  have hEL : EW _ _ consts_1 := (EW.cons (hw _ (List.mem_of_getElem? (i := 68) rfl)) (by decide) (EW.cons (hw _ (List.mem_of_getElem? (i := 72) rfl)) (by decide) (EW.cons (hw _ (List.mem_of_getElem? (i := 81) rfl)) (by decide) EW.nil)))
  have hZ0 : Z.Warmed39 s.vm := hZ
  have sg1 : ∀ t, own_S p e below s₁ (mkF m 1 (own_ARRIINU a1 a2 (0 : Int32) (0 : Int32)) [(.ref a1)]) t → own_S p e below s₁ (mkF m 0 (own_ARRIINU a1 a2 (0 : Int32) (0 : Int32)) []) t := by
    intro t k
    show own_S p e below s₁ (mkF m 0 (own_ARRIINU a1 a2 (0 : Int32) (0 : Int32)) []) _
    refine XS.aloadN X0.here hx rfl (hb hby d3_0) rfl rfl ?_
    exact k
  refine own_by sg1 ?_
  obtain ⟨T1, X1, e1, st1⟩ := initO X0 hx hZ hown (hw _ (List.mem_of_getElem? (i := 16) rfl)) (hw _ (List.mem_of_getElem? (i := 17) rfl)) (hw _ (List.mem_of_getElem? (i := 18) rfl)) e0 (g := (mkF m 1 (own_ARRIINU a1 a2 (0 : Int32) (0 : Int32)) [(.ref a1)])) rfl (by rw [hml]; rfl) rfl (hb hby d3_1) (by decide) (W := 0) (by show 2 * 0 + _ ≤ _; exact Nat.le_of_eq rfl) (by decide)
  refine own_by st1 ?_
  have sg9 : ∀ t, own_S p e below T1 (mkF m 9 (own_ARRIINU a1 a2 (0 : Int32) (0 : Int32)) [(.ref a1)]) t → own_S p e below T1 (mkF m 4 (own_ARRIINU a1 a2 (0 : Int32) (0 : Int32)) []) t := by
    intro t k
    show own_S p e below T1 (mkF m 4 (own_ARRIINU a1 a2 (0 : Int32) (0 : Int32)) []) _
    refine XS.iloadN X1.here hx rfl (hb hby d3_4) rfl ?_
    show own_S p e below T1 (mkF m 5 (own_ARRIINU a1 a2 (0 : Int32) (0 : Int32)) [(.int (0 : Int32))]) _
    refine XS.ifNo X1.here hx rfl (hb hby d3_5) rfl ((if0 _ _).trans (teq (by decide : (0 : Int32) = (0 : Int32))).2) ?_
    show own_S p e below T1 (mkF m 8 (own_ARRIINU a1 a2 (0 : Int32) (0 : Int32)) []) _
    refine XS.aloadN X1.here hx rfl (hb hby d3_8) rfl rfl ?_
    exact k
  refine own_by sg9 ?_
  obtain ⟨l9a, T9, h9, ks9, lb9, lk9, X9, e9, E9, hS9, hk9, hZ9, hown9, lE9, lC9, lV9, lA9, la19, la29, hC9, -, hsf9, st9⟩ := ldcCH X1 hx hZ hown (hw _ (List.mem_of_getElem? (i := 81) rfl)) wS e1 hS0 (Nat.zero_le _) hEL (by decide) hH0 (vs := []) (z := (0 : Int32)) ⟨by decide, by decide⟩ (by decide) (by decide) (g := (mkF m 9 (own_ARRIINU a1 a2 (0 : Int32) (0 : Int32)) [(.ref a1)])) rfl (hb hby d3_9) (n := 0) (by decide) (by decide) (by decide) (by decide)
  have K9 := K0.ext E9
  have Z9 : n0 ≤ h9.size := Nat.le_trans Z0 E9.1
  have CR9 := (CHr.refl hH0).trans hC9
  have sf9 := hC9.safe E_a1.lt (own_safe0 (vm := s.vm) hZ0.alike E_a1 F_v (hw _ (List.mem_of_getElem? (i := 2) rfl)))
  obtain ⟨ne_a1_l9a, ne_a1_lb9⟩ := hsf9 _ sf9
  refine own_by st9 ?_
  obtain ⟨T11, X11, e11, st11⟩ := getF X9 hx hZ9 hown9 (host := "") (Or.inl (hw _ (List.mem_of_getElem? (i := 33) rfl))) Via.refl e9 lV9 (g := (mkF m 11 (own_ARRIINU a1 a2 (0 : Int32) (0 : Int32)) [(.ref l9a), (.ref a1)])) rfl rfl (hb hby d3_11)
  refine own_by st11 ?_
  obtain ⟨T14, h14, X14, e14, W14, st14⟩ := putF X11 hx hZ9 hown9 (host := "") (Or.inl (hw _ (List.mem_of_getElem? (i := 33) rfl))) Via.refl e11 (F_v.ext E9) (E_a1.ext E9) (Or.inr ⟨(hw _ (List.mem_of_getElem? (i := 34) rfl)), rfl, hnm⟩) (hw _ (List.mem_of_getElem? (i := 2) rfl)) (ty := (.array .byte)) (by decide) rfl rfl (g := (mkF m 14 (own_ARRIINU a1 a2 (0 : Int32) (0 : Int32)) [(.ref lb9), (.ref a1)])) rfl rfl (hb hby d3_14)
  have Fw14 := (F_v.ext E9).same W14
  have fc := ((F_c.ext E9).other W14 (Or.inr (slot_ne (Or.inr (hw _ (List.mem_of_getElem? (i := 32) rfl))) (Or.inr (hw _ (List.mem_of_getElem? (i := 34) rfl))) (by decide) (t := .byte) (t' := (.array .byte)) (by decide) (by decide))))
  have K14 : Keep h0 h14 [a1] := K9.wr W14 (Or.inl (List.mem_of_getElem? (i := 0) rfl))
  have Z14 : n0 ≤ h14.size := Nat.le_trans Z9 (Keep.of_wr W14).1
  have CC14 := CHr.wr W14 sf9 hC9.1
  have CR14 := CR9.trans CC14
  have N14 := Fr.snoc X14 N0 g_a1
  refine own_by st14 ?_
  have sf14 := Safe.wr W14 sf9 hC9.1 sf9
  have lt14 := ((E_a1.ext E9).wr W14).lt
  have sg18 : ∀ t, own_S p e below T14 (mkF m 18 (own_ARRIINU a1 a2 (0 : Int32) (0 : Int32)) [(.ref a1)]) t → own_S p e below T14 (mkF m 17 (own_ARRIINU a1 a2 (0 : Int32) (0 : Int32)) []) t := by
    intro t k
    show own_S p e below T14 (mkF m 17 (own_ARRIINU a1 a2 (0 : Int32) (0 : Int32)) []) _
    refine XS.aloadN X14.here hx rfl (hb hby d3_17) rfl rfl ?_
    exact k
  refine own_by sg18 ?_
  obtain ⟨l18a, T18, h18, ks18, lb18, lk18, X18, e18, E18, hS18, hk18, hZ18, hown18, lE18, lC18, lV18, lA18, la118, la218, hC18, -, hsf18, st18⟩ := ldcCH X14 hx hZ9 hown9 (hw _ (List.mem_of_getElem? (i := 81) rfl)) wS e14 hS9 (Nat.le_trans hk9 (Keep.of_wr W14).1) hEL (by decide) CC14.1 (vs := []) (z := (0 : Int32)) ⟨by decide, by decide⟩ (by decide) (by decide) (g := (mkF m 18 (own_ARRIINU a1 a2 (0 : Int32) (0 : Int32)) [(.ref a1)])) rfl (hb hby d3_18) (n := 0) (by decide) (by decide) (by decide) (by decide)
  have K18 := K14.ext E18
  have Z18 : n0 ≤ h18.size := Nat.le_trans Z14 E18.1
  have CR18 := CR14.trans hC18
  have sf18 := hC18.safe lt14 sf14
  obtain ⟨ne_a1_l18a, ne_a1_lb18⟩ := hsf18 _ sf18
  refine own_by st18 ?_
  obtain ⟨T20, X20, e20, st20⟩ := getF X18 hx hZ18 hown18 (host := "") (Or.inl (hw _ (List.mem_of_getElem? (i := 31) rfl))) Via.refl e18 lC18 (g := (mkF m 20 (own_ARRIINU a1 a2 (0 : Int32) (0 : Int32)) [(.ref l18a), (.ref a1)])) rfl rfl (hb hby d3_20)
  refine own_by st20 ?_
  obtain ⟨T23, h23, X23, e23, W23, st23⟩ := putF X20 hx hZ18 hown18 (host := "") (Or.inl (hw _ (List.mem_of_getElem? (i := 31) rfl))) Via.refl e20 (fc.ext E18) (((E_a1.ext E9).wr W14).ext E18) (Or.inr ⟨(hw _ (List.mem_of_getElem? (i := 32) rfl)), rfl, hnm⟩) (hw _ (List.mem_of_getElem? (i := 2) rfl)) (ty := .byte) (by decide) rfl rfl (g := (mkF m 23 (own_ARRIINU a1 a2 (0 : Int32) (0 : Int32)) [(.int (0 : Int32)), (.ref a1)])) rfl rfl (hb hby d3_23)
  have Fw23 := (fc.ext E18).same W23
  have fc_2 := ((Fw14.ext E18).other W23 (Or.inr (slot_ne (Or.inr (hw _ (List.mem_of_getElem? (i := 34) rfl))) (Or.inr (hw _ (List.mem_of_getElem? (i := 32) rfl))) (by decide) (t := (.array .byte)) (t' := .byte) (by decide) (by decide))))
  have fc_3 := (((lC9.other W14 (Or.inl (Ne.symm ne_a1_l9a))).ext E18).other W23 (Or.inl (Ne.symm ne_a1_l9a)))
  have fc_4 := (((lV9.other W14 (Or.inl (Ne.symm ne_a1_l9a))).ext E18).other W23 (Or.inl (Ne.symm ne_a1_l9a)))
  have fc_5 := (((lA9.other W14 (Ne.symm ne_a1_lb9)).ext E18).other W23 (Ne.symm ne_a1_lb9))
  have K23 : Keep h0 h23 [a1] := K18.wr W23 (Or.inl (List.mem_of_getElem? (i := 0) rfl))
  have Z23 : n0 ≤ h23.size := Nat.le_trans Z18 (Keep.of_wr W23).1
  have CC23 := CHr.wr W23 sf18 hC18.1
  have CR23 := CR18.trans CC23
  have N23 := Fr.snoc X23 N14 g_a1
  refine own_by st23 ?_
  obtain ⟨fs, hr, hrun, hended, hW⟩ := X23.leaveW hS18 (by rw [e23]; exact (Nat.le_trans hk18 (Keep.of_wr W23).1)) (v := none) (fun _ => rfl)
  refine ⟨_, _, ?_, hrun, hended, _, _, rfl, ?_, (by rw [hh]; show CHr Z consts_1 s.vm h0 T23.vm T23.heap; rw [e23]; exact CR23.trans (CHv.at X23 hZ18 hEL CC23.1)), hW.1, hW.2.1, hW.2.2.1, hW.2.2.2.mono (by decide) (by decide)⟩
  · exact X23.returnOut hx Bd.returns (hb hby d3_26) hr
  · show Q3e Z a1 a2 h0 n0 _ T23.heap _
    rw [e23]
    exact ⟨rfl, N23, K23, ⟨lb9, _, _, _, _, ((((E_a1.ext E9).wr W14).ext E18).wr W23), fc_2, Fw23, fc_5, Or.inl ⟨rfl, rfl, rfl, by decide⟩, by decide, by decide⟩⟩
theorem d2_0 : decode jdk_42_method_3_code 0 = .ok (.aload_n 0, 1) := by decide +kernel
theorem d2_1 : decode jdk_42_method_3_code 1 = .ok (.aload_n 1, 1) := by decide +kernel
theorem d2_2 : decode jdk_42_method_3_code 2 = .ok (.iconst 0, 1) := by decide +kernel
theorem d2_3 : decode jdk_42_method_3_code 3 = .ok (.aload_n 1, 1) := by decide +kernel
theorem d2_4 : decode jdk_42_method_3_code 4 = .ok (.arraylength, 1) := by decide +kernel
theorem d2_5 : decode jdk_42_method_3_code 5 = .ok (.aconst_null, 1) := by decide +kernel
theorem d2_6 : decode jdk_42_method_3_code 6 = .ok (.invokespecial 27, 3) := by decide +kernel
theorem d2_9 : decode jdk_42_method_3_code 9 = .ok (.return_, 1) := by decide +kernel
theorem pn_2e : plainFor (⟨"java/lang/String", "<init>", "([C)V"⟩ : MethodName) = true := by first | exact plainFor_of_name (by first | (simp [plainName, overriddenIn]; done) | decide +kernel) | decide +kernel | exact Jvm.Free.JP.mathPlain rfl (by decide +kernel)
theorem pd_2_0e : parseMethodDescriptor "([CIILjava/lang/Void;)V" = some ⟨[(.array .char), .int, .int, (.object "java/lang/Void")], none⟩ := by decide +kernel
theorem ef_2e (m : MethodId) (a1 : Addr) (a2 : Addr) : entryFrame m #[(.ref a1), (.ref a2)] 2 = mkF m 0 #[.val (.ref a1), .val (.ref a2)] [] := by first | (simp [entryFrame, mkF, argsToLocals, Value.category]; done) | rfl
def Q2e (Z : State) (a1 : Addr) (a2 : Addr) (cl : Cell) (h0 : Heap) (n0 : Nat) (v : Option Value) (h : Heap) (L : List Loc) : Prop := v = none ∧ Fr n0 L ∧ Keep h0 h [a1] ∧ own_Str Z h a1 []
set_option maxRecDepth 65536 in
set_option maxHeartbeats 40000000 in
theorem rm2e (l : Launch) (Z : State) (a0 : Array Value) (hw : ∀ d ∈ tables_1, d.before a0 Z = true) (ws : List Jvm.Cond) (a1 : Addr) (a2 : Addr) (cl : Cell) (h0 : Heap) (n0 : Nat) (Z0 : n0 ≤ h0.size) (E_a1 : Exa Z h0 a1 "java/lang/String") (F_v : Fld Z h0 a1 "java/lang/String" "value" "[B" .null) (F_c : Fld Z h0 a1 "java/lang/String" "coder" "B" (.int (0 : Int32))) (g_a1 : n0 ≤ a1) (Ar : Arr Z h0 a2 cl .char) (hsz : cl.slots.size = 0) :
    MetFree l (⟨"java/lang/String", "<init>", "([C)V"⟩ : MethodName) (head1 (Jvm.Cond.code (⟨"java/lang/String", "<init>", "([C)V"⟩ : MethodName) jdk_42_method_3_code 2 none :: ws) ({ frames := 2, cells := 4, slots := 8, locals := 29 } : Room)) (fun a U => a = #[(.ref a1), (.ref a2)] ∧ Z.Warmed39 U.vm ∧ U.heap = h0 ∧ CHv Z consts_1 U.vm h0) (fun _ _ _ _ _ => True) (fun _ U o U' => ∃ v L, o = .returned v ∧ Q2e Z a1 a2 cl h0 n0 v U'.heap L ∧ CHr Z consts_1 U.vm U.heap U'.vm U'.heap ∧ ReturnedEndW U o U' L ({ frames := 2, cells := 4, slots := 8, locals := 29 } : Room).cells ({ frames := 2, cells := 4, slots := 8, locals := 29 } : Room).slots) := by
  refine MetFree.of_bodySF pn_2e hisR ?_
  intro p e s m args below meth c s₁ Bd hml0 hP hK
  obtain ⟨rfl, hZ, hh, hH0⟩ := hP
  have hx := Bd.exec
  have hby := Bd.bytes
  have hml : c.maxLocals = 2 := hml0
  have hown : s.vm.findClass "java/lang/String" = some m.cls := findClass_of_methodNamed Bd.named
  have hnm := (name_of_methodNamed Bd.named Bd.method).1
  have X0 : Stand p l e ({ frames := 2, cells := 4, slots := 8, locals := 29 } : Room) (s.setVm s.vm) m #[(.ref a1), (.ref a2)] below meth c s₁ [] 0 0 := Stand.of_body Bd
  have e0 : s₁.heap = h0 := by rw [← hh, Bd.state]; rfl
  have N0 := Fr.nil n0
  have hS0 : s.Since s.vm 0 := (State.WarmedH.refl s).since 0
  refine own_at (castTop (ef_2e m a1 a2)) ?_
  have K0 := Keep.refl h0 [a1]
  have wS : ∀ a ∈ Bundle.stringAtoms, a.before a0 Z = true := fun d hd => hw d ((by decide +kernel : ∀ d ∈ Bundle.stringAtoms, d ∈ tables_1) d hd)
  have hEL : EW _ _ consts_1 := (EW.cons (hw _ (List.mem_of_getElem? (i := 68) rfl)) (by decide) (EW.cons (hw _ (List.mem_of_getElem? (i := 72) rfl)) (by decide) (EW.cons (hw _ (List.mem_of_getElem? (i := 81) rfl)) (by decide) EW.nil)))
  have sg6 : ∀ t, own_S p e below s₁ (mkF m 6 #[.val (.ref a1), .val (.ref a2)] [.null, (.int (0 : Int32)), (.int (0 : Int32)), (.ref a2), (.ref a1)]) t → own_S p e below s₁ (mkF m 0 #[.val (.ref a1), .val (.ref a2)] []) t := by
    intro t k
    show own_S p e below s₁ (mkF m 0 #[.val (.ref a1), .val (.ref a2)] []) _
    refine XS.aloadN X0.here hx rfl (hb hby d2_0) rfl rfl ?_
    show own_S p e below s₁ (mkF m 1 #[.val (.ref a1), .val (.ref a2)] [(.ref a1)]) _
    refine XS.aloadN X0.here hx rfl (hb hby d2_1) rfl rfl ?_
    show own_S p e below s₁ (mkF m 2 #[.val (.ref a1), .val (.ref a2)] [(.ref a2), (.ref a1)]) _
    refine XS.iconst X0.here hx rfl (hb hby d2_2) ?_
    show own_S p e below s₁ (mkF m 3 #[.val (.ref a1), .val (.ref a2)] [(.int (0 : Int32)), (.ref a2), (.ref a1)]) _
    refine XS.aloadN X0.here hx rfl (hb hby d2_3) rfl rfl ?_
    show own_S p e below s₁ (mkF m 4 #[.val (.ref a1), .val (.ref a2)] [(.ref a2), (.int (0 : Int32)), (.ref a2), (.ref a1)]) _
    refine X0.arraylength hx (by rw [e0]; exact Ar.1) (State.isArrayOf_alike hZ.alike Ar.2.1) (g := (mkF m 4 #[.val (.ref a1), .val (.ref a2)] [(.ref a2), (.int (0 : Int32)), (.ref a2), (.ref a1)])) rfl rfl (hb hby d2_4) _ ?_
    rw [hsz]
    show own_S p e below s₁ (mkF m 5 #[.val (.ref a1), .val (.ref a2)] [(.int (0 : Int32)), (.int (0 : Int32)), (.ref a2), (.ref a1)]) _
    refine XS.aconstNull X0.here hx rfl (hb hby d2_5) ?_
    exact k
  refine own_by sg6 ?_
  obtain ⟨_, _, ⟨T6, L6, k6, n6⟩, -, Xc6, hSc6, hgc6, ⟨Lc6, hQ6, l6, y6, z6, hC6⟩, st6⟩ := X0.specialBackS hx (y := (⟨"java/lang/String", "<init>", "([CIILjava/lang/Void;)V"⟩ : MethodName)) rfl hown (mvT hZ (hw _ (List.mem_of_getElem? (i := 12) rfl))) (mvT hZ (hw _ (List.mem_of_getElem? (i := 13) rfl))) (mvT hZ (hw _ (List.mem_of_getElem? (i := 15) rfl))) (by decide) (backOfSH (W := 0) (rm3e l Z a0 hw [] a1 a2 h0 n0 Z0 E_a1 F_v F_c g_a1) hZ (hw _ (List.mem_of_getElem? (i := 15) rfl)) (hw _ (List.mem_of_getElem? (i := 3) rfl)) (by decide) (by decide) hEL hH0) (g := (mkF m 6 #[.val (.ref a1), .val (.ref a2)] [.null, (.int (0 : Int32)), (.int (0 : Int32)), (.ref a2), (.ref a1)])) rfl (by rw [hml]; rfl) (Steps.refl _) (a := a1) (argsL := [(.ref a2), (.int (0 : Int32)), (.int (0 : Int32)), .null]) (rest := []) (lenOf pd_2_0e rfl) rfl (by show 2 * 0 + _ ≤ _; exact Nat.le_of_eq rfl) (hb hby d2_6) (fun _ _ => ⟨rfl, e0, (by decide : 0 + 4 ≤ _), (by decide : 0 + 8 ≤ _)⟩)
  dsimp only [Pt.U, Pt.locs, Pt.cells, Pt.slots] at Xc6 hSc6 hgc6
  obtain ⟨X6, hS6, hZ6, hown6⟩ := rebS hS0 (by rw [e0]; exact (Nat.zero_le _)) Xc6 hSc6 hgc6 hZ hown
  dsimp only [Pt.U, Pt.locs, Pt.cells, Pt.slots] at X6 l6 y6 z6 st6 hQ6
  subst l6 y6 z6
  obtain ⟨rfl, N6q, Kq6, Sq6⟩ := hQ6
  have N6 := Fr.app N0 N6q
  have K6 : Keep h0 T6.heap [a1] := K0.trans Kq6 (fun x hx => by cases List.mem_singleton.mp hx; exact Or.inl (List.mem_of_getElem? (i := 0) rfl))
  have Z6 : n0 ≤ T6.heap.size := Nat.le_trans Z0 Kq6.1
  have CR6 := (CHr.refl hH0).trans hC6
  refine own_by (fun t k => st6.trans k) ?_
  obtain ⟨fs, hr, hrun, hended, hW⟩ := X6.leaveW hS6 (Nat.le_refl _) (v := none) (fun _ => rfl)
  refine ⟨_, _, ?_, hrun, hended, _, _, rfl, ?_, (by rw [hh]; show CHr Z consts_1 s.vm h0 T6.vm T6.heap; exact CR6.trans (CHv.at X6 hZ6 hEL hC6.1)), hW.1, hW.2.1, hW.2.2.1, hW.2.2.2.mono (by decide) (by decide)⟩
  · exact X6.returnOut hx Bd.returns (hb hby d2_9) hr
  · show Q2e Z a1 a2 cl h0 n0 _ T6.heap _
    exact ⟨rfl, N6, K6, Sq6⟩
theorem pn_0 : plainFor x = true := by first | exact plainFor_of_name (by first | (simp [plainName, overriddenIn]; done) | decide +kernel) | decide +kernel | exact Jvm.Free.JP.mathPlain rfl (by decide +kernel)
theorem pd_0_0 : parseMethodDescriptor "(I)[C" = some ⟨[.int], some (.array .char)⟩ := by decide +kernel
theorem pd_0_1 : parseMethodDescriptor "([C)V" = some ⟨[(.array .char)], none⟩ := by decide +kernel
theorem pd_0_2 : parseMethodDescriptor "(Ljava/lang/String;)Lcom/example/writd/writd/model/GrantType;" = some ⟨[(.object "java/lang/String")], some (.object "com/example/writd/writd/model/GrantType")⟩ := by decide +kernel
theorem pd_0_3 : parseMethodDescriptor "(Ljava/lang/Object;)Z" = some ⟨[(.object "java/lang/Object")], some .boolean⟩ := by decide +kernel
theorem pd_0_4 : parseMethodDescriptor "(IC)[C" = some ⟨[.int, .char], some (.array .char)⟩ := by decide +kernel
theorem ef_0 (m : MethodId) (p0 : Int32) (p1 : Int32) (p2 : Int32) (p3 : Int32) (p4 : Int32) : entryFrame m #[(.int p0), (.int p1), (.int p2), (.int p3), (.int p4)] maxLocals = mkF m 0 #[.val (.int p0), .val (.int p1), .val (.int p2), .val (.int p3), .val (.int p4), .unset, .unset, .unset, .unset, .unset, .unset, .unset] [] := by first | (simp [entryFrame, mkF, argsToLocals, Value.category, maxLocals]; done) | rfl
def Q0 (Z : State) (p0 : Int32) (p1 : Int32) (p2 : Int32) (p3 : Int32) (p4 : Int32) (wV : Addr) (cl : Cell) (wAUTHORIZATION_CODE : Addr) (wCLIENT_CREDENTIALS : Addr) (sAUTHORIZATION_CODE : Addr) (sCLIENT_CREDENTIALS : Addr) (gz : Int32) (h0 : Heap) (n0 : Nat) (v : Option Value) (h : Heap) (L : List Loc) : Prop := v = some (.int 1) ∧ Fr n0 L
set_option maxRecDepth 65536 in
set_option maxHeartbeats 40000000 in
theorem rm0 (l : Launch) (Z : State) (a0 : Array Value) (hw : ∀ d ∈ tables_1, d.before a0 Z = true) (ws : List Jvm.Cond) (p0 : Int32) (p1 : Int32) (p2 : Int32) (p3 : Int32) (p4 : Int32) (wV : Addr) (cl : Cell) (wAUTHORIZATION_CODE : Addr) (wCLIENT_CREDENTIALS : Addr) (sAUTHORIZATION_CODE : Addr) (sCLIENT_CREDENTIALS : Addr) (gz : Int32) (h0 : Heap) (n0 : Nat) (Z0 : n0 ≤ h0.size) (O : Old Z n0 h0) (O2 : Sta Z Z.heap "java/lang/String" "COMPACT_STRINGS" "Z" (.int gz)) (P5 : ¬ (gz = (0 : Int32))) (S_V : Sta Z Z.heap "com/example/writd/writd/model/GrantType" "$VALUES" "[Lcom/example/writd/writd/model/GrantType;" (.ref wV)) (Ar_V : Arr Z Z.heap wV cl (.object "com/example/writd/writd/model/GrantType")) (E_V : Exa Z Z.heap wV "[Lcom/example/writd/writd/model/GrantType;") (FC : FitC Z cl) (hsz : cl.slots.size = 2) (hat0 : cl.slots[0]? = some (.ref wAUTHORIZATION_CODE)) (hat1 : cl.slots[1]? = some (.ref wCLIENT_CREDENTIALS)) (FV_AUTHORIZATION_CODE : Fld Z Z.heap wAUTHORIZATION_CODE "com/example/writd/writd/model/GrantType" "value" "Ljava/lang/String;" (.ref sAUTHORIZATION_CODE)) (FV_CLIENT_CREDENTIALS : Fld Z Z.heap wCLIENT_CREDENTIALS "com/example/writd/writd/model/GrantType" "value" "Ljava/lang/String;" (.ref sCLIENT_CREDENTIALS)) (EX_AUTHORIZATION_CODE : Exa Z Z.heap sAUTHORIZATION_CODE "java/lang/String") (EX_CLIENT_CREDENTIALS : Exa Z Z.heap sCLIENT_CREDENTIALS "java/lang/String") (Str_AUTHORIZATION_CODE : own_Str Z Z.heap sAUTHORIZATION_CODE ([(97 : Int32), (117 : Int32), (116 : Int32), (104 : Int32), (111 : Int32), (114 : Int32), (105 : Int32), (122 : Int32), (97 : Int32), (116 : Int32), (105 : Int32), (111 : Int32), (110 : Int32), (95 : Int32), (99 : Int32), (111 : Int32), (100 : Int32), (101 : Int32)] : List Int32)) (Str_CLIENT_CREDENTIALS : own_Str Z Z.heap sCLIENT_CREDENTIALS ([(99 : Int32), (108 : Int32), (105 : Int32), (101 : Int32), (110 : Int32), (116 : Int32), (95 : Int32), (99 : Int32), (114 : Int32), (101 : Int32), (100 : Int32), (101 : Int32), (110 : Int32), (116 : Int32), (105 : Int32), (97 : Int32), (108 : Int32), (115 : Int32)] : List Int32)) (S_AUTHORIZATION_CODE : Sta Z Z.heap "com/example/writd/writd/model/GrantType" "AUTHORIZATION_CODE" "Lcom/example/writd/writd/model/GrantType;" (.ref wAUTHORIZATION_CODE)) (S_CLIENT_CREDENTIALS : Sta Z Z.heap "com/example/writd/writd/model/GrantType" "CLIENT_CREDENTIALS" "Lcom/example/writd/writd/model/GrantType;" (.ref wCLIENT_CREDENTIALS)) (E_AUTHORIZATION_CODE : Exa Z Z.heap wAUTHORIZATION_CODE "com/example/writd/writd/model/GrantType") (E_CLIENT_CREDENTIALS : Exa Z Z.heap wCLIENT_CREDENTIALS "com/example/writd/writd/model/GrantType") :
    MetFree l x (head1 (Jvm.Cond.code x code maxLocals ret :: ws) room_1) (fun a U => a = #[(.int p0), (.int p1), (.int p2), (.int p3), (.int p4)] ∧ Z.Warmed39 U.vm ∧ U.heap = h0 ∧ CHv Z consts_1 U.vm h0) (fun _ _ _ _ _ => True) (fun _ U o U' => ∃ v L, o = .returned v ∧ Q0 Z p0 p1 p2 p3 p4 wV cl wAUTHORIZATION_CODE wCLIENT_CREDENTIALS sAUTHORIZATION_CODE sCLIENT_CREDENTIALS gz h0 n0 v U'.heap L ∧ CHr Z consts_1 U.vm U.heap U'.vm U'.heap ∧ ReturnedEndW U o U' L room_1.cells room_1.slots) := by
  refine MetFree.of_bodySF pn_0 hisR ?_
  intro p e s m args below meth c s₁ Bd hml0 hP hK
  obtain ⟨rfl, hZ, hh, hH0⟩ := hP
  have hx := Bd.exec
  have hby := Bd.bytes
  have hml : c.maxLocals = 12 := hml0
  have hown : s.vm.findClass "com/example/writd/writd/model/GrantTypeFromValuePinLaw" = some m.cls := findClass_of_methodNamed Bd.named
  have hnm := (name_of_methodNamed Bd.named Bd.method).1
  have X0 : Stand p l e room_1 (s.setVm s.vm) m #[(.int p0), (.int p1), (.int p2), (.int p3), (.int p4)] below meth c s₁ [] 0 0 := Stand.of_body Bd
  have e0 : s₁.heap = h0 := by rw [← hh, Bd.state]; rfl
  have N0 := Fr.nil n0
  have hS0 : s.Since s.vm 0 := (State.WarmedH.refl s).since 0
  refine own_at (castTop (ef_0 m p0 p1 p2 p3 p4)) ?_
  have K0 := Keep.refl h0 []
  have hws : ∀ d ∈ StrChars.Road.words, d.before a0 Z = true := fun d hd => hw d ((by decide +kernel : ∀ d ∈ StrChars.Road.words, d ∈ tables_1) d hd)
  have heq : ∀ d ∈ StrChars.Road.wordsEq, d.before a0 Z = true := fun d hd => hw d ((by decide +kernel : ∀ d ∈ StrChars.Road.wordsEq, d ∈ tables_1) d hd)
  have wS : ∀ a ∈ Bundle.stringAtoms, a.before a0 Z = true := fun d hd => hw d ((by decide +kernel : ∀ d ∈ Bundle.stringAtoms, d ∈ tables_1) d hd)
  have hEL : EW _ _ consts_1 := (EW.cons (hw _ (List.mem_of_getElem? (i := 68) rfl)) (by decide) (EW.cons (hw _ (List.mem_of_getElem? (i := 72) rfl)) (by decide) (EW.cons (hw _ (List.mem_of_getElem? (i := 81) rfl)) (by decide) EW.nil)))
  obtain ⟨v7, hv7⟩ : ∃ z : Int32, z = ((p0 &&& (2147483647 : Int32)) % (6 : Int32)) := ⟨_, rfl⟩
  have sg7 : ∀ t, own_S p e below s₁ (mkF m 7 (own_AIIIIIUUUUUUU p0 p1 p2 p3 p4) [(.int v7)]) t → own_S p e below s₁ (mkF m 0 (own_AIIIIIUUUUUUU p0 p1 p2 p3 p4) []) t := by
    intro t k
    rw [hv7] at k
    show own_S p e below s₁ (mkF m 0 (own_AIIIIIUUUUUUU p0 p1 p2 p3 p4) []) _
    refine XS.iloadN X0.here hx rfl (hb hby at_0) rfl ?_
    show own_S p e below s₁ (mkF m 1 (own_AIIIIIUUUUUUU p0 p1 p2 p3 p4) [(.int p0)]) _
    refine X0.ldcInt hx hown (mvT hZ (hw _ (List.mem_of_getElem? (i := 0) rfl))) (g := (mkF m 1 (own_AIIIIIUUUUUUU p0 p1 p2 p3 p4) [(.int p0)])) rfl (hb hby at_1) _ ?_
    show own_S p e below s₁ (mkF m 3 (own_AIIIIIUUUUUUU p0 p1 p2 p3 p4) [(.int (2147483647 : Int32)), (.int p0)]) _
    refine XS.iand X0.here hx rfl (hb hby at_3) rfl ?_
    show own_S p e below s₁ (mkF m 4 (own_AIIIIIUUUUUUU p0 p1 p2 p3 p4) [(.int (p0 &&& (2147483647 : Int32)))]) _
    refine XS.bipush X0.here hx rfl (hb hby at_4) ?_
    show own_S p e below s₁ (mkF m 6 (own_AIIIIIUUUUUUU p0 p1 p2 p3 p4) [(.int (6 : Int32)), (.int (p0 &&& (2147483647 : Int32)))]) _
    refine iremM X0 hx rfl (hb hby at_6) rfl (by decide) ?_
    exact k
  refine own_by sg7 ?_
  obtain ⟨v12, hv12⟩ : ∃ z : Int32, z = (p1 &&& (1 : Int32)) := ⟨_, rfl⟩
  have sg12 : ∀ t, own_S p e below s₁ (mkF m 12 (own_AIIIIIIUUUUUU p0 p1 p2 p3 p4 v7) [(.int v12)]) t → own_S p e below s₁ (mkF m 7 (own_AIIIIIUUUUUUU p0 p1 p2 p3 p4) [(.int v7)]) t := by
    intro t k
    rw [hv12] at k
    show own_S p e below s₁ (mkF m 7 (own_AIIIIIUUUUUUU p0 p1 p2 p3 p4) [(.int v7)]) _
    refine XS.istore X0.here hx rfl (hb hby at_7) rfl (l' := (own_AIIIIIIUUUUUU p0 p1 p2 p3 p4 v7)) rfl ?_
    show own_S p e below s₁ (mkF m 9 (own_AIIIIIIUUUUUU p0 p1 p2 p3 p4 v7) []) _
    refine XS.iloadN X0.here hx rfl (hb hby at_9) rfl ?_
    show own_S p e below s₁ (mkF m 10 (own_AIIIIIIUUUUUU p0 p1 p2 p3 p4 v7) [(.int p1)]) _
    refine XS.iconst X0.here hx rfl (hb hby at_10) ?_
    show own_S p e below s₁ (mkF m 11 (own_AIIIIIIUUUUUU p0 p1 p2 p3 p4 v7) [(.int (1 : Int32)), (.int p1)]) _
    refine XS.iand X0.here hx rfl (hb hby at_11) rfl ?_
    exact k
  refine own_by sg12 ?_
  obtain ⟨v21, hv21⟩ : ∃ z : Int32, z = ((p2 &&& (2147483647 : Int32)) % (18 : Int32)) := ⟨_, rfl⟩
  have sg21 : ∀ t, own_S p e below s₁ (mkF m 21 (own_AIIIIIIIUUUUU p0 p1 p2 p3 p4 v7 v12) [(.int v21)]) t → own_S p e below s₁ (mkF m 12 (own_AIIIIIIUUUUUU p0 p1 p2 p3 p4 v7) [(.int v12)]) t := by
    intro t k
    rw [hv21] at k
    show own_S p e below s₁ (mkF m 12 (own_AIIIIIIUUUUUU p0 p1 p2 p3 p4 v7) [(.int v12)]) _
    refine XS.istore X0.here hx rfl (hb hby at_12) rfl (l' := (own_AIIIIIIIUUUUU p0 p1 p2 p3 p4 v7 v12)) rfl ?_
    show own_S p e below s₁ (mkF m 14 (own_AIIIIIIIUUUUU p0 p1 p2 p3 p4 v7 v12) []) _
    refine XS.iloadN X0.here hx rfl (hb hby at_14) rfl ?_
    show own_S p e below s₁ (mkF m 15 (own_AIIIIIIIUUUUU p0 p1 p2 p3 p4 v7 v12) [(.int p2)]) _
    refine X0.ldcInt hx hown (mvT hZ (hw _ (List.mem_of_getElem? (i := 0) rfl))) (g := (mkF m 15 (own_AIIIIIIIUUUUU p0 p1 p2 p3 p4 v7 v12) [(.int p2)])) rfl (hb hby at_15) _ ?_
    show own_S p e below s₁ (mkF m 17 (own_AIIIIIIIUUUUU p0 p1 p2 p3 p4 v7 v12) [(.int (2147483647 : Int32)), (.int p2)]) _
    refine XS.iand X0.here hx rfl (hb hby at_17) rfl ?_
    show own_S p e below s₁ (mkF m 18 (own_AIIIIIIIUUUUU p0 p1 p2 p3 p4 v7 v12) [(.int (p2 &&& (2147483647 : Int32)))]) _
    refine XS.bipush X0.here hx rfl (hb hby at_18) ?_
    show own_S p e below s₁ (mkF m 20 (own_AIIIIIIIUUUUU p0 p1 p2 p3 p4 v7 v12) [(.int (18 : Int32)), (.int (p2 &&& (2147483647 : Int32)))]) _
    refine iremM X0 hx rfl (hb hby at_20) rfl (by decide) ?_
    exact k
  refine own_by sg21 ?_
  obtain ⟨v29, hv29⟩ : ∃ z : Int32, z = ((p3 &&& (255 : Int32)).toUInt32.toUInt16.toUInt32.toInt32) := ⟨_, rfl⟩
  have hk_v29 : ¬ v29 < 0 ∧ ¬ (255 : Int32) < v29 := by rw [hv29]; exact own_c255 _
  have sg29 : ∀ t, own_S p e below s₁ (mkF m 29 (own_AIIIIIIIIUUUU p0 p1 p2 p3 p4 v7 v12 v21) [(.int v29)]) t → own_S p e below s₁ (mkF m 21 (own_AIIIIIIIUUUUU p0 p1 p2 p3 p4 v7 v12) [(.int v21)]) t := by
    intro t k
    rw [hv29] at k
    show own_S p e below s₁ (mkF m 21 (own_AIIIIIIIUUUUU p0 p1 p2 p3 p4 v7 v12) [(.int v21)]) _
    refine XS.istore X0.here hx rfl (hb hby at_21) rfl (l' := (own_AIIIIIIIIUUUU p0 p1 p2 p3 p4 v7 v12 v21)) rfl ?_
    show own_S p e below s₁ (mkF m 23 (own_AIIIIIIIIUUUU p0 p1 p2 p3 p4 v7 v12 v21) []) _
    refine XS.iloadN X0.here hx rfl (hb hby at_23) rfl ?_
    show own_S p e below s₁ (mkF m 24 (own_AIIIIIIIIUUUU p0 p1 p2 p3 p4 v7 v12 v21) [(.int p3)]) _
    refine XS.sipush X0.here hx rfl (hb hby at_24) ?_
    show own_S p e below s₁ (mkF m 27 (own_AIIIIIIIIUUUU p0 p1 p2 p3 p4 v7 v12 v21) [(.int (255 : Int32)), (.int p3)]) _
    refine XS.iand X0.here hx rfl (hb hby at_27) rfl ?_
    show own_S p e below s₁ (mkF m 28 (own_AIIIIIIIIUUUU p0 p1 p2 p3 p4 v7 v12 v21) [(.int (p3 &&& (255 : Int32)))]) _
    refine XS.i2c X0.here hx rfl (hb hby at_28) rfl ?_
    exact k
  refine own_by sg29 ?_
  have sg33 : ∀ t, own_S p e below s₁ (mkF m 33 (own_AIIIIIIIIIUUU p0 p1 p2 p3 p4 v7 v12 v21 v29) [(.int v7)]) t → own_S p e below s₁ (mkF m 29 (own_AIIIIIIIIUUUU p0 p1 p2 p3 p4 v7 v12 v21) [(.int v29)]) t := by
    intro t k
    show own_S p e below s₁ (mkF m 29 (own_AIIIIIIIIUUUU p0 p1 p2 p3 p4 v7 v12 v21) [(.int v29)]) _
    refine XS.istore X0.here hx rfl (hb hby at_29) rfl (l' := (own_AIIIIIIIIIUUU p0 p1 p2 p3 p4 v7 v12 v21 v29)) rfl ?_
    show own_S p e below s₁ (mkF m 31 (own_AIIIIIIIIIUUU p0 p1 p2 p3 p4 v7 v12 v21 v29) []) _
    refine XS.iload X0.here hx rfl (hb hby at_31) rfl ?_
    exact k
  refine own_by sg33 ?_
  by_cases hc33 : v7 = (0 : Int32)
  · have sg36 : ∀ t, own_S p e below s₁ (mkF m 36 (own_AIIIIIIIIIUUU p0 p1 p2 p3 p4 v7 v12 v21 v29) []) t → own_S p e below s₁ (mkF m 33 (own_AIIIIIIIIIUUU p0 p1 p2 p3 p4 v7 v12 v21 v29) [(.int v7)]) t := by
      intro t k
      show own_S p e below s₁ (mkF m 33 (own_AIIIIIIIIIUUU p0 p1 p2 p3 p4 v7 v12 v21 v29) [(.int v7)]) _
      refine XS.ifNo X0.here hx rfl (hb hby at_33) rfl ((if0 _ _).trans (teq hc33).2) ?_
      exact k
    refine own_by sg36 ?_
    obtain ⟨T36, h36, X36, e36, E36, A36, D36, -, st36⟩ := newO X0 hx hZ hown (hw _ (List.mem_of_getElem? (i := 1) rfl)) (hw _ (List.mem_of_getElem? (i := 2) rfl)) (hw _ (List.mem_of_getElem? (i := 3) rfl)) e0 (g := (mkF m 36 (own_AIIIIIIIIIUUU p0 p1 p2 p3 p4 v7 v12 v21 v29) [])) rfl (hb hby at_36) (by decide) (by decide)
    obtain ⟨b36, g36⟩ : ∃ z, z = h0.size := ⟨_, rfl⟩
    rw [← g36] at A36 D36 st36
    have g_b36 : n0 ≤ b36 := Nat.le_trans Z0 (Nat.le_of_eq g36.symm)
    have sz_b36 : h0.size ≤ b36 := Nat.le_trans K0.1 (Nat.le_of_eq g36.symm)
    have K36 := K0.ext E36
    have Z36 : n0 ≤ h36.size := Nat.le_trans Z0 E36.1
    have CC36 := CHr.ext E36 hH0
    have CR36 := (CHr.refl hH0).trans CC36
    have F_coder_b36 : Fld Z h36 b36 "java/lang/String" "coder" "B" (.int (0 : Int32)) := D36 (Or.inr (hw _ (List.mem_of_getElem? (i := 32) rfl))) (ty := .byte) (by decide)
    have F_value_b36 : Fld Z h36 b36 "java/lang/String" "value" "[B" .null := D36 (Or.inr (hw _ (List.mem_of_getElem? (i := 34) rfl))) (ty := (.array .byte)) (by decide)
    refine own_by st36 ?_
    have sg42 : ∀ t, own_S p e below T36 (mkF m 42 (own_AIIIIIIIIIUUU p0 p1 p2 p3 p4 v7 v12 v21 v29) [(.int v12), (.ref b36), (.ref b36)]) t → own_S p e below T36 (mkF m 39 (own_AIIIIIIIIIUUU p0 p1 p2 p3 p4 v7 v12 v21 v29) [(.ref b36)]) t := by
      intro t k
      show own_S p e below T36 (mkF m 39 (own_AIIIIIIIIIUUU p0 p1 p2 p3 p4 v7 v12 v21 v29) [(.ref b36)]) _
      refine XS.dup X36.here hx rfl (hb hby at_39) rfl rfl ?_
      show own_S p e below T36 (mkF m 40 (own_AIIIIIIIIIUUU p0 p1 p2 p3 p4 v7 v12 v21 v29) [(.ref b36), (.ref b36)]) _
      refine XS.iload X36.here hx rfl (hb hby at_40) rfl ?_
      exact k
    refine own_by sg42 ?_
    obtain ⟨_, _, ⟨T42, L42, k42, n42⟩, -, X42, ⟨Lc42, hQ42, l42, y42, z42⟩, st42⟩ := Jvm.LawKit.callS X36 hx (y := (⟨"com/example/writd/writd/model/GrantTypeFromValuePinLaw", "name18", "(I)[C"⟩ : MethodName)) hown (mvT hZ (hw _ (List.mem_of_getElem? (i := 4) rfl))) (mvT hZ (hw _ (List.mem_of_getElem? (i := 5) rfl))) (mvT hZ (hw _ (List.mem_of_getElem? (i := 6) rfl))) (mvT hZ (hw _ (List.mem_of_getElem? (i := 7) rfl))) (by decide) (backOf (W := 2) (rm1 l Z a0 hw [] v12 h36 n0 Z36 ) hZ (hw _ (List.mem_of_getElem? (i := 7) rfl)) (hw _ (List.mem_of_getElem? (i := 6) rfl)) (by decide) (by decide)) (g := (mkF m 42 (own_AIIIIIIIIIUUU p0 p1 p2 p3 p4 v7 v12 v21 v29) [(.int v12), (.ref b36), (.ref b36)])) rfl (by rw [hml]; rfl) (argsL := [(.int v12)]) (rest := [(.ref b36), (.ref b36)]) (lenOf pd_0_0 rfl) rfl (by show 2 * 0 + _ ≤ _; exact Nat.le_of_eq rfl) (hb hby at_42) (fun _ _ => ⟨rfl, e36, (by decide : 1 + 1 ≤ _), (by decide : 4 + 18 ≤ _)⟩)
    dsimp only [Pt.U, Pt.locs, Pt.cells, Pt.slots] at X42 l42 y42 z42 st42 hQ42
    subst l42 y42 z42
    obtain ⟨r42, kc42, rfl, ge42, N42q, Kq42, Aq42⟩ := hQ42
    have N42 := Fr.app N0 N42q
    have ln42 : (own_n18 v12).length = 18 := own_n18_len _
    rw [ln42] at Aq42
    have An42 : Arv Z T42.heap r42 kc42 .char (18 : Int32) ((own_n18 v12).map Value.int) (.int (0 : Int32)) := Aq42
    have hp42 : ∀ c ∈ (own_n18 v12), ¬ c < 0 ∧ ¬ (255 : Int32) < c := own_n18_hp _
    have ne_b36_r42 : b36 ≠ r42 := Nat.ne_of_lt (Nat.lt_of_lt_of_le A36.lt ge42)
    have g_r42 : n0 ≤ r42 := Nat.le_trans Z36 ge42
    have sz_r42 : h0.size ≤ r42 := Nat.le_trans K36.1 ge42
    have K42 : Keep h0 T42.heap [] := K36.trans Kq42 (fun x hx => nomatch hx)
    have Z42 : n0 ≤ T42.heap.size := Nat.le_trans Z36 Kq42.1
    have CC42 := CHr.keep Kq42 sf0 CC36.1
    have CR42 := CR36.trans CC42
    refine own_by st42 ?_
    obtain ⟨_, _, ⟨T45, L45, k45, n45⟩, -, X45, ⟨Lc45, hQ45, l45, y45, z45⟩, st45⟩ := X42.specialBack hx (y := (⟨"java/lang/String", "<init>", "([C)V"⟩ : MethodName)) rfl hown (mvT hZ (hw _ (List.mem_of_getElem? (i := 9) rfl))) (mvT hZ (hw _ (List.mem_of_getElem? (i := 10) rfl))) (mvT hZ (hw _ (List.mem_of_getElem? (i := 11) rfl))) (by decide) (StrChars.Road.backV (W := 1) hZ hws (kI := 4) (hw _ (List.mem_of_getElem? (i := 2) rfl)) (cs := (own_n18 v12)) (bs := (own_n18 v12).map (fun c => c.toInt8.toInt32)) (n := 18) g_b36 Z42 (A36.keep Kq42) (F_value_b36.keep Kq42 List.not_mem_nil) (F_coder_b36.keep Kq42 List.not_mem_nil) An42 (O2.ext ((O.ext E36).keep Kq42 all0).2) P5 ln42 rfl (by decide) (by decide) hp42 rfl (by decide) (by decide)) (g := (mkF m 45 (own_AIIIIIIIIIUUU p0 p1 p2 p3 p4 v7 v12 v21 v29) [(.ref r42), (.ref b36), (.ref b36)])) rfl (by rw [hml]; rfl) (Steps.refl _) (a := b36) (argsL := [(.ref r42)]) (rest := [(.ref b36)]) (lenOf pd_0_1 rfl) rfl (by show 2 * 0 + _ ≤ _; exact Nat.le_of_eq rfl) (hb hby at_45) (fun _ _ => ⟨rfl, rfl, (by decide : 2 + 1 ≤ _), (by decide : 22 + 18 ≤ _)⟩)
    dsimp only [Pt.U, Pt.locs, Pt.cells, Pt.slots] at X45 l45 y45 z45 st45 hQ45
    subst l45 y45 z45
    obtain ⟨rfl, N45q, Kq45, Eq45, Cq45, t45, kb45, u145, u245, u345, Vq45, Aq45⟩ := hQ45
    have N45 := Fr.app N42 N45q
    have Sq45 : own_Str Z T45.heap b36 (own_n18 v12) := ⟨t45, kb45, 0, _, _, Eq45, Vq45, Cq45, Aq45, StrChars.Road.codOf (n := 18) ln42 (fun x hx => (hp42 x hx).2), own_up _ hp42, by rw [ln42]; decide⟩
    have fc := (An42.keep Kq45 (fun h => (Ne.symm ne_b36_r42) (List.mem_singleton.mp h)))
    have K45 : Keep h0 T45.heap [] := K42.trans Kq45 (fun x hx => by cases List.mem_singleton.mp hx; exact Or.inr sz_b36)
    have Z45 : n0 ≤ T45.heap.size := Nat.le_trans Z42 Kq45.1
    have CC45 := CHr.keep Kq45 (sfS (own_safe0 hZ.alike (A36.keep Kq42) (F_value_b36.keep Kq42 List.not_mem_nil) (hw _ (List.mem_of_getElem? (i := 2) rfl))) sf0) CC42.1
    have CR45 := CR42.trans CC45
    refine own_by (fun t k => st45.trans k) ?_
    have sg233 : ∀ t, own_S p e below T45 (mkF m 233 (own_AIIIIIIIIIRUU p0 p1 p2 p3 p4 v7 v12 v21 v29 b36) [(.ref b36)]) t → own_S p e below T45 (mkF m 48 (own_AIIIIIIIIIUUU p0 p1 p2 p3 p4 v7 v12 v21 v29) [(.ref b36)]) t := by
      intro t k
      show own_S p e below T45 (mkF m 48 (own_AIIIIIIIIIUUU p0 p1 p2 p3 p4 v7 v12 v21 v29) [(.ref b36)]) _
      refine XS.astore X45.here hx rfl (hb hby at_48) rfl rfl (l' := (own_AIIIIIIIIIRUU p0 p1 p2 p3 p4 v7 v12 v21 v29 b36)) rfl ?_
      show own_S p e below T45 (mkF m 50 (own_AIIIIIIIIIRUU p0 p1 p2 p3 p4 v7 v12 v21 v29 b36) []) _
      refine XS.goto X45.here hx rfl (pc0 := 50) (pc' := 231) rfl (hb hby at_50) (by decide) (by decide) ?_
      show own_S p e below T45 (mkF m 231 (own_AIIIIIIIIIRUU p0 p1 p2 p3 p4 v7 v12 v21 v29 b36) []) _
      refine XS.aload X45.here hx rfl (hb hby at_231) rfl rfl ?_
      exact k
    refine own_by sg233 ?_
    obtain ⟨_, _, ⟨T233, L233, k233, n233⟩, -, X233, ⟨Lc233, hQ233, l233, y233, z233⟩, st233⟩ := Jvm.LawKit.callS X45 hx (y := (⟨"com/example/writd/writd/model/GrantType", "fromValue", "(Ljava/lang/String;)Lcom/example/writd/writd/model/GrantType;"⟩ : MethodName)) hown (mvT hZ (hw _ (List.mem_of_getElem? (i := 35) rfl))) (mvT hZ (hw _ (List.mem_of_getElem? (i := 36) rfl))) (mvT hZ (hw _ (List.mem_of_getElem? (i := 37) rfl))) (mvT hZ (hw _ (List.mem_of_getElem? (i := 38) rfl))) (by decide) (backOf (W := 0) (rm8 l Z a0 hw [] b36 (own_n18 v12) wV cl wAUTHORIZATION_CODE wCLIENT_CREDENTIALS sAUTHORIZATION_CODE sCLIENT_CREDENTIALS gz T45.heap n0 Z45 (((O.ext E36).keep Kq42 all0).keep Kq45 (allS g_b36 all0)) O2 P5 S_V Ar_V E_V FC hsz hat0 hat1 FV_AUTHORIZATION_CODE FV_CLIENT_CREDENTIALS EX_AUTHORIZATION_CODE EX_CLIENT_CREDENTIALS Str_AUTHORIZATION_CODE Str_CLIENT_CREDENTIALS Sq45) hZ (hw _ (List.mem_of_getElem? (i := 38) rfl)) (hw _ (List.mem_of_getElem? (i := 37) rfl)) (by decide) (by decide)) (g := (mkF m 233 (own_AIIIIIIIIIRUU p0 p1 p2 p3 p4 v7 v12 v21 v29 b36) [(.ref b36)])) rfl (by rw [hml]; rfl) (argsL := [(.ref b36)]) (rest := []) (lenOf pd_0_2 rfl) rfl (by show 2 * 0 + _ ≤ _; exact Nat.le_of_eq rfl) (hb hby at_233) (fun _ _ => ⟨rfl, rfl, (by decide : 3 + 1 ≤ _), (by decide : 40 + 2 ≤ _)⟩)
    dsimp only [Pt.U, Pt.locs, Pt.cells, Pt.slots] at X233 l233 y233 z233 st233 hQ233
    subst l233 y233 z233
    obtain ⟨rfl, N233q, Kq233⟩ := hQ233
    have N233 := Fr.app N45 N233q
    have K233 : Keep h0 T233.heap [] := K45.trans Kq233 (fun x hx => nomatch hx)
    have Z233 : n0 ≤ T233.heap.size := Nat.le_trans Z45 Kq233.1
    have CC233 := CHr.keep Kq233 sf0 CC45.1
    have CR233 := CR45.trans CC233
    obtain ⟨g233, hg233⟩ : ∃ z : Value, z = (if ([(97 : Int32), (117 : Int32), (116 : Int32), (104 : Int32), (111 : Int32), (114 : Int32), (105 : Int32), (122 : Int32), (97 : Int32), (116 : Int32), (105 : Int32), (111 : Int32), (110 : Int32), (95 : Int32), (99 : Int32), (111 : Int32), (100 : Int32), (101 : Int32)] : List Int32) = (own_n18 v12) then Value.ref wAUTHORIZATION_CODE else (if ([(99 : Int32), (108 : Int32), (105 : Int32), (101 : Int32), (110 : Int32), (116 : Int32), (95 : Int32), (99 : Int32), (114 : Int32), (101 : Int32), (100 : Int32), (101 : Int32), (110 : Int32), (116 : Int32), (105 : Int32), (97 : Int32), (108 : Int32), (115 : Int32)] : List Int32) = (own_n18 v12) then Value.ref wCLIENT_CREDENTIALS else Value.null)) := ⟨_, rfl⟩
    rw [← hg233] at st233
    have hgr233 : g233.isRef = true := by rw [hg233]; repeat' (first | rfl | (refine own_isr rfl ?_))
    refine own_by st233 ?_
    have sg251 : ∀ t, own_S p e below T233 (mkF m 251 (own_AIIIIIIIIIRVU p0 p1 p2 p3 p4 v7 v12 v21 v29 b36 g233) [(.ref b36)]) t → own_S p e below T233 (mkF m 236 (own_AIIIIIIIIIRUU p0 p1 p2 p3 p4 v7 v12 v21 v29 b36) [g233]) t := by
      intro t k
      show own_S p e below T233 (mkF m 236 (own_AIIIIIIIIIRUU p0 p1 p2 p3 p4 v7 v12 v21 v29 b36) [g233]) _
      refine XS.astore X233.here hx rfl (hb hby at_236) rfl hgr233 (l' := (own_AIIIIIIIIIRVU p0 p1 p2 p3 p4 v7 v12 v21 v29 b36 g233)) (by simp [storeLocals, storeSelf, setAt, own_cat1 hgr233, own_catr, own_catn]) ?_
      show own_S p e below T233 (mkF m 238 (own_AIIIIIIIIIRVU p0 p1 p2 p3 p4 v7 v12 v21 v29 b36 g233) []) _
      refine XS.aload X233.here hx rfl (hb hby at_238) rfl rfl ?_
      show own_S p e below T233 (mkF m 240 (own_AIIIIIIIIIRVU p0 p1 p2 p3 p4 v7 v12 v21 v29 b36 g233) [(.ref b36)]) _
      refine XS.ifnonnullYes X233.here hx rfl (pc0 := 240) (pc' := 249) rfl (hb hby at_240) rfl (by decide) (by decide) ?_
      show own_S p e below T233 (mkF m 249 (own_AIIIIIIIIIRVU p0 p1 p2 p3 p4 v7 v12 v21 v29 b36 g233) []) _
      refine XS.aload X233.here hx rfl (hb hby at_249) rfl rfl ?_
      exact k
    refine own_by sg251 ?_
    obtain ⟨l251a, T251, h251, ks251, lb251, lk251, X251, e251, E251, hS251, hk251, hZ251, hown251, lE251, lC251, lV251, lA251, la1251, la2251, hC251, -, hsf251, st251⟩ := ldcCH X233 hx hZ hown (hw _ (List.mem_of_getElem? (i := 68) rfl)) wS rfl hS0 (Nat.le_trans (Nat.le_trans (Nat.le_trans (Nat.le_trans (Nat.zero_le _) E36.1) Kq42.1) Kq45.1) Kq233.1) hEL (by decide) CC233.1 (vs := [(.int (97 : Int32)), (.int (117 : Int32)), (.int (116 : Int32)), (.int (104 : Int32)), (.int (111 : Int32)), (.int (114 : Int32)), (.int (105 : Int32)), (.int (122 : Int32)), (.int (97 : Int32)), (.int (116 : Int32)), (.int (105 : Int32)), (.int (111 : Int32)), (.int (110 : Int32)), (.int (95 : Int32)), (.int (99 : Int32)), (.int (111 : Int32)), (.int (100 : Int32)), (.int (101 : Int32))]) (z := (18 : Int32)) ⟨by decide, by decide⟩ (by decide) (by decide) (g := (mkF m 251 (own_AIIIIIIIIIRVU p0 p1 p2 p3 p4 v7 v12 v21 v29 b36 g233) [(.ref b36)])) rfl (hb hby at_251) (n := 72) (by decide) (by decide) (by decide) (by decide)
    have K251 := K233.ext E251
    have Z251 : n0 ≤ h251.size := Nat.le_trans Z233 E251.1
    have CR251 := CR233.trans hC251
    refine own_by st251 ?_
    obtain ⟨tx253, kx253, dx253, nx253, vx253, xe253, xv253, xc253, xk253, xh253, xb253, xl253⟩ := id ((Sq45.ext (own_kx Kq233)).ext E251)
    obtain ⟨ty253, ky253, dy253, ny253, vy253, ye253, yv253, yc253, yk253, yh253, yb253, yl253⟩ := id (⟨lb251, lk251, 0, (18 : Int32), _, lE251, lV251, lC251, lA251, Or.inl ⟨rfl, rfl, rfl, by decide⟩, by decide, by decide⟩ : own_Str Z h251 l251a ([(97 : Int32), (117 : Int32), (116 : Int32), (104 : Int32), (111 : Int32), (114 : Int32), (105 : Int32), (122 : Int32), (97 : Int32), (116 : Int32), (105 : Int32), (111 : Int32), (110 : Int32), (95 : Int32), (99 : Int32), (111 : Int32), (100 : Int32), (101 : Int32)] : List Int32))
    obtain ⟨cq253, kq253, q253a, q253b, q253c⟩ := isOf hZ251 e251 ((Eq45.keep Kq233).ext E251)
    obtain ⟨_, _, ⟨T253, L253, k253, n253⟩, -, X253, ⟨Lc253, hQ253, l253, y253, z253⟩, st253⟩ := X251.virtualBack hx (y := (⟨"java/lang/String", "equals", "(Ljava/lang/Object;)Z"⟩ : MethodName)) (z := (⟨"java/lang/String", "equals", "(Ljava/lang/Object;)Z"⟩ : MethodName)) hown251 (mvT hZ251 (hw _ (List.mem_of_getElem? (i := 71) rfl))) (mvT hZ251 (hw _ (List.mem_of_getElem? (i := 59) rfl))) (notFace_of_selects (args := #[]) (mvT hZ251 (hw _ (List.mem_of_getElem? (i := 61) rfl)))) (mvT hZ251 (hw _ (List.mem_of_getElem? (i := 61) rfl))) (mvT hZ251 (hw _ (List.mem_of_getElem? (i := 60) rfl))) (by decide) (StrChars.Road.eqW (W := 0) hZ251 heq (kI := 4) (hw _ (List.mem_of_getElem? (i := 2) rfl)) xe253 xv253 xc253 xk253 xh253 xb253 xl253 ye253 yv253 yc253 yk253 yh253 yb253 yl253 (O2.ext (((((O.ext E36).keep Kq42 all0).keep Kq45 (allS g_b36 all0)).keep Kq233 all0).ext E251).2) P5 (by decide) (by decide)) q253a q253c (g := (mkF m 253 (own_AIIIIIIIIIRVU p0 p1 p2 p3 p4 v7 v12 v21 v29 b36 g233) [(.ref l251a), (.ref b36)])) rfl (by rw [hml]; rfl) (Steps.refl _) (argsL := [(.ref l251a)]) (rest := []) (lenOf pd_0_3 rfl) rfl (by show 2 * 0 + _ ≤ _; exact Nat.le_of_eq rfl) (hb hby at_253) (fun _ _ => ⟨rfl, e251, (by decide : 6 + 0 ≤ _), (by decide : 118 + 0 ≤ _)⟩)
    dsimp only [Pt.U, Pt.locs, Pt.cells, Pt.slots] at X253 l253 y253 z253 st253 hQ253
    subst l253 y253 z253
    obtain ⟨hv253, rfl, hq253⟩ := hQ253
    obtain rfl := own_eqv hv253
    have N253 := Fr.app N233 (Fr.nil n0)
    obtain ⟨c253, hc253⟩ : ∃ z : Int32, z = (if (own_n18 v12) = ([(97 : Int32), (117 : Int32), (116 : Int32), (104 : Int32), (111 : Int32), (114 : Int32), (105 : Int32), (122 : Int32), (97 : Int32), (116 : Int32), (105 : Int32), (111 : Int32), (110 : Int32), (95 : Int32), (99 : Int32), (111 : Int32), (100 : Int32), (101 : Int32)] : List Int32) then (1 : Int32) else (0 : Int32)) := ⟨_, rfl⟩
    rw [← hc253] at st253
    refine own_by (fun t k => st253.trans k) ?_
    by_cases hc256 : c253 = (0 : Int32)
    · have sg269 : ∀ t, own_S p e below T253 (mkF m 269 (own_AIIIIIIIIIRVU p0 p1 p2 p3 p4 v7 v12 v21 v29 b36 g233) [(.ref b36)]) t → own_S p e below T253 (mkF m 256 (own_AIIIIIIIIIRVU p0 p1 p2 p3 p4 v7 v12 v21 v29 b36 g233) [(.int c253)]) t := by
        intro t k
        show own_S p e below T253 (mkF m 256 (own_AIIIIIIIIIRVU p0 p1 p2 p3 p4 v7 v12 v21 v29 b36 g233) [(.int c253)]) _
        refine XS.ifYes X253.here hx rfl (pc0 := 256) (pc' := 267) rfl (hb hby at_256) rfl ((if0 _ _).trans (teq hc256).1) (by decide) (by decide) ?_
        show own_S p e below T253 (mkF m 267 (own_AIIIIIIIIIRVU p0 p1 p2 p3 p4 v7 v12 v21 v29 b36 g233) []) _
        refine XS.aload X253.here hx rfl (hb hby at_267) rfl rfl ?_
        exact k
      refine own_by sg269 ?_
      obtain ⟨l269a, T269, h269, ks269, lb269, lk269, X269, e269, E269, hS269, hk269, hZ269, hown269, lE269, lC269, lV269, lA269, la1269, la2269, hC269, -, hsf269, st269⟩ := ldcCH X253 hx hZ251 hown251 (hw _ (List.mem_of_getElem? (i := 72) rfl)) wS hq253 hS251 hk251 hEL (by decide) hC251.1 (vs := [(.int (99 : Int32)), (.int (108 : Int32)), (.int (105 : Int32)), (.int (101 : Int32)), (.int (110 : Int32)), (.int (116 : Int32)), (.int (95 : Int32)), (.int (99 : Int32)), (.int (114 : Int32)), (.int (101 : Int32)), (.int (100 : Int32)), (.int (101 : Int32)), (.int (110 : Int32)), (.int (116 : Int32)), (.int (105 : Int32)), (.int (97 : Int32)), (.int (108 : Int32)), (.int (115 : Int32))]) (z := (18 : Int32)) ⟨by decide, by decide⟩ (by decide) (by decide) (g := (mkF m 269 (own_AIIIIIIIIIRVU p0 p1 p2 p3 p4 v7 v12 v21 v29 b36 g233) [(.ref b36)])) rfl (hb hby at_269) (n := 72) (by decide) (by decide) (by decide) (by decide)
      have K269 := K251.ext E269
      have Z269 : n0 ≤ h269.size := Nat.le_trans Z251 E269.1
      have CR269 := CR251.trans hC269
      refine own_by st269 ?_
      obtain ⟨tx271, kx271, dx271, nx271, vx271, xe271, xv271, xc271, xk271, xh271, xb271, xl271⟩ := id (((Sq45.ext (own_kx Kq233)).ext E251).ext E269)
      obtain ⟨ty271, ky271, dy271, ny271, vy271, ye271, yv271, yc271, yk271, yh271, yb271, yl271⟩ := id (⟨lb269, lk269, 0, (18 : Int32), _, lE269, lV269, lC269, lA269, Or.inl ⟨rfl, rfl, rfl, by decide⟩, by decide, by decide⟩ : own_Str Z h269 l269a ([(99 : Int32), (108 : Int32), (105 : Int32), (101 : Int32), (110 : Int32), (116 : Int32), (95 : Int32), (99 : Int32), (114 : Int32), (101 : Int32), (100 : Int32), (101 : Int32), (110 : Int32), (116 : Int32), (105 : Int32), (97 : Int32), (108 : Int32), (115 : Int32)] : List Int32))
      obtain ⟨cq271, kq271, q271a, q271b, q271c⟩ := isOf hZ269 e269 (((Eq45.keep Kq233).ext E251).ext E269)
      obtain ⟨_, _, ⟨T271, L271, k271, n271⟩, -, X271, ⟨Lc271, hQ271, l271, y271, z271⟩, st271⟩ := X269.virtualBack hx (y := (⟨"java/lang/String", "equals", "(Ljava/lang/Object;)Z"⟩ : MethodName)) (z := (⟨"java/lang/String", "equals", "(Ljava/lang/Object;)Z"⟩ : MethodName)) hown269 (mvT hZ269 (hw _ (List.mem_of_getElem? (i := 71) rfl))) (mvT hZ269 (hw _ (List.mem_of_getElem? (i := 59) rfl))) (notFace_of_selects (args := #[]) (mvT hZ269 (hw _ (List.mem_of_getElem? (i := 61) rfl)))) (mvT hZ269 (hw _ (List.mem_of_getElem? (i := 61) rfl))) (mvT hZ269 (hw _ (List.mem_of_getElem? (i := 60) rfl))) (by decide) (StrChars.Road.eqW (W := 0) hZ269 heq (kI := 4) (hw _ (List.mem_of_getElem? (i := 2) rfl)) xe271 xv271 xc271 xk271 xh271 xb271 xl271 ye271 yv271 yc271 yk271 yh271 yb271 yl271 (O2.ext ((((((O.ext E36).keep Kq42 all0).keep Kq45 (allS g_b36 all0)).keep Kq233 all0).ext E251).ext E269).2) P5 (by decide) (by decide)) q271a q271c (g := (mkF m 271 (own_AIIIIIIIIIRVU p0 p1 p2 p3 p4 v7 v12 v21 v29 b36 g233) [(.ref l269a), (.ref b36)])) rfl (by rw [hml]; rfl) (Steps.refl _) (argsL := [(.ref l269a)]) (rest := []) (lenOf pd_0_3 rfl) rfl (by show 2 * 0 + _ ≤ _; exact Nat.le_of_eq rfl) (hb hby at_271) (fun _ _ => ⟨rfl, e269, (by decide : 8 + 0 ≤ _), (by decide : 194 + 0 ≤ _)⟩)
      dsimp only [Pt.U, Pt.locs, Pt.cells, Pt.slots] at X271 l271 y271 z271 st271 hQ271
      subst l271 y271 z271
      obtain ⟨hv271, rfl, hq271⟩ := hQ271
      obtain rfl := own_eqv hv271
      have N271 := Fr.app N253 (Fr.nil n0)
      obtain ⟨c271, hc271⟩ : ∃ z : Int32, z = (if (own_n18 v12) = ([(99 : Int32), (108 : Int32), (105 : Int32), (101 : Int32), (110 : Int32), (116 : Int32), (95 : Int32), (99 : Int32), (114 : Int32), (101 : Int32), (100 : Int32), (101 : Int32), (110 : Int32), (116 : Int32), (105 : Int32), (97 : Int32), (108 : Int32), (115 : Int32)] : List Int32) then (1 : Int32) else (0 : Int32)) := ⟨_, rfl⟩
      rw [← hc271] at st271
      refine own_by (fun t k => st271.trans k) ?_
      by_cases hc274 : c271 = (0 : Int32)
      · have sg300 : ∀ t, own_S p e below T271 (mkF m 300 (own_AIIIIIIIIIRVN p0 p1 p2 p3 p4 v7 v12 v21 v29 b36 g233) [(.int (1 : Int32))]) t → own_S p e below T271 (mkF m 274 (own_AIIIIIIIIIRVU p0 p1 p2 p3 p4 v7 v12 v21 v29 b36 g233) [(.int c271)]) t := by
          intro t k
          show own_S p e below T271 (mkF m 274 (own_AIIIIIIIIIRVU p0 p1 p2 p3 p4 v7 v12 v21 v29 b36 g233) [(.int c271)]) _
          refine XS.ifYes X271.here hx rfl (pc0 := 274) (pc' := 285) rfl (hb hby at_274) rfl ((if0 _ _).trans (teq hc274).1) (by decide) (by decide) ?_
          show own_S p e below T271 (mkF m 285 (own_AIIIIIIIIIRVU p0 p1 p2 p3 p4 v7 v12 v21 v29 b36 g233) []) _
          refine XS.aconstNull X271.here hx rfl (hb hby at_285) ?_
          show own_S p e below T271 (mkF m 286 (own_AIIIIIIIIIRVU p0 p1 p2 p3 p4 v7 v12 v21 v29 b36 g233) [.null]) _
          refine XS.astore X271.here hx rfl (hb hby at_286) rfl rfl (l' := (own_AIIIIIIIIIRVN p0 p1 p2 p3 p4 v7 v12 v21 v29 b36 g233)) rfl ?_
          show own_S p e below T271 (mkF m 288 (own_AIIIIIIIIIRVN p0 p1 p2 p3 p4 v7 v12 v21 v29 b36 g233) []) _
          refine XS.aload X271.here hx rfl (hb hby at_288) rfl hgr233 ?_
          show own_S p e below T271 (mkF m 290 (own_AIIIIIIIIIRVN p0 p1 p2 p3 p4 v7 v12 v21 v29 b36 g233) [g233]) _
          refine XS.aload X271.here hx rfl (hb hby at_290) rfl rfl ?_
          show own_S p e below T271 (mkF m 292 (own_AIIIIIIIIIRVN p0 p1 p2 p3 p4 v7 v12 v21 v29 b36 g233) [.null, g233]) _
          refine Jvm.RoadKit.acmp (g := (mkF m 292 (own_AIIIIIIIIIRVN p0 p1 p2 p3 p4 v7 v12 v21 v29 b36 g233) [.null, g233])) X271 hx rfl hgr233 rfl (pc0 := 292) (pc' := 295) (same := true) rfl (hb hby at_292) rfl (decide_eq_true (by rw [hg233, if_neg (fun q => own_if0 hc253 hc256 q.symm), if_neg (fun q => own_if0 hc271 hc274 q.symm)] : (g233 : Value) = .null)) (by decide) (by decide) ?_
          show own_S p e below T271 (mkF m 295 (own_AIIIIIIIIIRVN p0 p1 p2 p3 p4 v7 v12 v21 v29 b36 g233) []) _
          refine XS.iconst X271.here hx rfl (hb hby at_295) ?_
          show own_S p e below T271 (mkF m 296 (own_AIIIIIIIIIRVN p0 p1 p2 p3 p4 v7 v12 v21 v29 b36 g233) [(.int (1 : Int32))]) _
          refine XS.goto X271.here hx rfl (pc0 := 296) (pc' := 300) rfl (hb hby at_296) (by decide) (by decide) ?_
          exact k
        refine own_by sg300 ?_
        obtain ⟨fs, hr, hrun, hended, hW⟩ := X271.leaveW hS269 (by rw [hq271]; exact hk269) (v := some (.int (1 : Int32))) (fun h => by rw [Bd.returns] at h; cases h)
        refine ⟨_, _, ?_, hrun, hended, _, _, rfl, ?_, (by rw [hh]; show CHr Z consts_1 s.vm h0 T271.vm T271.heap; rw [hq271]; exact CR269.trans (CHv.at X271 hZ269 hEL hC269.1)), hW.1, hW.2.1, hW.2.2.1, hW.2.2.2.mono (by decide) (by decide)⟩
        · exact retN X271 hx (t := .boolean) Bd.returns (by simp) (hb hby at_300) hr
        · show Q0 Z p0 p1 p2 p3 p4 wV cl wAUTHORIZATION_CODE wCLIENT_CREDENTIALS sAUTHORIZATION_CODE sCLIENT_CREDENTIALS gz h0 n0 _ T271.heap _
          rw [hq271]
          exact ⟨rfl, N271⟩
      · have sg277 : ∀ t, own_S p e below T271 (mkF m 277 (own_AIIIIIIIIIRVU p0 p1 p2 p3 p4 v7 v12 v21 v29 b36 g233) []) t → own_S p e below T271 (mkF m 274 (own_AIIIIIIIIIRVU p0 p1 p2 p3 p4 v7 v12 v21 v29 b36 g233) [(.int c271)]) t := by
          intro t k
          show own_S p e below T271 (mkF m 274 (own_AIIIIIIIIIRVU p0 p1 p2 p3 p4 v7 v12 v21 v29 b36 g233) [(.int c271)]) _
          refine XS.ifNo X271.here hx rfl (hb hby at_274) rfl ((if0 _ _).trans (feq hc274).1) ?_
          exact k
        refine own_by sg277 ?_
        obtain ⟨T277, X277, e277, st277⟩ := getS2 X271 hx hZ269 hown269 (host := "") (Or.inl (hw _ (List.mem_of_getElem? (i := 73) rfl))) Via.refl hq271 (S_CLIENT_CREDENTIALS.ext ((((((O.ext E36).keep Kq42 all0).keep Kq45 (allS g_b36 all0)).keep Kq233 all0).ext E251).ext E269).2) (g := (mkF m 277 (own_AIIIIIIIIIRVU p0 p1 p2 p3 p4 v7 v12 v21 v29 b36 g233) [])) rfl (hb hby at_277)
        refine own_by st277 ?_
        have sg300 : ∀ t, own_S p e below T277 (mkF m 300 (own_AIIIIIIIIIRVR p0 p1 p2 p3 p4 v7 v12 v21 v29 b36 g233 wCLIENT_CREDENTIALS) [(.int (1 : Int32))]) t → own_S p e below T277 (mkF m 280 (own_AIIIIIIIIIRVU p0 p1 p2 p3 p4 v7 v12 v21 v29 b36 g233) [(.ref wCLIENT_CREDENTIALS)]) t := by
          intro t k
          show own_S p e below T277 (mkF m 280 (own_AIIIIIIIIIRVU p0 p1 p2 p3 p4 v7 v12 v21 v29 b36 g233) [(.ref wCLIENT_CREDENTIALS)]) _
          refine XS.astore X277.here hx rfl (hb hby at_280) rfl rfl (l' := (own_AIIIIIIIIIRVR p0 p1 p2 p3 p4 v7 v12 v21 v29 b36 g233 wCLIENT_CREDENTIALS)) rfl ?_
          show own_S p e below T277 (mkF m 282 (own_AIIIIIIIIIRVR p0 p1 p2 p3 p4 v7 v12 v21 v29 b36 g233 wCLIENT_CREDENTIALS) []) _
          refine XS.goto X277.here hx rfl (pc0 := 282) (pc' := 288) rfl (hb hby at_282) (by decide) (by decide) ?_
          show own_S p e below T277 (mkF m 288 (own_AIIIIIIIIIRVR p0 p1 p2 p3 p4 v7 v12 v21 v29 b36 g233 wCLIENT_CREDENTIALS) []) _
          refine XS.aload X277.here hx rfl (hb hby at_288) rfl hgr233 ?_
          show own_S p e below T277 (mkF m 290 (own_AIIIIIIIIIRVR p0 p1 p2 p3 p4 v7 v12 v21 v29 b36 g233 wCLIENT_CREDENTIALS) [g233]) _
          refine XS.aload X277.here hx rfl (hb hby at_290) rfl rfl ?_
          show own_S p e below T277 (mkF m 292 (own_AIIIIIIIIIRVR p0 p1 p2 p3 p4 v7 v12 v21 v29 b36 g233 wCLIENT_CREDENTIALS) [(.ref wCLIENT_CREDENTIALS), g233]) _
          refine Jvm.RoadKit.acmp (g := (mkF m 292 (own_AIIIIIIIIIRVR p0 p1 p2 p3 p4 v7 v12 v21 v29 b36 g233 wCLIENT_CREDENTIALS) [(.ref wCLIENT_CREDENTIALS), g233])) X277 hx rfl hgr233 rfl (pc0 := 292) (pc' := 295) (same := true) rfl (hb hby at_292) rfl (decide_eq_true (by rw [hg233, if_neg (fun q => own_if0 hc253 hc256 q.symm), if_pos (own_if1 hc271 hc274).symm] : (g233 : Value) = (.ref wCLIENT_CREDENTIALS))) (by decide) (by decide) ?_
          show own_S p e below T277 (mkF m 295 (own_AIIIIIIIIIRVR p0 p1 p2 p3 p4 v7 v12 v21 v29 b36 g233 wCLIENT_CREDENTIALS) []) _
          refine XS.iconst X277.here hx rfl (hb hby at_295) ?_
          show own_S p e below T277 (mkF m 296 (own_AIIIIIIIIIRVR p0 p1 p2 p3 p4 v7 v12 v21 v29 b36 g233 wCLIENT_CREDENTIALS) [(.int (1 : Int32))]) _
          refine XS.goto X277.here hx rfl (pc0 := 296) (pc' := 300) rfl (hb hby at_296) (by decide) (by decide) ?_
          exact k
        refine own_by sg300 ?_
        obtain ⟨fs, hr, hrun, hended, hW⟩ := X277.leaveW hS269 (by rw [e277]; exact hk269) (v := some (.int (1 : Int32))) (fun h => by rw [Bd.returns] at h; cases h)
        refine ⟨_, _, ?_, hrun, hended, _, _, rfl, ?_, (by rw [hh]; show CHr Z consts_1 s.vm h0 T277.vm T277.heap; rw [e277]; exact CR269.trans (CHv.at X277 hZ269 hEL hC269.1)), hW.1, hW.2.1, hW.2.2.1, hW.2.2.2.mono (by decide) (by decide)⟩
        · exact retN X277 hx (t := .boolean) Bd.returns (by simp) (hb hby at_300) hr
        · show Q0 Z p0 p1 p2 p3 p4 wV cl wAUTHORIZATION_CODE wCLIENT_CREDENTIALS sAUTHORIZATION_CODE sCLIENT_CREDENTIALS gz h0 n0 _ T277.heap _
          rw [e277]
          exact ⟨rfl, N271⟩
    · have sg259 : ∀ t, own_S p e below T253 (mkF m 259 (own_AIIIIIIIIIRVU p0 p1 p2 p3 p4 v7 v12 v21 v29 b36 g233) []) t → own_S p e below T253 (mkF m 256 (own_AIIIIIIIIIRVU p0 p1 p2 p3 p4 v7 v12 v21 v29 b36 g233) [(.int c253)]) t := by
        intro t k
        show own_S p e below T253 (mkF m 256 (own_AIIIIIIIIIRVU p0 p1 p2 p3 p4 v7 v12 v21 v29 b36 g233) [(.int c253)]) _
        refine XS.ifNo X253.here hx rfl (hb hby at_256) rfl ((if0 _ _).trans (feq hc256).1) ?_
        exact k
      refine own_by sg259 ?_
      obtain ⟨T259, X259, e259, st259⟩ := getS2 X253 hx hZ251 hown251 (host := "") (Or.inl (hw _ (List.mem_of_getElem? (i := 80) rfl))) Via.refl hq253 (S_AUTHORIZATION_CODE.ext (((((O.ext E36).keep Kq42 all0).keep Kq45 (allS g_b36 all0)).keep Kq233 all0).ext E251).2) (g := (mkF m 259 (own_AIIIIIIIIIRVU p0 p1 p2 p3 p4 v7 v12 v21 v29 b36 g233) [])) rfl (hb hby at_259)
      refine own_by st259 ?_
      have sg300 : ∀ t, own_S p e below T259 (mkF m 300 (own_AIIIIIIIIIRVR p0 p1 p2 p3 p4 v7 v12 v21 v29 b36 g233 wAUTHORIZATION_CODE) [(.int (1 : Int32))]) t → own_S p e below T259 (mkF m 262 (own_AIIIIIIIIIRVU p0 p1 p2 p3 p4 v7 v12 v21 v29 b36 g233) [(.ref wAUTHORIZATION_CODE)]) t := by
        intro t k
        show own_S p e below T259 (mkF m 262 (own_AIIIIIIIIIRVU p0 p1 p2 p3 p4 v7 v12 v21 v29 b36 g233) [(.ref wAUTHORIZATION_CODE)]) _
        refine XS.astore X259.here hx rfl (hb hby at_262) rfl rfl (l' := (own_AIIIIIIIIIRVR p0 p1 p2 p3 p4 v7 v12 v21 v29 b36 g233 wAUTHORIZATION_CODE)) rfl ?_
        show own_S p e below T259 (mkF m 264 (own_AIIIIIIIIIRVR p0 p1 p2 p3 p4 v7 v12 v21 v29 b36 g233 wAUTHORIZATION_CODE) []) _
        refine XS.goto X259.here hx rfl (pc0 := 264) (pc' := 288) rfl (hb hby at_264) (by decide) (by decide) ?_
        show own_S p e below T259 (mkF m 288 (own_AIIIIIIIIIRVR p0 p1 p2 p3 p4 v7 v12 v21 v29 b36 g233 wAUTHORIZATION_CODE) []) _
        refine XS.aload X259.here hx rfl (hb hby at_288) rfl hgr233 ?_
        show own_S p e below T259 (mkF m 290 (own_AIIIIIIIIIRVR p0 p1 p2 p3 p4 v7 v12 v21 v29 b36 g233 wAUTHORIZATION_CODE) [g233]) _
        refine XS.aload X259.here hx rfl (hb hby at_290) rfl rfl ?_
        show own_S p e below T259 (mkF m 292 (own_AIIIIIIIIIRVR p0 p1 p2 p3 p4 v7 v12 v21 v29 b36 g233 wAUTHORIZATION_CODE) [(.ref wAUTHORIZATION_CODE), g233]) _
        refine Jvm.RoadKit.acmp (g := (mkF m 292 (own_AIIIIIIIIIRVR p0 p1 p2 p3 p4 v7 v12 v21 v29 b36 g233 wAUTHORIZATION_CODE) [(.ref wAUTHORIZATION_CODE), g233])) X259 hx rfl hgr233 rfl (pc0 := 292) (pc' := 295) (same := true) rfl (hb hby at_292) rfl (decide_eq_true (by rw [hg233, if_pos (own_if1 hc253 hc256).symm] : (g233 : Value) = (.ref wAUTHORIZATION_CODE))) (by decide) (by decide) ?_
        show own_S p e below T259 (mkF m 295 (own_AIIIIIIIIIRVR p0 p1 p2 p3 p4 v7 v12 v21 v29 b36 g233 wAUTHORIZATION_CODE) []) _
        refine XS.iconst X259.here hx rfl (hb hby at_295) ?_
        show own_S p e below T259 (mkF m 296 (own_AIIIIIIIIIRVR p0 p1 p2 p3 p4 v7 v12 v21 v29 b36 g233 wAUTHORIZATION_CODE) [(.int (1 : Int32))]) _
        refine XS.goto X259.here hx rfl (pc0 := 296) (pc' := 300) rfl (hb hby at_296) (by decide) (by decide) ?_
        exact k
      refine own_by sg300 ?_
      obtain ⟨fs, hr, hrun, hended, hW⟩ := X259.leaveW hS251 (by rw [e259]; exact hk251) (v := some (.int (1 : Int32))) (fun h => by rw [Bd.returns] at h; cases h)
      refine ⟨_, _, ?_, hrun, hended, _, _, rfl, ?_, (by rw [hh]; show CHr Z consts_1 s.vm h0 T259.vm T259.heap; rw [e259]; exact CR251.trans (CHv.at X259 hZ251 hEL hC251.1)), hW.1, hW.2.1, hW.2.2.1, hW.2.2.2.mono (by decide) (by decide)⟩
      · exact retN X259 hx (t := .boolean) Bd.returns (by simp) (hb hby at_300) hr
      · show Q0 Z p0 p1 p2 p3 p4 wV cl wAUTHORIZATION_CODE wCLIENT_CREDENTIALS sAUTHORIZATION_CODE sCLIENT_CREDENTIALS gz h0 n0 _ T259.heap _
        rw [e259]
        exact ⟨rfl, N253⟩
  · have sg56 : ∀ t, own_S p e below s₁ (mkF m 56 (own_AIIIIIIIIIUUU p0 p1 p2 p3 p4 v7 v12 v21 v29) [(.int (1 : Int32)), (.int v7)]) t → own_S p e below s₁ (mkF m 33 (own_AIIIIIIIIIUUU p0 p1 p2 p3 p4 v7 v12 v21 v29) [(.int v7)]) t := by
      intro t k
      show own_S p e below s₁ (mkF m 33 (own_AIIIIIIIIIUUU p0 p1 p2 p3 p4 v7 v12 v21 v29) [(.int v7)]) _
      refine XS.ifYes X0.here hx rfl (pc0 := 33) (pc' := 53) rfl (hb hby at_33) rfl ((if0 _ _).trans (feq hc33).2) (by decide) (by decide) ?_
      show own_S p e below s₁ (mkF m 53 (own_AIIIIIIIIIUUU p0 p1 p2 p3 p4 v7 v12 v21 v29) []) _
      refine XS.iload X0.here hx rfl (hb hby at_53) rfl ?_
      show own_S p e below s₁ (mkF m 55 (own_AIIIIIIIIIUUU p0 p1 p2 p3 p4 v7 v12 v21 v29) [(.int v7)]) _
      refine XS.iconst X0.here hx rfl (hb hby at_55) ?_
      exact k
    refine own_by sg56 ?_
    by_cases hc56 : v7 = (1 : Int32)
    · have sg61 : ∀ t, own_S p e below s₁ (mkF m 61 (own_AIIIIIIIIIUUU p0 p1 p2 p3 p4 v7 v12 v21 v29) [(.int v12)]) t → own_S p e below s₁ (mkF m 56 (own_AIIIIIIIIIUUU p0 p1 p2 p3 p4 v7 v12 v21 v29) [(.int (1 : Int32)), (.int v7)]) t := by
        intro t k
        show own_S p e below s₁ (mkF m 56 (own_AIIIIIIIIIUUU p0 p1 p2 p3 p4 v7 v12 v21 v29) [(.int (1 : Int32)), (.int v7)]) _
        refine XS.icmpNo X0.here hx rfl (hb hby at_56) rfl (teq hc56).2 ?_
        show own_S p e below s₁ (mkF m 59 (own_AIIIIIIIIIUUU p0 p1 p2 p3 p4 v7 v12 v21 v29) []) _
        refine XS.iload X0.here hx rfl (hb hby at_59) rfl ?_
        exact k
      refine own_by sg61 ?_
      obtain ⟨_, _, ⟨T61, L61, k61, n61⟩, -, X61, ⟨Lc61, hQ61, l61, y61, z61⟩, st61⟩ := Jvm.LawKit.callS X0 hx (y := (⟨"com/example/writd/writd/model/GrantTypeFromValuePinLaw", "name18", "(I)[C"⟩ : MethodName)) hown (mvT hZ (hw _ (List.mem_of_getElem? (i := 4) rfl))) (mvT hZ (hw _ (List.mem_of_getElem? (i := 5) rfl))) (mvT hZ (hw _ (List.mem_of_getElem? (i := 6) rfl))) (mvT hZ (hw _ (List.mem_of_getElem? (i := 7) rfl))) (by decide) (backOf (W := 0) (rm1 l Z a0 hw [] v12 h0 n0 Z0 ) hZ (hw _ (List.mem_of_getElem? (i := 7) rfl)) (hw _ (List.mem_of_getElem? (i := 6) rfl)) (by decide) (by decide)) (g := (mkF m 61 (own_AIIIIIIIIIUUU p0 p1 p2 p3 p4 v7 v12 v21 v29) [(.int v12)])) rfl (by rw [hml]; rfl) (argsL := [(.int v12)]) (rest := []) (lenOf pd_0_0 rfl) rfl (by show 2 * 0 + _ ≤ _; exact Nat.le_of_eq rfl) (hb hby at_61) (fun _ _ => ⟨rfl, e0, (by decide : 0 + 1 ≤ _), (by decide : 0 + 18 ≤ _)⟩)
      dsimp only [Pt.U, Pt.locs, Pt.cells, Pt.slots] at X61 l61 y61 z61 st61 hQ61
      subst l61 y61 z61
      obtain ⟨r61, kc61, rfl, ge61, N61q, Kq61, Aq61⟩ := hQ61
      have N61 := Fr.app N0 N61q
      have ln61 : (own_n18 v12).length = 18 := own_n18_len _
      rw [ln61] at Aq61
      have An61 : Arv Z T61.heap r61 kc61 .char (18 : Int32) ((own_n18 v12).map Value.int) (.int (0 : Int32)) := Aq61
      have hp61 : ∀ c ∈ (own_n18 v12), ¬ c < 0 ∧ ¬ (255 : Int32) < c := own_n18_hp _
      have g_r61 : n0 ≤ r61 := Nat.le_trans Z0 ge61
      have sz_r61 : h0.size ≤ r61 := Nat.le_trans K0.1 ge61
      have K61 : Keep h0 T61.heap [] := K0.trans Kq61 (fun x hx => nomatch hx)
      have Z61 : n0 ≤ T61.heap.size := Nat.le_trans Z0 Kq61.1
      have CC61 := CHr.keep Kq61 sf0 hH0
      have CR61 := (CHr.refl hH0).trans CC61
      refine own_by st61 ?_
      have sg72 : ∀ t, own_S p e below T61 (mkF m 72 (own_AIIIIIIIIIURU p0 p1 p2 p3 p4 v7 v12 v21 v29 r61) [(.int v29), (.int v21), (.ref r61)]) t → own_S p e below T61 (mkF m 64 (own_AIIIIIIIIIUUU p0 p1 p2 p3 p4 v7 v12 v21 v29) [(.ref r61)]) t := by
        intro t k
        show own_S p e below T61 (mkF m 64 (own_AIIIIIIIIIUUU p0 p1 p2 p3 p4 v7 v12 v21 v29) [(.ref r61)]) _
        refine XS.astore X61.here hx rfl (hb hby at_64) rfl rfl (l' := (own_AIIIIIIIIIURU p0 p1 p2 p3 p4 v7 v12 v21 v29 r61)) rfl ?_
        show own_S p e below T61 (mkF m 66 (own_AIIIIIIIIIURU p0 p1 p2 p3 p4 v7 v12 v21 v29 r61) []) _
        refine XS.aload X61.here hx rfl (hb hby at_66) rfl rfl ?_
        show own_S p e below T61 (mkF m 68 (own_AIIIIIIIIIURU p0 p1 p2 p3 p4 v7 v12 v21 v29 r61) [(.ref r61)]) _
        refine XS.iload X61.here hx rfl (hb hby at_68) rfl ?_
        show own_S p e below T61 (mkF m 70 (own_AIIIIIIIIIURU p0 p1 p2 p3 p4 v7 v12 v21 v29 r61) [(.int v21), (.ref r61)]) _
        refine XS.iload X61.here hx rfl (hb hby at_70) rfl ?_
        exact k
      refine own_by sg72 ?_
      obtain ⟨cl72, Ar72, qa72, Sa72, Na72, Ha72, Ga72⟩ := id An61
      have jp72 : ¬ v21 < 0 ∧ v21 < (18 : Int32) := (by rw [hv21]; exact own_p18 _)
      obtain ⟨T72, h72, X72, e72, W72, st72⟩ := stC X61 hx hZ rfl Ar72 (j := v21) (inb_of Sa72 jp72) (g := (mkF m 72 (own_AIIIIIIIIIURU p0 p1 p2 p3 p4 v7 v12 v21 v29 r61) [(.int v29), (.int v21), (.ref r61)])) rfl rfl (hb hby at_72)
      have V72 : Arv Z h72 r61 kc61 .char (18 : Int32) (((own_n18 v12).set v21.toNatClampNeg v29).map Value.int) (.int (0 : Int32)) := by
        have q := Arv.set Ar72 qa72 Sa72 Na72 Ha72 Ga72 (fits_nar_char _) W72 v21.toNatClampNeg rfl (by rw [List.length_map, ln61]; exact own_clamp jp72 (by decide))
        rw [own_narc hk_v29] at q
        rw [List.map_set]; exact q
      have ln72 : ((own_n18 v12).set v21.toNatClampNeg v29).length = 18 := by rw [List.length_set]; exact ln61
      have hp72 : ∀ c ∈ ((own_n18 v12).set v21.toNatClampNeg v29), ¬ c < 0 ∧ ¬ (255 : Int32) < c := own_hpset hp61 hk_v29
      have K72 : Keep h0 h72 [] := K61.wr W72 (Or.inr sz_r61)
      have Z72 : n0 ≤ h72.size := Nat.le_trans Z61 (Keep.of_wr W72).1
      have CC72 := CHr.wr W72 (Safe.arv hZ.alike An61 (by decide)) CC61.1
      have CR72 := CR61.trans CC72
      have N72 := Fr.snoc X72 N61 g_r61
      refine own_by st72 ?_
      obtain ⟨T73, h73, X73, e73, E73, A73, D73, -, st73⟩ := newO X72 hx hZ hown (hw _ (List.mem_of_getElem? (i := 1) rfl)) (hw _ (List.mem_of_getElem? (i := 2) rfl)) (hw _ (List.mem_of_getElem? (i := 3) rfl)) e72 (g := (mkF m 73 (own_AIIIIIIIIIURU p0 p1 p2 p3 p4 v7 v12 v21 v29 r61) [])) rfl (hb hby at_73) (by decide) (by decide)
      obtain ⟨b73, g73⟩ : ∃ z, z = h72.size := ⟨_, rfl⟩
      rw [← g73] at A73 D73 st73
      have ne_r61_b73 : r61 ≠ b73 := Nat.ne_of_lt (Nat.lt_of_lt_of_le V72.lt (Nat.le_of_eq g73.symm))
      have g_b73 : n0 ≤ b73 := Nat.le_trans Z72 (Nat.le_of_eq g73.symm)
      have sz_b73 : h0.size ≤ b73 := Nat.le_trans K72.1 (Nat.le_of_eq g73.symm)
      have K73 := K72.ext E73
      have Z73 : n0 ≤ h73.size := Nat.le_trans Z72 E73.1
      have CC73 := CHr.ext E73 CC72.1
      have CR73 := CR72.trans CC73
      have F_coder_b73 : Fld Z h73 b73 "java/lang/String" "coder" "B" (.int (0 : Int32)) := D73 (Or.inr (hw _ (List.mem_of_getElem? (i := 32) rfl))) (ty := .byte) (by decide)
      have F_value_b73 : Fld Z h73 b73 "java/lang/String" "value" "[B" .null := D73 (Or.inr (hw _ (List.mem_of_getElem? (i := 34) rfl))) (ty := (.array .byte)) (by decide)
      refine own_by st73 ?_
      have sg79 : ∀ t, own_S p e below T73 (mkF m 79 (own_AIIIIIIIIIURU p0 p1 p2 p3 p4 v7 v12 v21 v29 r61) [(.ref r61), (.ref b73), (.ref b73)]) t → own_S p e below T73 (mkF m 76 (own_AIIIIIIIIIURU p0 p1 p2 p3 p4 v7 v12 v21 v29 r61) [(.ref b73)]) t := by
        intro t k
        show own_S p e below T73 (mkF m 76 (own_AIIIIIIIIIURU p0 p1 p2 p3 p4 v7 v12 v21 v29 r61) [(.ref b73)]) _
        refine XS.dup X73.here hx rfl (hb hby at_76) rfl rfl ?_
        show own_S p e below T73 (mkF m 77 (own_AIIIIIIIIIURU p0 p1 p2 p3 p4 v7 v12 v21 v29 r61) [(.ref b73), (.ref b73)]) _
        refine XS.aload X73.here hx rfl (hb hby at_77) rfl rfl ?_
        exact k
      refine own_by sg79 ?_
      obtain ⟨_, _, ⟨T79, L79, k79, n79⟩, -, X79, ⟨Lc79, hQ79, l79, y79, z79⟩, st79⟩ := X73.specialBack hx (y := (⟨"java/lang/String", "<init>", "([C)V"⟩ : MethodName)) rfl hown (mvT hZ (hw _ (List.mem_of_getElem? (i := 9) rfl))) (mvT hZ (hw _ (List.mem_of_getElem? (i := 10) rfl))) (mvT hZ (hw _ (List.mem_of_getElem? (i := 11) rfl))) (by decide) (StrChars.Road.backV (W := 1) hZ hws (kI := 4) (hw _ (List.mem_of_getElem? (i := 2) rfl)) (cs := ((own_n18 v12).set v21.toNatClampNeg v29)) (bs := ((own_n18 v12).set v21.toNatClampNeg v29).map (fun c => c.toInt8.toInt32)) (n := 18) g_b73 Z73 A73 F_value_b73 F_coder_b73 (V72.ext E73) (O2.ext (((O.keep Kq61 all0).wr W72 g_r61).ext E73).2) P5 ln72 rfl (by decide) (by decide) hp72 rfl (by decide) (by decide)) (g := (mkF m 79 (own_AIIIIIIIIIURU p0 p1 p2 p3 p4 v7 v12 v21 v29 r61) [(.ref r61), (.ref b73), (.ref b73)])) rfl (by rw [hml]; rfl) (Steps.refl _) (a := b73) (argsL := [(.ref r61)]) (rest := [(.ref b73)]) (lenOf pd_0_1 rfl) rfl (by show 2 * 0 + _ ≤ _; exact Nat.le_of_eq rfl) (hb hby at_79) (fun _ _ => ⟨rfl, e73, (by decide : 2 + 1 ≤ _), (by decide : 22 + 18 ≤ _)⟩)
      dsimp only [Pt.U, Pt.locs, Pt.cells, Pt.slots] at X79 l79 y79 z79 st79 hQ79
      subst l79 y79 z79
      obtain ⟨rfl, N79q, Kq79, Eq79, Cq79, t79, kb79, u179, u279, u379, Vq79, Aq79⟩ := hQ79
      have N79 := Fr.app N72 N79q
      have Sq79 : own_Str Z T79.heap b73 ((own_n18 v12).set v21.toNatClampNeg v29) := ⟨t79, kb79, 0, _, _, Eq79, Vq79, Cq79, Aq79, StrChars.Road.codOf (n := 18) ln72 (fun x hx => (hp72 x hx).2), own_up _ hp72, by rw [ln72]; decide⟩
      have fc := ((V72.ext E73).keep Kq79 (fun h => ne_r61_b73 (List.mem_singleton.mp h)))
      have K79 : Keep h0 T79.heap [] := K73.trans Kq79 (fun x hx => by cases List.mem_singleton.mp hx; exact Or.inr sz_b73)
      have Z79 : n0 ≤ T79.heap.size := Nat.le_trans Z73 Kq79.1
      have CC79 := CHr.keep Kq79 (sfS (own_safe0 hZ.alike A73 F_value_b73 (hw _ (List.mem_of_getElem? (i := 2) rfl))) sf0) CC73.1
      have CR79 := CR73.trans CC79
      refine own_by (fun t k => st79.trans k) ?_
      have sg233 : ∀ t, own_S p e below T79 (mkF m 233 (own_AIIIIIIIIIRRU p0 p1 p2 p3 p4 v7 v12 v21 v29 b73 r61) [(.ref b73)]) t → own_S p e below T79 (mkF m 82 (own_AIIIIIIIIIURU p0 p1 p2 p3 p4 v7 v12 v21 v29 r61) [(.ref b73)]) t := by
        intro t k
        show own_S p e below T79 (mkF m 82 (own_AIIIIIIIIIURU p0 p1 p2 p3 p4 v7 v12 v21 v29 r61) [(.ref b73)]) _
        refine XS.astore X79.here hx rfl (hb hby at_82) rfl rfl (l' := (own_AIIIIIIIIIRRU p0 p1 p2 p3 p4 v7 v12 v21 v29 b73 r61)) rfl ?_
        show own_S p e below T79 (mkF m 84 (own_AIIIIIIIIIRRU p0 p1 p2 p3 p4 v7 v12 v21 v29 b73 r61) []) _
        refine XS.goto X79.here hx rfl (pc0 := 84) (pc' := 231) rfl (hb hby at_84) (by decide) (by decide) ?_
        show own_S p e below T79 (mkF m 231 (own_AIIIIIIIIIRRU p0 p1 p2 p3 p4 v7 v12 v21 v29 b73 r61) []) _
        refine XS.aload X79.here hx rfl (hb hby at_231) rfl rfl ?_
        exact k
      refine own_by sg233 ?_
      obtain ⟨_, _, ⟨T233, L233, k233, n233⟩, -, X233, ⟨Lc233, hQ233, l233, y233, z233⟩, st233⟩ := Jvm.LawKit.callS X79 hx (y := (⟨"com/example/writd/writd/model/GrantType", "fromValue", "(Ljava/lang/String;)Lcom/example/writd/writd/model/GrantType;"⟩ : MethodName)) hown (mvT hZ (hw _ (List.mem_of_getElem? (i := 35) rfl))) (mvT hZ (hw _ (List.mem_of_getElem? (i := 36) rfl))) (mvT hZ (hw _ (List.mem_of_getElem? (i := 37) rfl))) (mvT hZ (hw _ (List.mem_of_getElem? (i := 38) rfl))) (by decide) (backOf (W := 0) (rm8 l Z a0 hw [] b73 ((own_n18 v12).set v21.toNatClampNeg v29) wV cl wAUTHORIZATION_CODE wCLIENT_CREDENTIALS sAUTHORIZATION_CODE sCLIENT_CREDENTIALS gz T79.heap n0 Z79 ((((O.keep Kq61 all0).wr W72 g_r61).ext E73).keep Kq79 (allS g_b73 all0)) O2 P5 S_V Ar_V E_V FC hsz hat0 hat1 FV_AUTHORIZATION_CODE FV_CLIENT_CREDENTIALS EX_AUTHORIZATION_CODE EX_CLIENT_CREDENTIALS Str_AUTHORIZATION_CODE Str_CLIENT_CREDENTIALS Sq79) hZ (hw _ (List.mem_of_getElem? (i := 38) rfl)) (hw _ (List.mem_of_getElem? (i := 37) rfl)) (by decide) (by decide)) (g := (mkF m 233 (own_AIIIIIIIIIRRU p0 p1 p2 p3 p4 v7 v12 v21 v29 b73 r61) [(.ref b73)])) rfl (by rw [hml]; rfl) (argsL := [(.ref b73)]) (rest := []) (lenOf pd_0_2 rfl) rfl (by show 2 * 0 + _ ≤ _; exact Nat.le_of_eq rfl) (hb hby at_233) (fun _ _ => ⟨rfl, rfl, (by decide : 3 + 1 ≤ _), (by decide : 40 + 2 ≤ _)⟩)
      dsimp only [Pt.U, Pt.locs, Pt.cells, Pt.slots] at X233 l233 y233 z233 st233 hQ233
      subst l233 y233 z233
      obtain ⟨rfl, N233q, Kq233⟩ := hQ233
      have N233 := Fr.app N79 N233q
      have K233 : Keep h0 T233.heap [] := K79.trans Kq233 (fun x hx => nomatch hx)
      have Z233 : n0 ≤ T233.heap.size := Nat.le_trans Z79 Kq233.1
      have CC233 := CHr.keep Kq233 sf0 CC79.1
      have CR233 := CR79.trans CC233
      obtain ⟨g233, hg233⟩ : ∃ z : Value, z = (if ([(97 : Int32), (117 : Int32), (116 : Int32), (104 : Int32), (111 : Int32), (114 : Int32), (105 : Int32), (122 : Int32), (97 : Int32), (116 : Int32), (105 : Int32), (111 : Int32), (110 : Int32), (95 : Int32), (99 : Int32), (111 : Int32), (100 : Int32), (101 : Int32)] : List Int32) = ((own_n18 v12).set v21.toNatClampNeg v29) then Value.ref wAUTHORIZATION_CODE else (if ([(99 : Int32), (108 : Int32), (105 : Int32), (101 : Int32), (110 : Int32), (116 : Int32), (95 : Int32), (99 : Int32), (114 : Int32), (101 : Int32), (100 : Int32), (101 : Int32), (110 : Int32), (116 : Int32), (105 : Int32), (97 : Int32), (108 : Int32), (115 : Int32)] : List Int32) = ((own_n18 v12).set v21.toNatClampNeg v29) then Value.ref wCLIENT_CREDENTIALS else Value.null)) := ⟨_, rfl⟩
      rw [← hg233] at st233
      have hgr233 : g233.isRef = true := by rw [hg233]; repeat' (first | rfl | (refine own_isr rfl ?_))
      refine own_by st233 ?_
      have sg251 : ∀ t, own_S p e below T233 (mkF m 251 (own_AIIIIIIIIIRVU p0 p1 p2 p3 p4 v7 v12 v21 v29 b73 g233) [(.ref b73)]) t → own_S p e below T233 (mkF m 236 (own_AIIIIIIIIIRRU p0 p1 p2 p3 p4 v7 v12 v21 v29 b73 r61) [g233]) t := by
        intro t k
        show own_S p e below T233 (mkF m 236 (own_AIIIIIIIIIRRU p0 p1 p2 p3 p4 v7 v12 v21 v29 b73 r61) [g233]) _
        refine XS.astore X233.here hx rfl (hb hby at_236) rfl hgr233 (l' := (own_AIIIIIIIIIRVU p0 p1 p2 p3 p4 v7 v12 v21 v29 b73 g233)) (by simp [storeLocals, storeSelf, setAt, own_cat1 hgr233, own_catr, own_catn]) ?_
        show own_S p e below T233 (mkF m 238 (own_AIIIIIIIIIRVU p0 p1 p2 p3 p4 v7 v12 v21 v29 b73 g233) []) _
        refine XS.aload X233.here hx rfl (hb hby at_238) rfl rfl ?_
        show own_S p e below T233 (mkF m 240 (own_AIIIIIIIIIRVU p0 p1 p2 p3 p4 v7 v12 v21 v29 b73 g233) [(.ref b73)]) _
        refine XS.ifnonnullYes X233.here hx rfl (pc0 := 240) (pc' := 249) rfl (hb hby at_240) rfl (by decide) (by decide) ?_
        show own_S p e below T233 (mkF m 249 (own_AIIIIIIIIIRVU p0 p1 p2 p3 p4 v7 v12 v21 v29 b73 g233) []) _
        refine XS.aload X233.here hx rfl (hb hby at_249) rfl rfl ?_
        exact k
      refine own_by sg251 ?_
      obtain ⟨l251a, T251, h251, ks251, lb251, lk251, X251, e251, E251, hS251, hk251, hZ251, hown251, lE251, lC251, lV251, lA251, la1251, la2251, hC251, -, hsf251, st251⟩ := ldcCH X233 hx hZ hown (hw _ (List.mem_of_getElem? (i := 68) rfl)) wS rfl hS0 (Nat.le_trans (Nat.le_trans (Nat.le_trans (Nat.le_trans (Nat.le_trans (Nat.zero_le _) Kq61.1) (Keep.of_wr W72).1) E73.1) Kq79.1) Kq233.1) hEL (by decide) CC233.1 (vs := [(.int (97 : Int32)), (.int (117 : Int32)), (.int (116 : Int32)), (.int (104 : Int32)), (.int (111 : Int32)), (.int (114 : Int32)), (.int (105 : Int32)), (.int (122 : Int32)), (.int (97 : Int32)), (.int (116 : Int32)), (.int (105 : Int32)), (.int (111 : Int32)), (.int (110 : Int32)), (.int (95 : Int32)), (.int (99 : Int32)), (.int (111 : Int32)), (.int (100 : Int32)), (.int (101 : Int32))]) (z := (18 : Int32)) ⟨by decide, by decide⟩ (by decide) (by decide) (g := (mkF m 251 (own_AIIIIIIIIIRVU p0 p1 p2 p3 p4 v7 v12 v21 v29 b73 g233) [(.ref b73)])) rfl (hb hby at_251) (n := 72) (by decide) (by decide) (by decide) (by decide)
      have K251 := K233.ext E251
      have Z251 : n0 ≤ h251.size := Nat.le_trans Z233 E251.1
      have CR251 := CR233.trans hC251
      refine own_by st251 ?_
      obtain ⟨tx253, kx253, dx253, nx253, vx253, xe253, xv253, xc253, xk253, xh253, xb253, xl253⟩ := id ((Sq79.ext (own_kx Kq233)).ext E251)
      obtain ⟨ty253, ky253, dy253, ny253, vy253, ye253, yv253, yc253, yk253, yh253, yb253, yl253⟩ := id (⟨lb251, lk251, 0, (18 : Int32), _, lE251, lV251, lC251, lA251, Or.inl ⟨rfl, rfl, rfl, by decide⟩, by decide, by decide⟩ : own_Str Z h251 l251a ([(97 : Int32), (117 : Int32), (116 : Int32), (104 : Int32), (111 : Int32), (114 : Int32), (105 : Int32), (122 : Int32), (97 : Int32), (116 : Int32), (105 : Int32), (111 : Int32), (110 : Int32), (95 : Int32), (99 : Int32), (111 : Int32), (100 : Int32), (101 : Int32)] : List Int32))
      obtain ⟨cq253, kq253, q253a, q253b, q253c⟩ := isOf hZ251 e251 ((Eq79.keep Kq233).ext E251)
      obtain ⟨_, _, ⟨T253, L253, k253, n253⟩, -, X253, ⟨Lc253, hQ253, l253, y253, z253⟩, st253⟩ := X251.virtualBack hx (y := (⟨"java/lang/String", "equals", "(Ljava/lang/Object;)Z"⟩ : MethodName)) (z := (⟨"java/lang/String", "equals", "(Ljava/lang/Object;)Z"⟩ : MethodName)) hown251 (mvT hZ251 (hw _ (List.mem_of_getElem? (i := 71) rfl))) (mvT hZ251 (hw _ (List.mem_of_getElem? (i := 59) rfl))) (notFace_of_selects (args := #[]) (mvT hZ251 (hw _ (List.mem_of_getElem? (i := 61) rfl)))) (mvT hZ251 (hw _ (List.mem_of_getElem? (i := 61) rfl))) (mvT hZ251 (hw _ (List.mem_of_getElem? (i := 60) rfl))) (by decide) (StrChars.Road.eqW (W := 0) hZ251 heq (kI := 4) (hw _ (List.mem_of_getElem? (i := 2) rfl)) xe253 xv253 xc253 xk253 xh253 xb253 xl253 ye253 yv253 yc253 yk253 yh253 yb253 yl253 (O2.ext ((((((O.keep Kq61 all0).wr W72 g_r61).ext E73).keep Kq79 (allS g_b73 all0)).keep Kq233 all0).ext E251).2) P5 (by decide) (by decide)) q253a q253c (g := (mkF m 253 (own_AIIIIIIIIIRVU p0 p1 p2 p3 p4 v7 v12 v21 v29 b73 g233) [(.ref l251a), (.ref b73)])) rfl (by rw [hml]; rfl) (Steps.refl _) (argsL := [(.ref l251a)]) (rest := []) (lenOf pd_0_3 rfl) rfl (by show 2 * 0 + _ ≤ _; exact Nat.le_of_eq rfl) (hb hby at_253) (fun _ _ => ⟨rfl, e251, (by decide : 6 + 0 ≤ _), (by decide : 118 + 0 ≤ _)⟩)
      dsimp only [Pt.U, Pt.locs, Pt.cells, Pt.slots] at X253 l253 y253 z253 st253 hQ253
      subst l253 y253 z253
      obtain ⟨hv253, rfl, hq253⟩ := hQ253
      obtain rfl := own_eqv hv253
      have N253 := Fr.app N233 (Fr.nil n0)
      obtain ⟨c253, hc253⟩ : ∃ z : Int32, z = (if ((own_n18 v12).set v21.toNatClampNeg v29) = ([(97 : Int32), (117 : Int32), (116 : Int32), (104 : Int32), (111 : Int32), (114 : Int32), (105 : Int32), (122 : Int32), (97 : Int32), (116 : Int32), (105 : Int32), (111 : Int32), (110 : Int32), (95 : Int32), (99 : Int32), (111 : Int32), (100 : Int32), (101 : Int32)] : List Int32) then (1 : Int32) else (0 : Int32)) := ⟨_, rfl⟩
      rw [← hc253] at st253
      refine own_by (fun t k => st253.trans k) ?_
      by_cases hc256 : c253 = (0 : Int32)
      · have sg269 : ∀ t, own_S p e below T253 (mkF m 269 (own_AIIIIIIIIIRVU p0 p1 p2 p3 p4 v7 v12 v21 v29 b73 g233) [(.ref b73)]) t → own_S p e below T253 (mkF m 256 (own_AIIIIIIIIIRVU p0 p1 p2 p3 p4 v7 v12 v21 v29 b73 g233) [(.int c253)]) t := by
          intro t k
          show own_S p e below T253 (mkF m 256 (own_AIIIIIIIIIRVU p0 p1 p2 p3 p4 v7 v12 v21 v29 b73 g233) [(.int c253)]) _
          refine XS.ifYes X253.here hx rfl (pc0 := 256) (pc' := 267) rfl (hb hby at_256) rfl ((if0 _ _).trans (teq hc256).1) (by decide) (by decide) ?_
          show own_S p e below T253 (mkF m 267 (own_AIIIIIIIIIRVU p0 p1 p2 p3 p4 v7 v12 v21 v29 b73 g233) []) _
          refine XS.aload X253.here hx rfl (hb hby at_267) rfl rfl ?_
          exact k
        refine own_by sg269 ?_
        obtain ⟨l269a, T269, h269, ks269, lb269, lk269, X269, e269, E269, hS269, hk269, hZ269, hown269, lE269, lC269, lV269, lA269, la1269, la2269, hC269, -, hsf269, st269⟩ := ldcCH X253 hx hZ251 hown251 (hw _ (List.mem_of_getElem? (i := 72) rfl)) wS hq253 hS251 hk251 hEL (by decide) hC251.1 (vs := [(.int (99 : Int32)), (.int (108 : Int32)), (.int (105 : Int32)), (.int (101 : Int32)), (.int (110 : Int32)), (.int (116 : Int32)), (.int (95 : Int32)), (.int (99 : Int32)), (.int (114 : Int32)), (.int (101 : Int32)), (.int (100 : Int32)), (.int (101 : Int32)), (.int (110 : Int32)), (.int (116 : Int32)), (.int (105 : Int32)), (.int (97 : Int32)), (.int (108 : Int32)), (.int (115 : Int32))]) (z := (18 : Int32)) ⟨by decide, by decide⟩ (by decide) (by decide) (g := (mkF m 269 (own_AIIIIIIIIIRVU p0 p1 p2 p3 p4 v7 v12 v21 v29 b73 g233) [(.ref b73)])) rfl (hb hby at_269) (n := 72) (by decide) (by decide) (by decide) (by decide)
        have K269 := K251.ext E269
        have Z269 : n0 ≤ h269.size := Nat.le_trans Z251 E269.1
        have CR269 := CR251.trans hC269
        refine own_by st269 ?_
        obtain ⟨tx271, kx271, dx271, nx271, vx271, xe271, xv271, xc271, xk271, xh271, xb271, xl271⟩ := id (((Sq79.ext (own_kx Kq233)).ext E251).ext E269)
        obtain ⟨ty271, ky271, dy271, ny271, vy271, ye271, yv271, yc271, yk271, yh271, yb271, yl271⟩ := id (⟨lb269, lk269, 0, (18 : Int32), _, lE269, lV269, lC269, lA269, Or.inl ⟨rfl, rfl, rfl, by decide⟩, by decide, by decide⟩ : own_Str Z h269 l269a ([(99 : Int32), (108 : Int32), (105 : Int32), (101 : Int32), (110 : Int32), (116 : Int32), (95 : Int32), (99 : Int32), (114 : Int32), (101 : Int32), (100 : Int32), (101 : Int32), (110 : Int32), (116 : Int32), (105 : Int32), (97 : Int32), (108 : Int32), (115 : Int32)] : List Int32))
        obtain ⟨cq271, kq271, q271a, q271b, q271c⟩ := isOf hZ269 e269 (((Eq79.keep Kq233).ext E251).ext E269)
        obtain ⟨_, _, ⟨T271, L271, k271, n271⟩, -, X271, ⟨Lc271, hQ271, l271, y271, z271⟩, st271⟩ := X269.virtualBack hx (y := (⟨"java/lang/String", "equals", "(Ljava/lang/Object;)Z"⟩ : MethodName)) (z := (⟨"java/lang/String", "equals", "(Ljava/lang/Object;)Z"⟩ : MethodName)) hown269 (mvT hZ269 (hw _ (List.mem_of_getElem? (i := 71) rfl))) (mvT hZ269 (hw _ (List.mem_of_getElem? (i := 59) rfl))) (notFace_of_selects (args := #[]) (mvT hZ269 (hw _ (List.mem_of_getElem? (i := 61) rfl)))) (mvT hZ269 (hw _ (List.mem_of_getElem? (i := 61) rfl))) (mvT hZ269 (hw _ (List.mem_of_getElem? (i := 60) rfl))) (by decide) (StrChars.Road.eqW (W := 0) hZ269 heq (kI := 4) (hw _ (List.mem_of_getElem? (i := 2) rfl)) xe271 xv271 xc271 xk271 xh271 xb271 xl271 ye271 yv271 yc271 yk271 yh271 yb271 yl271 (O2.ext (((((((O.keep Kq61 all0).wr W72 g_r61).ext E73).keep Kq79 (allS g_b73 all0)).keep Kq233 all0).ext E251).ext E269).2) P5 (by decide) (by decide)) q271a q271c (g := (mkF m 271 (own_AIIIIIIIIIRVU p0 p1 p2 p3 p4 v7 v12 v21 v29 b73 g233) [(.ref l269a), (.ref b73)])) rfl (by rw [hml]; rfl) (Steps.refl _) (argsL := [(.ref l269a)]) (rest := []) (lenOf pd_0_3 rfl) rfl (by show 2 * 0 + _ ≤ _; exact Nat.le_of_eq rfl) (hb hby at_271) (fun _ _ => ⟨rfl, e269, (by decide : 8 + 0 ≤ _), (by decide : 194 + 0 ≤ _)⟩)
        dsimp only [Pt.U, Pt.locs, Pt.cells, Pt.slots] at X271 l271 y271 z271 st271 hQ271
        subst l271 y271 z271
        obtain ⟨hv271, rfl, hq271⟩ := hQ271
        obtain rfl := own_eqv hv271
        have N271 := Fr.app N253 (Fr.nil n0)
        obtain ⟨c271, hc271⟩ : ∃ z : Int32, z = (if ((own_n18 v12).set v21.toNatClampNeg v29) = ([(99 : Int32), (108 : Int32), (105 : Int32), (101 : Int32), (110 : Int32), (116 : Int32), (95 : Int32), (99 : Int32), (114 : Int32), (101 : Int32), (100 : Int32), (101 : Int32), (110 : Int32), (116 : Int32), (105 : Int32), (97 : Int32), (108 : Int32), (115 : Int32)] : List Int32) then (1 : Int32) else (0 : Int32)) := ⟨_, rfl⟩
        rw [← hc271] at st271
        refine own_by (fun t k => st271.trans k) ?_
        by_cases hc274 : c271 = (0 : Int32)
        · have sg300 : ∀ t, own_S p e below T271 (mkF m 300 (own_AIIIIIIIIIRVN p0 p1 p2 p3 p4 v7 v12 v21 v29 b73 g233) [(.int (1 : Int32))]) t → own_S p e below T271 (mkF m 274 (own_AIIIIIIIIIRVU p0 p1 p2 p3 p4 v7 v12 v21 v29 b73 g233) [(.int c271)]) t := by
            intro t k
            show own_S p e below T271 (mkF m 274 (own_AIIIIIIIIIRVU p0 p1 p2 p3 p4 v7 v12 v21 v29 b73 g233) [(.int c271)]) _
            refine XS.ifYes X271.here hx rfl (pc0 := 274) (pc' := 285) rfl (hb hby at_274) rfl ((if0 _ _).trans (teq hc274).1) (by decide) (by decide) ?_
            show own_S p e below T271 (mkF m 285 (own_AIIIIIIIIIRVU p0 p1 p2 p3 p4 v7 v12 v21 v29 b73 g233) []) _
            refine XS.aconstNull X271.here hx rfl (hb hby at_285) ?_
            show own_S p e below T271 (mkF m 286 (own_AIIIIIIIIIRVU p0 p1 p2 p3 p4 v7 v12 v21 v29 b73 g233) [.null]) _
            refine XS.astore X271.here hx rfl (hb hby at_286) rfl rfl (l' := (own_AIIIIIIIIIRVN p0 p1 p2 p3 p4 v7 v12 v21 v29 b73 g233)) rfl ?_
            show own_S p e below T271 (mkF m 288 (own_AIIIIIIIIIRVN p0 p1 p2 p3 p4 v7 v12 v21 v29 b73 g233) []) _
            refine XS.aload X271.here hx rfl (hb hby at_288) rfl hgr233 ?_
            show own_S p e below T271 (mkF m 290 (own_AIIIIIIIIIRVN p0 p1 p2 p3 p4 v7 v12 v21 v29 b73 g233) [g233]) _
            refine XS.aload X271.here hx rfl (hb hby at_290) rfl rfl ?_
            show own_S p e below T271 (mkF m 292 (own_AIIIIIIIIIRVN p0 p1 p2 p3 p4 v7 v12 v21 v29 b73 g233) [.null, g233]) _
            refine Jvm.RoadKit.acmp (g := (mkF m 292 (own_AIIIIIIIIIRVN p0 p1 p2 p3 p4 v7 v12 v21 v29 b73 g233) [.null, g233])) X271 hx rfl hgr233 rfl (pc0 := 292) (pc' := 295) (same := true) rfl (hb hby at_292) rfl (decide_eq_true (by rw [hg233, if_neg (fun q => own_if0 hc253 hc256 q.symm), if_neg (fun q => own_if0 hc271 hc274 q.symm)] : (g233 : Value) = .null)) (by decide) (by decide) ?_
            show own_S p e below T271 (mkF m 295 (own_AIIIIIIIIIRVN p0 p1 p2 p3 p4 v7 v12 v21 v29 b73 g233) []) _
            refine XS.iconst X271.here hx rfl (hb hby at_295) ?_
            show own_S p e below T271 (mkF m 296 (own_AIIIIIIIIIRVN p0 p1 p2 p3 p4 v7 v12 v21 v29 b73 g233) [(.int (1 : Int32))]) _
            refine XS.goto X271.here hx rfl (pc0 := 296) (pc' := 300) rfl (hb hby at_296) (by decide) (by decide) ?_
            exact k
          refine own_by sg300 ?_
          obtain ⟨fs, hr, hrun, hended, hW⟩ := X271.leaveW hS269 (by rw [hq271]; exact hk269) (v := some (.int (1 : Int32))) (fun h => by rw [Bd.returns] at h; cases h)
          refine ⟨_, _, ?_, hrun, hended, _, _, rfl, ?_, (by rw [hh]; show CHr Z consts_1 s.vm h0 T271.vm T271.heap; rw [hq271]; exact CR269.trans (CHv.at X271 hZ269 hEL hC269.1)), hW.1, hW.2.1, hW.2.2.1, hW.2.2.2.mono (by decide) (by decide)⟩
          · exact retN X271 hx (t := .boolean) Bd.returns (by simp) (hb hby at_300) hr
          · show Q0 Z p0 p1 p2 p3 p4 wV cl wAUTHORIZATION_CODE wCLIENT_CREDENTIALS sAUTHORIZATION_CODE sCLIENT_CREDENTIALS gz h0 n0 _ T271.heap _
            rw [hq271]
            exact ⟨rfl, N271⟩
        · have sg277 : ∀ t, own_S p e below T271 (mkF m 277 (own_AIIIIIIIIIRVU p0 p1 p2 p3 p4 v7 v12 v21 v29 b73 g233) []) t → own_S p e below T271 (mkF m 274 (own_AIIIIIIIIIRVU p0 p1 p2 p3 p4 v7 v12 v21 v29 b73 g233) [(.int c271)]) t := by
            intro t k
            show own_S p e below T271 (mkF m 274 (own_AIIIIIIIIIRVU p0 p1 p2 p3 p4 v7 v12 v21 v29 b73 g233) [(.int c271)]) _
            refine XS.ifNo X271.here hx rfl (hb hby at_274) rfl ((if0 _ _).trans (feq hc274).1) ?_
            exact k
          refine own_by sg277 ?_
          obtain ⟨T277, X277, e277, st277⟩ := getS2 X271 hx hZ269 hown269 (host := "") (Or.inl (hw _ (List.mem_of_getElem? (i := 73) rfl))) Via.refl hq271 (S_CLIENT_CREDENTIALS.ext (((((((O.keep Kq61 all0).wr W72 g_r61).ext E73).keep Kq79 (allS g_b73 all0)).keep Kq233 all0).ext E251).ext E269).2) (g := (mkF m 277 (own_AIIIIIIIIIRVU p0 p1 p2 p3 p4 v7 v12 v21 v29 b73 g233) [])) rfl (hb hby at_277)
          refine own_by st277 ?_
          have sg300 : ∀ t, own_S p e below T277 (mkF m 300 (own_AIIIIIIIIIRVR p0 p1 p2 p3 p4 v7 v12 v21 v29 b73 g233 wCLIENT_CREDENTIALS) [(.int (1 : Int32))]) t → own_S p e below T277 (mkF m 280 (own_AIIIIIIIIIRVU p0 p1 p2 p3 p4 v7 v12 v21 v29 b73 g233) [(.ref wCLIENT_CREDENTIALS)]) t := by
            intro t k
            show own_S p e below T277 (mkF m 280 (own_AIIIIIIIIIRVU p0 p1 p2 p3 p4 v7 v12 v21 v29 b73 g233) [(.ref wCLIENT_CREDENTIALS)]) _
            refine XS.astore X277.here hx rfl (hb hby at_280) rfl rfl (l' := (own_AIIIIIIIIIRVR p0 p1 p2 p3 p4 v7 v12 v21 v29 b73 g233 wCLIENT_CREDENTIALS)) rfl ?_
            show own_S p e below T277 (mkF m 282 (own_AIIIIIIIIIRVR p0 p1 p2 p3 p4 v7 v12 v21 v29 b73 g233 wCLIENT_CREDENTIALS) []) _
            refine XS.goto X277.here hx rfl (pc0 := 282) (pc' := 288) rfl (hb hby at_282) (by decide) (by decide) ?_
            show own_S p e below T277 (mkF m 288 (own_AIIIIIIIIIRVR p0 p1 p2 p3 p4 v7 v12 v21 v29 b73 g233 wCLIENT_CREDENTIALS) []) _
            refine XS.aload X277.here hx rfl (hb hby at_288) rfl hgr233 ?_
            show own_S p e below T277 (mkF m 290 (own_AIIIIIIIIIRVR p0 p1 p2 p3 p4 v7 v12 v21 v29 b73 g233 wCLIENT_CREDENTIALS) [g233]) _
            refine XS.aload X277.here hx rfl (hb hby at_290) rfl rfl ?_
            show own_S p e below T277 (mkF m 292 (own_AIIIIIIIIIRVR p0 p1 p2 p3 p4 v7 v12 v21 v29 b73 g233 wCLIENT_CREDENTIALS) [(.ref wCLIENT_CREDENTIALS), g233]) _
            refine Jvm.RoadKit.acmp (g := (mkF m 292 (own_AIIIIIIIIIRVR p0 p1 p2 p3 p4 v7 v12 v21 v29 b73 g233 wCLIENT_CREDENTIALS) [(.ref wCLIENT_CREDENTIALS), g233])) X277 hx rfl hgr233 rfl (pc0 := 292) (pc' := 295) (same := true) rfl (hb hby at_292) rfl (decide_eq_true (by rw [hg233, if_neg (fun q => own_if0 hc253 hc256 q.symm), if_pos (own_if1 hc271 hc274).symm] : (g233 : Value) = (.ref wCLIENT_CREDENTIALS))) (by decide) (by decide) ?_
            show own_S p e below T277 (mkF m 295 (own_AIIIIIIIIIRVR p0 p1 p2 p3 p4 v7 v12 v21 v29 b73 g233 wCLIENT_CREDENTIALS) []) _
            refine XS.iconst X277.here hx rfl (hb hby at_295) ?_
            show own_S p e below T277 (mkF m 296 (own_AIIIIIIIIIRVR p0 p1 p2 p3 p4 v7 v12 v21 v29 b73 g233 wCLIENT_CREDENTIALS) [(.int (1 : Int32))]) _
            refine XS.goto X277.here hx rfl (pc0 := 296) (pc' := 300) rfl (hb hby at_296) (by decide) (by decide) ?_
            exact k
          refine own_by sg300 ?_
          obtain ⟨fs, hr, hrun, hended, hW⟩ := X277.leaveW hS269 (by rw [e277]; exact hk269) (v := some (.int (1 : Int32))) (fun h => by rw [Bd.returns] at h; cases h)
          refine ⟨_, _, ?_, hrun, hended, _, _, rfl, ?_, (by rw [hh]; show CHr Z consts_1 s.vm h0 T277.vm T277.heap; rw [e277]; exact CR269.trans (CHv.at X277 hZ269 hEL hC269.1)), hW.1, hW.2.1, hW.2.2.1, hW.2.2.2.mono (by decide) (by decide)⟩
          · exact retN X277 hx (t := .boolean) Bd.returns (by simp) (hb hby at_300) hr
          · show Q0 Z p0 p1 p2 p3 p4 wV cl wAUTHORIZATION_CODE wCLIENT_CREDENTIALS sAUTHORIZATION_CODE sCLIENT_CREDENTIALS gz h0 n0 _ T277.heap _
            rw [e277]
            exact ⟨rfl, N271⟩
      · have sg259 : ∀ t, own_S p e below T253 (mkF m 259 (own_AIIIIIIIIIRVU p0 p1 p2 p3 p4 v7 v12 v21 v29 b73 g233) []) t → own_S p e below T253 (mkF m 256 (own_AIIIIIIIIIRVU p0 p1 p2 p3 p4 v7 v12 v21 v29 b73 g233) [(.int c253)]) t := by
          intro t k
          show own_S p e below T253 (mkF m 256 (own_AIIIIIIIIIRVU p0 p1 p2 p3 p4 v7 v12 v21 v29 b73 g233) [(.int c253)]) _
          refine XS.ifNo X253.here hx rfl (hb hby at_256) rfl ((if0 _ _).trans (feq hc256).1) ?_
          exact k
        refine own_by sg259 ?_
        obtain ⟨T259, X259, e259, st259⟩ := getS2 X253 hx hZ251 hown251 (host := "") (Or.inl (hw _ (List.mem_of_getElem? (i := 80) rfl))) Via.refl hq253 (S_AUTHORIZATION_CODE.ext ((((((O.keep Kq61 all0).wr W72 g_r61).ext E73).keep Kq79 (allS g_b73 all0)).keep Kq233 all0).ext E251).2) (g := (mkF m 259 (own_AIIIIIIIIIRVU p0 p1 p2 p3 p4 v7 v12 v21 v29 b73 g233) [])) rfl (hb hby at_259)
        refine own_by st259 ?_
        have sg300 : ∀ t, own_S p e below T259 (mkF m 300 (own_AIIIIIIIIIRVR p0 p1 p2 p3 p4 v7 v12 v21 v29 b73 g233 wAUTHORIZATION_CODE) [(.int (1 : Int32))]) t → own_S p e below T259 (mkF m 262 (own_AIIIIIIIIIRVU p0 p1 p2 p3 p4 v7 v12 v21 v29 b73 g233) [(.ref wAUTHORIZATION_CODE)]) t := by
          intro t k
          show own_S p e below T259 (mkF m 262 (own_AIIIIIIIIIRVU p0 p1 p2 p3 p4 v7 v12 v21 v29 b73 g233) [(.ref wAUTHORIZATION_CODE)]) _
          refine XS.astore X259.here hx rfl (hb hby at_262) rfl rfl (l' := (own_AIIIIIIIIIRVR p0 p1 p2 p3 p4 v7 v12 v21 v29 b73 g233 wAUTHORIZATION_CODE)) rfl ?_
          show own_S p e below T259 (mkF m 264 (own_AIIIIIIIIIRVR p0 p1 p2 p3 p4 v7 v12 v21 v29 b73 g233 wAUTHORIZATION_CODE) []) _
          refine XS.goto X259.here hx rfl (pc0 := 264) (pc' := 288) rfl (hb hby at_264) (by decide) (by decide) ?_
          show own_S p e below T259 (mkF m 288 (own_AIIIIIIIIIRVR p0 p1 p2 p3 p4 v7 v12 v21 v29 b73 g233 wAUTHORIZATION_CODE) []) _
          refine XS.aload X259.here hx rfl (hb hby at_288) rfl hgr233 ?_
          show own_S p e below T259 (mkF m 290 (own_AIIIIIIIIIRVR p0 p1 p2 p3 p4 v7 v12 v21 v29 b73 g233 wAUTHORIZATION_CODE) [g233]) _
          refine XS.aload X259.here hx rfl (hb hby at_290) rfl rfl ?_
          show own_S p e below T259 (mkF m 292 (own_AIIIIIIIIIRVR p0 p1 p2 p3 p4 v7 v12 v21 v29 b73 g233 wAUTHORIZATION_CODE) [(.ref wAUTHORIZATION_CODE), g233]) _
          refine Jvm.RoadKit.acmp (g := (mkF m 292 (own_AIIIIIIIIIRVR p0 p1 p2 p3 p4 v7 v12 v21 v29 b73 g233 wAUTHORIZATION_CODE) [(.ref wAUTHORIZATION_CODE), g233])) X259 hx rfl hgr233 rfl (pc0 := 292) (pc' := 295) (same := true) rfl (hb hby at_292) rfl (decide_eq_true (by rw [hg233, if_pos (own_if1 hc253 hc256).symm] : (g233 : Value) = (.ref wAUTHORIZATION_CODE))) (by decide) (by decide) ?_
          show own_S p e below T259 (mkF m 295 (own_AIIIIIIIIIRVR p0 p1 p2 p3 p4 v7 v12 v21 v29 b73 g233 wAUTHORIZATION_CODE) []) _
          refine XS.iconst X259.here hx rfl (hb hby at_295) ?_
          show own_S p e below T259 (mkF m 296 (own_AIIIIIIIIIRVR p0 p1 p2 p3 p4 v7 v12 v21 v29 b73 g233 wAUTHORIZATION_CODE) [(.int (1 : Int32))]) _
          refine XS.goto X259.here hx rfl (pc0 := 296) (pc' := 300) rfl (hb hby at_296) (by decide) (by decide) ?_
          exact k
        refine own_by sg300 ?_
        obtain ⟨fs, hr, hrun, hended, hW⟩ := X259.leaveW hS251 (by rw [e259]; exact hk251) (v := some (.int (1 : Int32))) (fun h => by rw [Bd.returns] at h; cases h)
        refine ⟨_, _, ?_, hrun, hended, _, _, rfl, ?_, (by rw [hh]; show CHr Z consts_1 s.vm h0 T259.vm T259.heap; rw [e259]; exact CR251.trans (CHv.at X259 hZ251 hEL hC251.1)), hW.1, hW.2.1, hW.2.2.1, hW.2.2.2.mono (by decide) (by decide)⟩
        · exact retN X259 hx (t := .boolean) Bd.returns (by simp) (hb hby at_300) hr
        · show Q0 Z p0 p1 p2 p3 p4 wV cl wAUTHORIZATION_CODE wCLIENT_CREDENTIALS sAUTHORIZATION_CODE sCLIENT_CREDENTIALS gz h0 n0 _ T259.heap _
          rw [e259]
          exact ⟨rfl, N253⟩
    · have sg90 : ∀ t, own_S p e below s₁ (mkF m 90 (own_AIIIIIIIIIUUU p0 p1 p2 p3 p4 v7 v12 v21 v29) [(.int (2 : Int32)), (.int v7)]) t → own_S p e below s₁ (mkF m 56 (own_AIIIIIIIIIUUU p0 p1 p2 p3 p4 v7 v12 v21 v29) [(.int (1 : Int32)), (.int v7)]) t := by
        intro t k
        show own_S p e below s₁ (mkF m 56 (own_AIIIIIIIIIUUU p0 p1 p2 p3 p4 v7 v12 v21 v29) [(.int (1 : Int32)), (.int v7)]) _
        refine XS.icmpYes X0.here hx rfl (pc0 := 56) (pc' := 87) rfl (hb hby at_56) rfl (feq hc56).2 (by decide) (by decide) ?_
        show own_S p e below s₁ (mkF m 87 (own_AIIIIIIIIIUUU p0 p1 p2 p3 p4 v7 v12 v21 v29) []) _
        refine XS.iload X0.here hx rfl (hb hby at_87) rfl ?_
        show own_S p e below s₁ (mkF m 89 (own_AIIIIIIIIIUUU p0 p1 p2 p3 p4 v7 v12 v21 v29) [(.int v7)]) _
        refine XS.iconst X0.here hx rfl (hb hby at_89) ?_
        exact k
      refine own_by sg90 ?_
      by_cases hc90 : v7 = (2 : Int32)
      · have sg93 : ∀ t, own_S p e below s₁ (mkF m 93 (own_AIIIIIIIIIUUU p0 p1 p2 p3 p4 v7 v12 v21 v29) []) t → own_S p e below s₁ (mkF m 90 (own_AIIIIIIIIIUUU p0 p1 p2 p3 p4 v7 v12 v21 v29) [(.int (2 : Int32)), (.int v7)]) t := by
          intro t k
          show own_S p e below s₁ (mkF m 90 (own_AIIIIIIIIIUUU p0 p1 p2 p3 p4 v7 v12 v21 v29) [(.int (2 : Int32)), (.int v7)]) _
          refine XS.icmpNo X0.here hx rfl (hb hby at_90) rfl (teq hc90).2 ?_
          exact k
        refine own_by sg93 ?_
        obtain ⟨T93, h93, X93, e93, E93, A93, D93, -, st93⟩ := newO X0 hx hZ hown (hw _ (List.mem_of_getElem? (i := 1) rfl)) (hw _ (List.mem_of_getElem? (i := 2) rfl)) (hw _ (List.mem_of_getElem? (i := 3) rfl)) e0 (g := (mkF m 93 (own_AIIIIIIIIIUUU p0 p1 p2 p3 p4 v7 v12 v21 v29) [])) rfl (hb hby at_93) (by decide) (by decide)
        obtain ⟨b93, g93⟩ : ∃ z, z = h0.size := ⟨_, rfl⟩
        rw [← g93] at A93 D93 st93
        have g_b93 : n0 ≤ b93 := Nat.le_trans Z0 (Nat.le_of_eq g93.symm)
        have sz_b93 : h0.size ≤ b93 := Nat.le_trans K0.1 (Nat.le_of_eq g93.symm)
        have K93 := K0.ext E93
        have Z93 : n0 ≤ h93.size := Nat.le_trans Z0 E93.1
        have CC93 := CHr.ext E93 hH0
        have CR93 := (CHr.refl hH0).trans CC93
        have F_coder_b93 : Fld Z h93 b93 "java/lang/String" "coder" "B" (.int (0 : Int32)) := D93 (Or.inr (hw _ (List.mem_of_getElem? (i := 32) rfl))) (ty := .byte) (by decide)
        have F_value_b93 : Fld Z h93 b93 "java/lang/String" "value" "[B" .null := D93 (Or.inr (hw _ (List.mem_of_getElem? (i := 34) rfl))) (ty := (.array .byte)) (by decide)
        refine own_by st93 ?_
        have sg99 : ∀ t, own_S p e below T93 (mkF m 99 (own_AIIIIIIIIIUUU p0 p1 p2 p3 p4 v7 v12 v21 v29) [(.int v12), (.ref b93), (.ref b93)]) t → own_S p e below T93 (mkF m 96 (own_AIIIIIIIIIUUU p0 p1 p2 p3 p4 v7 v12 v21 v29) [(.ref b93)]) t := by
          intro t k
          show own_S p e below T93 (mkF m 96 (own_AIIIIIIIIIUUU p0 p1 p2 p3 p4 v7 v12 v21 v29) [(.ref b93)]) _
          refine XS.dup X93.here hx rfl (hb hby at_96) rfl rfl ?_
          show own_S p e below T93 (mkF m 97 (own_AIIIIIIIIIUUU p0 p1 p2 p3 p4 v7 v12 v21 v29) [(.ref b93), (.ref b93)]) _
          refine XS.iload X93.here hx rfl (hb hby at_97) rfl ?_
          exact k
        refine own_by sg99 ?_
        obtain ⟨_, _, ⟨T99, L99, k99, n99⟩, -, X99, ⟨Lc99, hQ99, l99, y99, z99⟩, st99⟩ := Jvm.LawKit.callS X93 hx (y := (⟨"com/example/writd/writd/model/GrantTypeFromValuePinLaw", "name17", "(I)[C"⟩ : MethodName)) hown (mvT hZ (hw _ (List.mem_of_getElem? (i := 77) rfl))) (mvT hZ (hw _ (List.mem_of_getElem? (i := 78) rfl))) (mvT hZ (hw _ (List.mem_of_getElem? (i := 6) rfl))) (mvT hZ (hw _ (List.mem_of_getElem? (i := 79) rfl))) (by decide) (backOf (W := 2) (rm13 l Z a0 hw [] v12 h93 n0 Z93 ) hZ (hw _ (List.mem_of_getElem? (i := 79) rfl)) (hw _ (List.mem_of_getElem? (i := 6) rfl)) (by decide) (by decide)) (g := (mkF m 99 (own_AIIIIIIIIIUUU p0 p1 p2 p3 p4 v7 v12 v21 v29) [(.int v12), (.ref b93), (.ref b93)])) rfl (by rw [hml]; rfl) (argsL := [(.int v12)]) (rest := [(.ref b93), (.ref b93)]) (lenOf pd_0_0 rfl) rfl (by show 2 * 0 + _ ≤ _; exact Nat.le_of_eq rfl) (hb hby at_99) (fun _ _ => ⟨rfl, e93, (by decide : 1 + 1 ≤ _), (by decide : 4 + 17 ≤ _)⟩)
        dsimp only [Pt.U, Pt.locs, Pt.cells, Pt.slots] at X99 l99 y99 z99 st99 hQ99
        subst l99 y99 z99
        obtain ⟨r99, kc99, rfl, ge99, N99q, Kq99, Aq99⟩ := hQ99
        have N99 := Fr.app N0 N99q
        have ln99 : (own_n17 v12).length = 17 := own_n17_len _
        rw [ln99] at Aq99
        have An99 : Arv Z T99.heap r99 kc99 .char (17 : Int32) ((own_n17 v12).map Value.int) (.int (0 : Int32)) := Aq99
        have hp99 : ∀ c ∈ (own_n17 v12), ¬ c < 0 ∧ ¬ (255 : Int32) < c := own_n17_hp _
        have ne_b93_r99 : b93 ≠ r99 := Nat.ne_of_lt (Nat.lt_of_lt_of_le A93.lt ge99)
        have g_r99 : n0 ≤ r99 := Nat.le_trans Z93 ge99
        have sz_r99 : h0.size ≤ r99 := Nat.le_trans K93.1 ge99
        have K99 : Keep h0 T99.heap [] := K93.trans Kq99 (fun x hx => nomatch hx)
        have Z99 : n0 ≤ T99.heap.size := Nat.le_trans Z93 Kq99.1
        have CC99 := CHr.keep Kq99 sf0 CC93.1
        have CR99 := CR93.trans CC99
        refine own_by st99 ?_
        obtain ⟨_, _, ⟨T102, L102, k102, n102⟩, -, X102, ⟨Lc102, hQ102, l102, y102, z102⟩, st102⟩ := X99.specialBack hx (y := (⟨"java/lang/String", "<init>", "([C)V"⟩ : MethodName)) rfl hown (mvT hZ (hw _ (List.mem_of_getElem? (i := 9) rfl))) (mvT hZ (hw _ (List.mem_of_getElem? (i := 10) rfl))) (mvT hZ (hw _ (List.mem_of_getElem? (i := 11) rfl))) (by decide) (StrChars.Road.backV (W := 1) hZ hws (kI := 4) (hw _ (List.mem_of_getElem? (i := 2) rfl)) (cs := (own_n17 v12)) (bs := (own_n17 v12).map (fun c => c.toInt8.toInt32)) (n := 17) g_b93 Z99 (A93.keep Kq99) (F_value_b93.keep Kq99 List.not_mem_nil) (F_coder_b93.keep Kq99 List.not_mem_nil) An99 (O2.ext ((O.ext E93).keep Kq99 all0).2) P5 ln99 rfl (by decide) (by decide) hp99 rfl (by decide) (by decide)) (g := (mkF m 102 (own_AIIIIIIIIIUUU p0 p1 p2 p3 p4 v7 v12 v21 v29) [(.ref r99), (.ref b93), (.ref b93)])) rfl (by rw [hml]; rfl) (Steps.refl _) (a := b93) (argsL := [(.ref r99)]) (rest := [(.ref b93)]) (lenOf pd_0_1 rfl) rfl (by show 2 * 0 + _ ≤ _; exact Nat.le_of_eq rfl) (hb hby at_102) (fun _ _ => ⟨rfl, rfl, (by decide : 2 + 1 ≤ _), (by decide : 21 + 17 ≤ _)⟩)
        dsimp only [Pt.U, Pt.locs, Pt.cells, Pt.slots] at X102 l102 y102 z102 st102 hQ102
        subst l102 y102 z102
        obtain ⟨rfl, N102q, Kq102, Eq102, Cq102, t102, kb102, u1102, u2102, u3102, Vq102, Aq102⟩ := hQ102
        have N102 := Fr.app N99 N102q
        have Sq102 : own_Str Z T102.heap b93 (own_n17 v12) := ⟨t102, kb102, 0, _, _, Eq102, Vq102, Cq102, Aq102, StrChars.Road.codOf (n := 17) ln99 (fun x hx => (hp99 x hx).2), own_up _ hp99, by rw [ln99]; decide⟩
        have fc := (An99.keep Kq102 (fun h => (Ne.symm ne_b93_r99) (List.mem_singleton.mp h)))
        have K102 : Keep h0 T102.heap [] := K99.trans Kq102 (fun x hx => by cases List.mem_singleton.mp hx; exact Or.inr sz_b93)
        have Z102 : n0 ≤ T102.heap.size := Nat.le_trans Z99 Kq102.1
        have CC102 := CHr.keep Kq102 (sfS (own_safe0 hZ.alike (A93.keep Kq99) (F_value_b93.keep Kq99 List.not_mem_nil) (hw _ (List.mem_of_getElem? (i := 2) rfl))) sf0) CC99.1
        have CR102 := CR99.trans CC102
        refine own_by (fun t k => st102.trans k) ?_
        have sg233 : ∀ t, own_S p e below T102 (mkF m 233 (own_AIIIIIIIIIRUU p0 p1 p2 p3 p4 v7 v12 v21 v29 b93) [(.ref b93)]) t → own_S p e below T102 (mkF m 105 (own_AIIIIIIIIIUUU p0 p1 p2 p3 p4 v7 v12 v21 v29) [(.ref b93)]) t := by
          intro t k
          show own_S p e below T102 (mkF m 105 (own_AIIIIIIIIIUUU p0 p1 p2 p3 p4 v7 v12 v21 v29) [(.ref b93)]) _
          refine XS.astore X102.here hx rfl (hb hby at_105) rfl rfl (l' := (own_AIIIIIIIIIRUU p0 p1 p2 p3 p4 v7 v12 v21 v29 b93)) rfl ?_
          show own_S p e below T102 (mkF m 107 (own_AIIIIIIIIIRUU p0 p1 p2 p3 p4 v7 v12 v21 v29 b93) []) _
          refine XS.goto X102.here hx rfl (pc0 := 107) (pc' := 231) rfl (hb hby at_107) (by decide) (by decide) ?_
          show own_S p e below T102 (mkF m 231 (own_AIIIIIIIIIRUU p0 p1 p2 p3 p4 v7 v12 v21 v29 b93) []) _
          refine XS.aload X102.here hx rfl (hb hby at_231) rfl rfl ?_
          exact k
        refine own_by sg233 ?_
        obtain ⟨_, _, ⟨T233, L233, k233, n233⟩, -, X233, ⟨Lc233, hQ233, l233, y233, z233⟩, st233⟩ := Jvm.LawKit.callS X102 hx (y := (⟨"com/example/writd/writd/model/GrantType", "fromValue", "(Ljava/lang/String;)Lcom/example/writd/writd/model/GrantType;"⟩ : MethodName)) hown (mvT hZ (hw _ (List.mem_of_getElem? (i := 35) rfl))) (mvT hZ (hw _ (List.mem_of_getElem? (i := 36) rfl))) (mvT hZ (hw _ (List.mem_of_getElem? (i := 37) rfl))) (mvT hZ (hw _ (List.mem_of_getElem? (i := 38) rfl))) (by decide) (backOf (W := 0) (rm8 l Z a0 hw [] b93 (own_n17 v12) wV cl wAUTHORIZATION_CODE wCLIENT_CREDENTIALS sAUTHORIZATION_CODE sCLIENT_CREDENTIALS gz T102.heap n0 Z102 (((O.ext E93).keep Kq99 all0).keep Kq102 (allS g_b93 all0)) O2 P5 S_V Ar_V E_V FC hsz hat0 hat1 FV_AUTHORIZATION_CODE FV_CLIENT_CREDENTIALS EX_AUTHORIZATION_CODE EX_CLIENT_CREDENTIALS Str_AUTHORIZATION_CODE Str_CLIENT_CREDENTIALS Sq102) hZ (hw _ (List.mem_of_getElem? (i := 38) rfl)) (hw _ (List.mem_of_getElem? (i := 37) rfl)) (by decide) (by decide)) (g := (mkF m 233 (own_AIIIIIIIIIRUU p0 p1 p2 p3 p4 v7 v12 v21 v29 b93) [(.ref b93)])) rfl (by rw [hml]; rfl) (argsL := [(.ref b93)]) (rest := []) (lenOf pd_0_2 rfl) rfl (by show 2 * 0 + _ ≤ _; exact Nat.le_of_eq rfl) (hb hby at_233) (fun _ _ => ⟨rfl, rfl, (by decide : 3 + 1 ≤ _), (by decide : 38 + 2 ≤ _)⟩)
        dsimp only [Pt.U, Pt.locs, Pt.cells, Pt.slots] at X233 l233 y233 z233 st233 hQ233
        subst l233 y233 z233
        obtain ⟨rfl, N233q, Kq233⟩ := hQ233
        have N233 := Fr.app N102 N233q
        have K233 : Keep h0 T233.heap [] := K102.trans Kq233 (fun x hx => nomatch hx)
        have Z233 : n0 ≤ T233.heap.size := Nat.le_trans Z102 Kq233.1
        have CC233 := CHr.keep Kq233 sf0 CC102.1
        have CR233 := CR102.trans CC233
        obtain ⟨g233, hg233⟩ : ∃ z : Value, z = (if ([(97 : Int32), (117 : Int32), (116 : Int32), (104 : Int32), (111 : Int32), (114 : Int32), (105 : Int32), (122 : Int32), (97 : Int32), (116 : Int32), (105 : Int32), (111 : Int32), (110 : Int32), (95 : Int32), (99 : Int32), (111 : Int32), (100 : Int32), (101 : Int32)] : List Int32) = (own_n17 v12) then Value.ref wAUTHORIZATION_CODE else (if ([(99 : Int32), (108 : Int32), (105 : Int32), (101 : Int32), (110 : Int32), (116 : Int32), (95 : Int32), (99 : Int32), (114 : Int32), (101 : Int32), (100 : Int32), (101 : Int32), (110 : Int32), (116 : Int32), (105 : Int32), (97 : Int32), (108 : Int32), (115 : Int32)] : List Int32) = (own_n17 v12) then Value.ref wCLIENT_CREDENTIALS else Value.null)) := ⟨_, rfl⟩
        rw [← hg233] at st233
        have hgr233 : g233.isRef = true := by rw [hg233]; repeat' (first | rfl | (refine own_isr rfl ?_))
        refine own_by st233 ?_
        have sg251 : ∀ t, own_S p e below T233 (mkF m 251 (own_AIIIIIIIIIRVU p0 p1 p2 p3 p4 v7 v12 v21 v29 b93 g233) [(.ref b93)]) t → own_S p e below T233 (mkF m 236 (own_AIIIIIIIIIRUU p0 p1 p2 p3 p4 v7 v12 v21 v29 b93) [g233]) t := by
          intro t k
          show own_S p e below T233 (mkF m 236 (own_AIIIIIIIIIRUU p0 p1 p2 p3 p4 v7 v12 v21 v29 b93) [g233]) _
          refine XS.astore X233.here hx rfl (hb hby at_236) rfl hgr233 (l' := (own_AIIIIIIIIIRVU p0 p1 p2 p3 p4 v7 v12 v21 v29 b93 g233)) (by simp [storeLocals, storeSelf, setAt, own_cat1 hgr233, own_catr, own_catn]) ?_
          show own_S p e below T233 (mkF m 238 (own_AIIIIIIIIIRVU p0 p1 p2 p3 p4 v7 v12 v21 v29 b93 g233) []) _
          refine XS.aload X233.here hx rfl (hb hby at_238) rfl rfl ?_
          show own_S p e below T233 (mkF m 240 (own_AIIIIIIIIIRVU p0 p1 p2 p3 p4 v7 v12 v21 v29 b93 g233) [(.ref b93)]) _
          refine XS.ifnonnullYes X233.here hx rfl (pc0 := 240) (pc' := 249) rfl (hb hby at_240) rfl (by decide) (by decide) ?_
          show own_S p e below T233 (mkF m 249 (own_AIIIIIIIIIRVU p0 p1 p2 p3 p4 v7 v12 v21 v29 b93 g233) []) _
          refine XS.aload X233.here hx rfl (hb hby at_249) rfl rfl ?_
          exact k
        refine own_by sg251 ?_
        obtain ⟨l251a, T251, h251, ks251, lb251, lk251, X251, e251, E251, hS251, hk251, hZ251, hown251, lE251, lC251, lV251, lA251, la1251, la2251, hC251, -, hsf251, st251⟩ := ldcCH X233 hx hZ hown (hw _ (List.mem_of_getElem? (i := 68) rfl)) wS rfl hS0 (Nat.le_trans (Nat.le_trans (Nat.le_trans (Nat.le_trans (Nat.zero_le _) E93.1) Kq99.1) Kq102.1) Kq233.1) hEL (by decide) CC233.1 (vs := [(.int (97 : Int32)), (.int (117 : Int32)), (.int (116 : Int32)), (.int (104 : Int32)), (.int (111 : Int32)), (.int (114 : Int32)), (.int (105 : Int32)), (.int (122 : Int32)), (.int (97 : Int32)), (.int (116 : Int32)), (.int (105 : Int32)), (.int (111 : Int32)), (.int (110 : Int32)), (.int (95 : Int32)), (.int (99 : Int32)), (.int (111 : Int32)), (.int (100 : Int32)), (.int (101 : Int32))]) (z := (18 : Int32)) ⟨by decide, by decide⟩ (by decide) (by decide) (g := (mkF m 251 (own_AIIIIIIIIIRVU p0 p1 p2 p3 p4 v7 v12 v21 v29 b93 g233) [(.ref b93)])) rfl (hb hby at_251) (n := 72) (by decide) (by decide) (by decide) (by decide)
        have K251 := K233.ext E251
        have Z251 : n0 ≤ h251.size := Nat.le_trans Z233 E251.1
        have CR251 := CR233.trans hC251
        refine own_by st251 ?_
        obtain ⟨tx253, kx253, dx253, nx253, vx253, xe253, xv253, xc253, xk253, xh253, xb253, xl253⟩ := id ((Sq102.ext (own_kx Kq233)).ext E251)
        obtain ⟨ty253, ky253, dy253, ny253, vy253, ye253, yv253, yc253, yk253, yh253, yb253, yl253⟩ := id (⟨lb251, lk251, 0, (18 : Int32), _, lE251, lV251, lC251, lA251, Or.inl ⟨rfl, rfl, rfl, by decide⟩, by decide, by decide⟩ : own_Str Z h251 l251a ([(97 : Int32), (117 : Int32), (116 : Int32), (104 : Int32), (111 : Int32), (114 : Int32), (105 : Int32), (122 : Int32), (97 : Int32), (116 : Int32), (105 : Int32), (111 : Int32), (110 : Int32), (95 : Int32), (99 : Int32), (111 : Int32), (100 : Int32), (101 : Int32)] : List Int32))
        obtain ⟨cq253, kq253, q253a, q253b, q253c⟩ := isOf hZ251 e251 ((Eq102.keep Kq233).ext E251)
        obtain ⟨_, _, ⟨T253, L253, k253, n253⟩, -, X253, ⟨Lc253, hQ253, l253, y253, z253⟩, st253⟩ := X251.virtualBack hx (y := (⟨"java/lang/String", "equals", "(Ljava/lang/Object;)Z"⟩ : MethodName)) (z := (⟨"java/lang/String", "equals", "(Ljava/lang/Object;)Z"⟩ : MethodName)) hown251 (mvT hZ251 (hw _ (List.mem_of_getElem? (i := 71) rfl))) (mvT hZ251 (hw _ (List.mem_of_getElem? (i := 59) rfl))) (notFace_of_selects (args := #[]) (mvT hZ251 (hw _ (List.mem_of_getElem? (i := 61) rfl)))) (mvT hZ251 (hw _ (List.mem_of_getElem? (i := 61) rfl))) (mvT hZ251 (hw _ (List.mem_of_getElem? (i := 60) rfl))) (by decide) (StrChars.Road.eqW (W := 0) hZ251 heq (kI := 4) (hw _ (List.mem_of_getElem? (i := 2) rfl)) xe253 xv253 xc253 xk253 xh253 xb253 xl253 ye253 yv253 yc253 yk253 yh253 yb253 yl253 (O2.ext (((((O.ext E93).keep Kq99 all0).keep Kq102 (allS g_b93 all0)).keep Kq233 all0).ext E251).2) P5 (by decide) (by decide)) q253a q253c (g := (mkF m 253 (own_AIIIIIIIIIRVU p0 p1 p2 p3 p4 v7 v12 v21 v29 b93 g233) [(.ref l251a), (.ref b93)])) rfl (by rw [hml]; rfl) (Steps.refl _) (argsL := [(.ref l251a)]) (rest := []) (lenOf pd_0_3 rfl) rfl (by show 2 * 0 + _ ≤ _; exact Nat.le_of_eq rfl) (hb hby at_253) (fun _ _ => ⟨rfl, e251, (by decide : 6 + 0 ≤ _), (by decide : 116 + 0 ≤ _)⟩)
        dsimp only [Pt.U, Pt.locs, Pt.cells, Pt.slots] at X253 l253 y253 z253 st253 hQ253
        subst l253 y253 z253
        obtain ⟨hv253, rfl, hq253⟩ := hQ253
        obtain rfl := own_eqv hv253
        have N253 := Fr.app N233 (Fr.nil n0)
        obtain ⟨c253, hc253⟩ : ∃ z : Int32, z = (if (own_n17 v12) = ([(97 : Int32), (117 : Int32), (116 : Int32), (104 : Int32), (111 : Int32), (114 : Int32), (105 : Int32), (122 : Int32), (97 : Int32), (116 : Int32), (105 : Int32), (111 : Int32), (110 : Int32), (95 : Int32), (99 : Int32), (111 : Int32), (100 : Int32), (101 : Int32)] : List Int32) then (1 : Int32) else (0 : Int32)) := ⟨_, rfl⟩
        rw [← hc253] at st253
        refine own_by (fun t k => st253.trans k) ?_
        by_cases hc256 : c253 = (0 : Int32)
        · have sg269 : ∀ t, own_S p e below T253 (mkF m 269 (own_AIIIIIIIIIRVU p0 p1 p2 p3 p4 v7 v12 v21 v29 b93 g233) [(.ref b93)]) t → own_S p e below T253 (mkF m 256 (own_AIIIIIIIIIRVU p0 p1 p2 p3 p4 v7 v12 v21 v29 b93 g233) [(.int c253)]) t := by
            intro t k
            show own_S p e below T253 (mkF m 256 (own_AIIIIIIIIIRVU p0 p1 p2 p3 p4 v7 v12 v21 v29 b93 g233) [(.int c253)]) _
            refine XS.ifYes X253.here hx rfl (pc0 := 256) (pc' := 267) rfl (hb hby at_256) rfl ((if0 _ _).trans (teq hc256).1) (by decide) (by decide) ?_
            show own_S p e below T253 (mkF m 267 (own_AIIIIIIIIIRVU p0 p1 p2 p3 p4 v7 v12 v21 v29 b93 g233) []) _
            refine XS.aload X253.here hx rfl (hb hby at_267) rfl rfl ?_
            exact k
          refine own_by sg269 ?_
          obtain ⟨l269a, T269, h269, ks269, lb269, lk269, X269, e269, E269, hS269, hk269, hZ269, hown269, lE269, lC269, lV269, lA269, la1269, la2269, hC269, -, hsf269, st269⟩ := ldcCH X253 hx hZ251 hown251 (hw _ (List.mem_of_getElem? (i := 72) rfl)) wS hq253 hS251 hk251 hEL (by decide) hC251.1 (vs := [(.int (99 : Int32)), (.int (108 : Int32)), (.int (105 : Int32)), (.int (101 : Int32)), (.int (110 : Int32)), (.int (116 : Int32)), (.int (95 : Int32)), (.int (99 : Int32)), (.int (114 : Int32)), (.int (101 : Int32)), (.int (100 : Int32)), (.int (101 : Int32)), (.int (110 : Int32)), (.int (116 : Int32)), (.int (105 : Int32)), (.int (97 : Int32)), (.int (108 : Int32)), (.int (115 : Int32))]) (z := (18 : Int32)) ⟨by decide, by decide⟩ (by decide) (by decide) (g := (mkF m 269 (own_AIIIIIIIIIRVU p0 p1 p2 p3 p4 v7 v12 v21 v29 b93 g233) [(.ref b93)])) rfl (hb hby at_269) (n := 72) (by decide) (by decide) (by decide) (by decide)
          have K269 := K251.ext E269
          have Z269 : n0 ≤ h269.size := Nat.le_trans Z251 E269.1
          have CR269 := CR251.trans hC269
          refine own_by st269 ?_
          obtain ⟨tx271, kx271, dx271, nx271, vx271, xe271, xv271, xc271, xk271, xh271, xb271, xl271⟩ := id (((Sq102.ext (own_kx Kq233)).ext E251).ext E269)
          obtain ⟨ty271, ky271, dy271, ny271, vy271, ye271, yv271, yc271, yk271, yh271, yb271, yl271⟩ := id (⟨lb269, lk269, 0, (18 : Int32), _, lE269, lV269, lC269, lA269, Or.inl ⟨rfl, rfl, rfl, by decide⟩, by decide, by decide⟩ : own_Str Z h269 l269a ([(99 : Int32), (108 : Int32), (105 : Int32), (101 : Int32), (110 : Int32), (116 : Int32), (95 : Int32), (99 : Int32), (114 : Int32), (101 : Int32), (100 : Int32), (101 : Int32), (110 : Int32), (116 : Int32), (105 : Int32), (97 : Int32), (108 : Int32), (115 : Int32)] : List Int32))
          obtain ⟨cq271, kq271, q271a, q271b, q271c⟩ := isOf hZ269 e269 (((Eq102.keep Kq233).ext E251).ext E269)
          obtain ⟨_, _, ⟨T271, L271, k271, n271⟩, -, X271, ⟨Lc271, hQ271, l271, y271, z271⟩, st271⟩ := X269.virtualBack hx (y := (⟨"java/lang/String", "equals", "(Ljava/lang/Object;)Z"⟩ : MethodName)) (z := (⟨"java/lang/String", "equals", "(Ljava/lang/Object;)Z"⟩ : MethodName)) hown269 (mvT hZ269 (hw _ (List.mem_of_getElem? (i := 71) rfl))) (mvT hZ269 (hw _ (List.mem_of_getElem? (i := 59) rfl))) (notFace_of_selects (args := #[]) (mvT hZ269 (hw _ (List.mem_of_getElem? (i := 61) rfl)))) (mvT hZ269 (hw _ (List.mem_of_getElem? (i := 61) rfl))) (mvT hZ269 (hw _ (List.mem_of_getElem? (i := 60) rfl))) (by decide) (StrChars.Road.eqW (W := 0) hZ269 heq (kI := 4) (hw _ (List.mem_of_getElem? (i := 2) rfl)) xe271 xv271 xc271 xk271 xh271 xb271 xl271 ye271 yv271 yc271 yk271 yh271 yb271 yl271 (O2.ext ((((((O.ext E93).keep Kq99 all0).keep Kq102 (allS g_b93 all0)).keep Kq233 all0).ext E251).ext E269).2) P5 (by decide) (by decide)) q271a q271c (g := (mkF m 271 (own_AIIIIIIIIIRVU p0 p1 p2 p3 p4 v7 v12 v21 v29 b93 g233) [(.ref l269a), (.ref b93)])) rfl (by rw [hml]; rfl) (Steps.refl _) (argsL := [(.ref l269a)]) (rest := []) (lenOf pd_0_3 rfl) rfl (by show 2 * 0 + _ ≤ _; exact Nat.le_of_eq rfl) (hb hby at_271) (fun _ _ => ⟨rfl, e269, (by decide : 8 + 0 ≤ _), (by decide : 192 + 0 ≤ _)⟩)
          dsimp only [Pt.U, Pt.locs, Pt.cells, Pt.slots] at X271 l271 y271 z271 st271 hQ271
          subst l271 y271 z271
          obtain ⟨hv271, rfl, hq271⟩ := hQ271
          obtain rfl := own_eqv hv271
          have N271 := Fr.app N253 (Fr.nil n0)
          obtain ⟨c271, hc271⟩ : ∃ z : Int32, z = (if (own_n17 v12) = ([(99 : Int32), (108 : Int32), (105 : Int32), (101 : Int32), (110 : Int32), (116 : Int32), (95 : Int32), (99 : Int32), (114 : Int32), (101 : Int32), (100 : Int32), (101 : Int32), (110 : Int32), (116 : Int32), (105 : Int32), (97 : Int32), (108 : Int32), (115 : Int32)] : List Int32) then (1 : Int32) else (0 : Int32)) := ⟨_, rfl⟩
          rw [← hc271] at st271
          refine own_by (fun t k => st271.trans k) ?_
          by_cases hc274 : c271 = (0 : Int32)
          · have sg300 : ∀ t, own_S p e below T271 (mkF m 300 (own_AIIIIIIIIIRVN p0 p1 p2 p3 p4 v7 v12 v21 v29 b93 g233) [(.int (1 : Int32))]) t → own_S p e below T271 (mkF m 274 (own_AIIIIIIIIIRVU p0 p1 p2 p3 p4 v7 v12 v21 v29 b93 g233) [(.int c271)]) t := by
              intro t k
              show own_S p e below T271 (mkF m 274 (own_AIIIIIIIIIRVU p0 p1 p2 p3 p4 v7 v12 v21 v29 b93 g233) [(.int c271)]) _
              refine XS.ifYes X271.here hx rfl (pc0 := 274) (pc' := 285) rfl (hb hby at_274) rfl ((if0 _ _).trans (teq hc274).1) (by decide) (by decide) ?_
              show own_S p e below T271 (mkF m 285 (own_AIIIIIIIIIRVU p0 p1 p2 p3 p4 v7 v12 v21 v29 b93 g233) []) _
              refine XS.aconstNull X271.here hx rfl (hb hby at_285) ?_
              show own_S p e below T271 (mkF m 286 (own_AIIIIIIIIIRVU p0 p1 p2 p3 p4 v7 v12 v21 v29 b93 g233) [.null]) _
              refine XS.astore X271.here hx rfl (hb hby at_286) rfl rfl (l' := (own_AIIIIIIIIIRVN p0 p1 p2 p3 p4 v7 v12 v21 v29 b93 g233)) rfl ?_
              show own_S p e below T271 (mkF m 288 (own_AIIIIIIIIIRVN p0 p1 p2 p3 p4 v7 v12 v21 v29 b93 g233) []) _
              refine XS.aload X271.here hx rfl (hb hby at_288) rfl hgr233 ?_
              show own_S p e below T271 (mkF m 290 (own_AIIIIIIIIIRVN p0 p1 p2 p3 p4 v7 v12 v21 v29 b93 g233) [g233]) _
              refine XS.aload X271.here hx rfl (hb hby at_290) rfl rfl ?_
              show own_S p e below T271 (mkF m 292 (own_AIIIIIIIIIRVN p0 p1 p2 p3 p4 v7 v12 v21 v29 b93 g233) [.null, g233]) _
              refine Jvm.RoadKit.acmp (g := (mkF m 292 (own_AIIIIIIIIIRVN p0 p1 p2 p3 p4 v7 v12 v21 v29 b93 g233) [.null, g233])) X271 hx rfl hgr233 rfl (pc0 := 292) (pc' := 295) (same := true) rfl (hb hby at_292) rfl (decide_eq_true (by rw [hg233, if_neg (fun q => own_if0 hc253 hc256 q.symm), if_neg (fun q => own_if0 hc271 hc274 q.symm)] : (g233 : Value) = .null)) (by decide) (by decide) ?_
              show own_S p e below T271 (mkF m 295 (own_AIIIIIIIIIRVN p0 p1 p2 p3 p4 v7 v12 v21 v29 b93 g233) []) _
              refine XS.iconst X271.here hx rfl (hb hby at_295) ?_
              show own_S p e below T271 (mkF m 296 (own_AIIIIIIIIIRVN p0 p1 p2 p3 p4 v7 v12 v21 v29 b93 g233) [(.int (1 : Int32))]) _
              refine XS.goto X271.here hx rfl (pc0 := 296) (pc' := 300) rfl (hb hby at_296) (by decide) (by decide) ?_
              exact k
            refine own_by sg300 ?_
            obtain ⟨fs, hr, hrun, hended, hW⟩ := X271.leaveW hS269 (by rw [hq271]; exact hk269) (v := some (.int (1 : Int32))) (fun h => by rw [Bd.returns] at h; cases h)
            refine ⟨_, _, ?_, hrun, hended, _, _, rfl, ?_, (by rw [hh]; show CHr Z consts_1 s.vm h0 T271.vm T271.heap; rw [hq271]; exact CR269.trans (CHv.at X271 hZ269 hEL hC269.1)), hW.1, hW.2.1, hW.2.2.1, hW.2.2.2.mono (by decide) (by decide)⟩
            · exact retN X271 hx (t := .boolean) Bd.returns (by simp) (hb hby at_300) hr
            · show Q0 Z p0 p1 p2 p3 p4 wV cl wAUTHORIZATION_CODE wCLIENT_CREDENTIALS sAUTHORIZATION_CODE sCLIENT_CREDENTIALS gz h0 n0 _ T271.heap _
              rw [hq271]
              exact ⟨rfl, N271⟩
          · have sg277 : ∀ t, own_S p e below T271 (mkF m 277 (own_AIIIIIIIIIRVU p0 p1 p2 p3 p4 v7 v12 v21 v29 b93 g233) []) t → own_S p e below T271 (mkF m 274 (own_AIIIIIIIIIRVU p0 p1 p2 p3 p4 v7 v12 v21 v29 b93 g233) [(.int c271)]) t := by
              intro t k
              show own_S p e below T271 (mkF m 274 (own_AIIIIIIIIIRVU p0 p1 p2 p3 p4 v7 v12 v21 v29 b93 g233) [(.int c271)]) _
              refine XS.ifNo X271.here hx rfl (hb hby at_274) rfl ((if0 _ _).trans (feq hc274).1) ?_
              exact k
            refine own_by sg277 ?_
            obtain ⟨T277, X277, e277, st277⟩ := getS2 X271 hx hZ269 hown269 (host := "") (Or.inl (hw _ (List.mem_of_getElem? (i := 73) rfl))) Via.refl hq271 (S_CLIENT_CREDENTIALS.ext ((((((O.ext E93).keep Kq99 all0).keep Kq102 (allS g_b93 all0)).keep Kq233 all0).ext E251).ext E269).2) (g := (mkF m 277 (own_AIIIIIIIIIRVU p0 p1 p2 p3 p4 v7 v12 v21 v29 b93 g233) [])) rfl (hb hby at_277)
            refine own_by st277 ?_
            have sg300 : ∀ t, own_S p e below T277 (mkF m 300 (own_AIIIIIIIIIRVR p0 p1 p2 p3 p4 v7 v12 v21 v29 b93 g233 wCLIENT_CREDENTIALS) [(.int (1 : Int32))]) t → own_S p e below T277 (mkF m 280 (own_AIIIIIIIIIRVU p0 p1 p2 p3 p4 v7 v12 v21 v29 b93 g233) [(.ref wCLIENT_CREDENTIALS)]) t := by
              intro t k
              show own_S p e below T277 (mkF m 280 (own_AIIIIIIIIIRVU p0 p1 p2 p3 p4 v7 v12 v21 v29 b93 g233) [(.ref wCLIENT_CREDENTIALS)]) _
              refine XS.astore X277.here hx rfl (hb hby at_280) rfl rfl (l' := (own_AIIIIIIIIIRVR p0 p1 p2 p3 p4 v7 v12 v21 v29 b93 g233 wCLIENT_CREDENTIALS)) rfl ?_
              show own_S p e below T277 (mkF m 282 (own_AIIIIIIIIIRVR p0 p1 p2 p3 p4 v7 v12 v21 v29 b93 g233 wCLIENT_CREDENTIALS) []) _
              refine XS.goto X277.here hx rfl (pc0 := 282) (pc' := 288) rfl (hb hby at_282) (by decide) (by decide) ?_
              show own_S p e below T277 (mkF m 288 (own_AIIIIIIIIIRVR p0 p1 p2 p3 p4 v7 v12 v21 v29 b93 g233 wCLIENT_CREDENTIALS) []) _
              refine XS.aload X277.here hx rfl (hb hby at_288) rfl hgr233 ?_
              show own_S p e below T277 (mkF m 290 (own_AIIIIIIIIIRVR p0 p1 p2 p3 p4 v7 v12 v21 v29 b93 g233 wCLIENT_CREDENTIALS) [g233]) _
              refine XS.aload X277.here hx rfl (hb hby at_290) rfl rfl ?_
              show own_S p e below T277 (mkF m 292 (own_AIIIIIIIIIRVR p0 p1 p2 p3 p4 v7 v12 v21 v29 b93 g233 wCLIENT_CREDENTIALS) [(.ref wCLIENT_CREDENTIALS), g233]) _
              refine Jvm.RoadKit.acmp (g := (mkF m 292 (own_AIIIIIIIIIRVR p0 p1 p2 p3 p4 v7 v12 v21 v29 b93 g233 wCLIENT_CREDENTIALS) [(.ref wCLIENT_CREDENTIALS), g233])) X277 hx rfl hgr233 rfl (pc0 := 292) (pc' := 295) (same := true) rfl (hb hby at_292) rfl (decide_eq_true (by rw [hg233, if_neg (fun q => own_if0 hc253 hc256 q.symm), if_pos (own_if1 hc271 hc274).symm] : (g233 : Value) = (.ref wCLIENT_CREDENTIALS))) (by decide) (by decide) ?_
              show own_S p e below T277 (mkF m 295 (own_AIIIIIIIIIRVR p0 p1 p2 p3 p4 v7 v12 v21 v29 b93 g233 wCLIENT_CREDENTIALS) []) _
              refine XS.iconst X277.here hx rfl (hb hby at_295) ?_
              show own_S p e below T277 (mkF m 296 (own_AIIIIIIIIIRVR p0 p1 p2 p3 p4 v7 v12 v21 v29 b93 g233 wCLIENT_CREDENTIALS) [(.int (1 : Int32))]) _
              refine XS.goto X277.here hx rfl (pc0 := 296) (pc' := 300) rfl (hb hby at_296) (by decide) (by decide) ?_
              exact k
            refine own_by sg300 ?_
            obtain ⟨fs, hr, hrun, hended, hW⟩ := X277.leaveW hS269 (by rw [e277]; exact hk269) (v := some (.int (1 : Int32))) (fun h => by rw [Bd.returns] at h; cases h)
            refine ⟨_, _, ?_, hrun, hended, _, _, rfl, ?_, (by rw [hh]; show CHr Z consts_1 s.vm h0 T277.vm T277.heap; rw [e277]; exact CR269.trans (CHv.at X277 hZ269 hEL hC269.1)), hW.1, hW.2.1, hW.2.2.1, hW.2.2.2.mono (by decide) (by decide)⟩
            · exact retN X277 hx (t := .boolean) Bd.returns (by simp) (hb hby at_300) hr
            · show Q0 Z p0 p1 p2 p3 p4 wV cl wAUTHORIZATION_CODE wCLIENT_CREDENTIALS sAUTHORIZATION_CODE sCLIENT_CREDENTIALS gz h0 n0 _ T277.heap _
              rw [e277]
              exact ⟨rfl, N271⟩
        · have sg259 : ∀ t, own_S p e below T253 (mkF m 259 (own_AIIIIIIIIIRVU p0 p1 p2 p3 p4 v7 v12 v21 v29 b93 g233) []) t → own_S p e below T253 (mkF m 256 (own_AIIIIIIIIIRVU p0 p1 p2 p3 p4 v7 v12 v21 v29 b93 g233) [(.int c253)]) t := by
            intro t k
            show own_S p e below T253 (mkF m 256 (own_AIIIIIIIIIRVU p0 p1 p2 p3 p4 v7 v12 v21 v29 b93 g233) [(.int c253)]) _
            refine XS.ifNo X253.here hx rfl (hb hby at_256) rfl ((if0 _ _).trans (feq hc256).1) ?_
            exact k
          refine own_by sg259 ?_
          obtain ⟨T259, X259, e259, st259⟩ := getS2 X253 hx hZ251 hown251 (host := "") (Or.inl (hw _ (List.mem_of_getElem? (i := 80) rfl))) Via.refl hq253 (S_AUTHORIZATION_CODE.ext (((((O.ext E93).keep Kq99 all0).keep Kq102 (allS g_b93 all0)).keep Kq233 all0).ext E251).2) (g := (mkF m 259 (own_AIIIIIIIIIRVU p0 p1 p2 p3 p4 v7 v12 v21 v29 b93 g233) [])) rfl (hb hby at_259)
          refine own_by st259 ?_
          have sg300 : ∀ t, own_S p e below T259 (mkF m 300 (own_AIIIIIIIIIRVR p0 p1 p2 p3 p4 v7 v12 v21 v29 b93 g233 wAUTHORIZATION_CODE) [(.int (1 : Int32))]) t → own_S p e below T259 (mkF m 262 (own_AIIIIIIIIIRVU p0 p1 p2 p3 p4 v7 v12 v21 v29 b93 g233) [(.ref wAUTHORIZATION_CODE)]) t := by
            intro t k
            show own_S p e below T259 (mkF m 262 (own_AIIIIIIIIIRVU p0 p1 p2 p3 p4 v7 v12 v21 v29 b93 g233) [(.ref wAUTHORIZATION_CODE)]) _
            refine XS.astore X259.here hx rfl (hb hby at_262) rfl rfl (l' := (own_AIIIIIIIIIRVR p0 p1 p2 p3 p4 v7 v12 v21 v29 b93 g233 wAUTHORIZATION_CODE)) rfl ?_
            show own_S p e below T259 (mkF m 264 (own_AIIIIIIIIIRVR p0 p1 p2 p3 p4 v7 v12 v21 v29 b93 g233 wAUTHORIZATION_CODE) []) _
            refine XS.goto X259.here hx rfl (pc0 := 264) (pc' := 288) rfl (hb hby at_264) (by decide) (by decide) ?_
            show own_S p e below T259 (mkF m 288 (own_AIIIIIIIIIRVR p0 p1 p2 p3 p4 v7 v12 v21 v29 b93 g233 wAUTHORIZATION_CODE) []) _
            refine XS.aload X259.here hx rfl (hb hby at_288) rfl hgr233 ?_
            show own_S p e below T259 (mkF m 290 (own_AIIIIIIIIIRVR p0 p1 p2 p3 p4 v7 v12 v21 v29 b93 g233 wAUTHORIZATION_CODE) [g233]) _
            refine XS.aload X259.here hx rfl (hb hby at_290) rfl rfl ?_
            show own_S p e below T259 (mkF m 292 (own_AIIIIIIIIIRVR p0 p1 p2 p3 p4 v7 v12 v21 v29 b93 g233 wAUTHORIZATION_CODE) [(.ref wAUTHORIZATION_CODE), g233]) _
            refine Jvm.RoadKit.acmp (g := (mkF m 292 (own_AIIIIIIIIIRVR p0 p1 p2 p3 p4 v7 v12 v21 v29 b93 g233 wAUTHORIZATION_CODE) [(.ref wAUTHORIZATION_CODE), g233])) X259 hx rfl hgr233 rfl (pc0 := 292) (pc' := 295) (same := true) rfl (hb hby at_292) rfl (decide_eq_true (by rw [hg233, if_pos (own_if1 hc253 hc256).symm] : (g233 : Value) = (.ref wAUTHORIZATION_CODE))) (by decide) (by decide) ?_
            show own_S p e below T259 (mkF m 295 (own_AIIIIIIIIIRVR p0 p1 p2 p3 p4 v7 v12 v21 v29 b93 g233 wAUTHORIZATION_CODE) []) _
            refine XS.iconst X259.here hx rfl (hb hby at_295) ?_
            show own_S p e below T259 (mkF m 296 (own_AIIIIIIIIIRVR p0 p1 p2 p3 p4 v7 v12 v21 v29 b93 g233 wAUTHORIZATION_CODE) [(.int (1 : Int32))]) _
            refine XS.goto X259.here hx rfl (pc0 := 296) (pc' := 300) rfl (hb hby at_296) (by decide) (by decide) ?_
            exact k
          refine own_by sg300 ?_
          obtain ⟨fs, hr, hrun, hended, hW⟩ := X259.leaveW hS251 (by rw [e259]; exact hk251) (v := some (.int (1 : Int32))) (fun h => by rw [Bd.returns] at h; cases h)
          refine ⟨_, _, ?_, hrun, hended, _, _, rfl, ?_, (by rw [hh]; show CHr Z consts_1 s.vm h0 T259.vm T259.heap; rw [e259]; exact CR251.trans (CHv.at X259 hZ251 hEL hC251.1)), hW.1, hW.2.1, hW.2.2.1, hW.2.2.2.mono (by decide) (by decide)⟩
          · exact retN X259 hx (t := .boolean) Bd.returns (by simp) (hb hby at_300) hr
          · show Q0 Z p0 p1 p2 p3 p4 wV cl wAUTHORIZATION_CODE wCLIENT_CREDENTIALS sAUTHORIZATION_CODE sCLIENT_CREDENTIALS gz h0 n0 _ T259.heap _
            rw [e259]
            exact ⟨rfl, N253⟩
      · have sg113 : ∀ t, own_S p e below s₁ (mkF m 113 (own_AIIIIIIIIIUUU p0 p1 p2 p3 p4 v7 v12 v21 v29) [(.int (3 : Int32)), (.int v7)]) t → own_S p e below s₁ (mkF m 90 (own_AIIIIIIIIIUUU p0 p1 p2 p3 p4 v7 v12 v21 v29) [(.int (2 : Int32)), (.int v7)]) t := by
          intro t k
          show own_S p e below s₁ (mkF m 90 (own_AIIIIIIIIIUUU p0 p1 p2 p3 p4 v7 v12 v21 v29) [(.int (2 : Int32)), (.int v7)]) _
          refine XS.icmpYes X0.here hx rfl (pc0 := 90) (pc' := 110) rfl (hb hby at_90) rfl (feq hc90).2 (by decide) (by decide) ?_
          show own_S p e below s₁ (mkF m 110 (own_AIIIIIIIIIUUU p0 p1 p2 p3 p4 v7 v12 v21 v29) []) _
          refine XS.iload X0.here hx rfl (hb hby at_110) rfl ?_
          show own_S p e below s₁ (mkF m 112 (own_AIIIIIIIIIUUU p0 p1 p2 p3 p4 v7 v12 v21 v29) [(.int v7)]) _
          refine XS.iconst X0.here hx rfl (hb hby at_112) ?_
          exact k
        refine own_by sg113 ?_
        by_cases hc113 : v7 = (3 : Int32)
        · have sg116 : ∀ t, own_S p e below s₁ (mkF m 116 (own_AIIIIIIIIIUUU p0 p1 p2 p3 p4 v7 v12 v21 v29) []) t → own_S p e below s₁ (mkF m 113 (own_AIIIIIIIIIUUU p0 p1 p2 p3 p4 v7 v12 v21 v29) [(.int (3 : Int32)), (.int v7)]) t := by
            intro t k
            show own_S p e below s₁ (mkF m 113 (own_AIIIIIIIIIUUU p0 p1 p2 p3 p4 v7 v12 v21 v29) [(.int (3 : Int32)), (.int v7)]) _
            refine XS.icmpNo X0.here hx rfl (hb hby at_113) rfl (teq hc113).2 ?_
            exact k
          refine own_by sg116 ?_
          obtain ⟨T116, h116, X116, e116, E116, A116, D116, -, st116⟩ := newO X0 hx hZ hown (hw _ (List.mem_of_getElem? (i := 1) rfl)) (hw _ (List.mem_of_getElem? (i := 2) rfl)) (hw _ (List.mem_of_getElem? (i := 3) rfl)) e0 (g := (mkF m 116 (own_AIIIIIIIIIUUU p0 p1 p2 p3 p4 v7 v12 v21 v29) [])) rfl (hb hby at_116) (by decide) (by decide)
          obtain ⟨b116, g116⟩ : ∃ z, z = h0.size := ⟨_, rfl⟩
          rw [← g116] at A116 D116 st116
          have g_b116 : n0 ≤ b116 := Nat.le_trans Z0 (Nat.le_of_eq g116.symm)
          have sz_b116 : h0.size ≤ b116 := Nat.le_trans K0.1 (Nat.le_of_eq g116.symm)
          have K116 := K0.ext E116
          have Z116 : n0 ≤ h116.size := Nat.le_trans Z0 E116.1
          have CC116 := CHr.ext E116 hH0
          have CR116 := (CHr.refl hH0).trans CC116
          have F_coder_b116 : Fld Z h116 b116 "java/lang/String" "coder" "B" (.int (0 : Int32)) := D116 (Or.inr (hw _ (List.mem_of_getElem? (i := 32) rfl))) (ty := .byte) (by decide)
          have F_value_b116 : Fld Z h116 b116 "java/lang/String" "value" "[B" .null := D116 (Or.inr (hw _ (List.mem_of_getElem? (i := 34) rfl))) (ty := (.array .byte)) (by decide)
          refine own_by st116 ?_
          have sg124 : ∀ t, own_S p e below T116 (mkF m 124 (own_AIIIIIIIIIUUU p0 p1 p2 p3 p4 v7 v12 v21 v29) [(.int v29), (.int v12), (.ref b116), (.ref b116)]) t → own_S p e below T116 (mkF m 119 (own_AIIIIIIIIIUUU p0 p1 p2 p3 p4 v7 v12 v21 v29) [(.ref b116)]) t := by
            intro t k
            show own_S p e below T116 (mkF m 119 (own_AIIIIIIIIIUUU p0 p1 p2 p3 p4 v7 v12 v21 v29) [(.ref b116)]) _
            refine XS.dup X116.here hx rfl (hb hby at_119) rfl rfl ?_
            show own_S p e below T116 (mkF m 120 (own_AIIIIIIIIIUUU p0 p1 p2 p3 p4 v7 v12 v21 v29) [(.ref b116), (.ref b116)]) _
            refine XS.iload X116.here hx rfl (hb hby at_120) rfl ?_
            show own_S p e below T116 (mkF m 122 (own_AIIIIIIIIIUUU p0 p1 p2 p3 p4 v7 v12 v21 v29) [(.int v12), (.ref b116), (.ref b116)]) _
            refine XS.iload X116.here hx rfl (hb hby at_122) rfl ?_
            exact k
          refine own_by sg124 ?_
          obtain ⟨_, _, ⟨T124, L124, k124, n124⟩, -, X124, ⟨Lc124, hQ124, l124, y124, z124⟩, st124⟩ := Jvm.LawKit.callS X116 hx (y := (⟨"com/example/writd/writd/model/GrantTypeFromValuePinLaw", "name19", "(IC)[C"⟩ : MethodName)) hown (mvT hZ (hw _ (List.mem_of_getElem? (i := 74) rfl))) (mvT hZ (hw _ (List.mem_of_getElem? (i := 75) rfl))) (mvT hZ (hw _ (List.mem_of_getElem? (i := 6) rfl))) (mvT hZ (hw _ (List.mem_of_getElem? (i := 76) rfl))) (by decide) (backOf (W := 2) (rm12 l Z a0 hw [] v12 v29 h116 n0 Z116 hk_v29) hZ (hw _ (List.mem_of_getElem? (i := 76) rfl)) (hw _ (List.mem_of_getElem? (i := 6) rfl)) (by decide) (by decide)) (g := (mkF m 124 (own_AIIIIIIIIIUUU p0 p1 p2 p3 p4 v7 v12 v21 v29) [(.int v29), (.int v12), (.ref b116), (.ref b116)])) rfl (by rw [hml]; rfl) (argsL := [(.int v12), (.int v29)]) (rest := [(.ref b116), (.ref b116)]) (lenOf pd_0_4 rfl) rfl (by show 2 * 0 + _ ≤ _; exact Nat.le_of_eq rfl) (hb hby at_124) (fun _ _ => ⟨rfl, e116, (by decide : 1 + 1 ≤ _), (by decide : 4 + 19 ≤ _)⟩)
          dsimp only [Pt.U, Pt.locs, Pt.cells, Pt.slots] at X124 l124 y124 z124 st124 hQ124
          subst l124 y124 z124
          obtain ⟨r124, kc124, rfl, ge124, N124q, Kq124, Aq124⟩ := hQ124
          have N124 := Fr.app N0 N124q
          have ln124 : (own_n19 v12 v29).length = 19 := own_n19_len _ _
          rw [ln124] at Aq124
          have An124 : Arv Z T124.heap r124 kc124 .char (19 : Int32) ((own_n19 v12 v29).map Value.int) (.int (0 : Int32)) := Aq124
          have hp124 : ∀ c ∈ (own_n19 v12 v29), ¬ c < 0 ∧ ¬ (255 : Int32) < c := own_n19_hp _ _ hk_v29
          have ne_b116_r124 : b116 ≠ r124 := Nat.ne_of_lt (Nat.lt_of_lt_of_le A116.lt ge124)
          have g_r124 : n0 ≤ r124 := Nat.le_trans Z116 ge124
          have sz_r124 : h0.size ≤ r124 := Nat.le_trans K116.1 ge124
          have K124 : Keep h0 T124.heap [] := K116.trans Kq124 (fun x hx => nomatch hx)
          have Z124 : n0 ≤ T124.heap.size := Nat.le_trans Z116 Kq124.1
          have CC124 := CHr.keep Kq124 sf0 CC116.1
          have CR124 := CR116.trans CC124
          refine own_by st124 ?_
          obtain ⟨_, _, ⟨T127, L127, k127, n127⟩, -, X127, ⟨Lc127, hQ127, l127, y127, z127⟩, st127⟩ := X124.specialBack hx (y := (⟨"java/lang/String", "<init>", "([C)V"⟩ : MethodName)) rfl hown (mvT hZ (hw _ (List.mem_of_getElem? (i := 9) rfl))) (mvT hZ (hw _ (List.mem_of_getElem? (i := 10) rfl))) (mvT hZ (hw _ (List.mem_of_getElem? (i := 11) rfl))) (by decide) (StrChars.Road.backV (W := 1) hZ hws (kI := 4) (hw _ (List.mem_of_getElem? (i := 2) rfl)) (cs := (own_n19 v12 v29)) (bs := (own_n19 v12 v29).map (fun c => c.toInt8.toInt32)) (n := 19) g_b116 Z124 (A116.keep Kq124) (F_value_b116.keep Kq124 List.not_mem_nil) (F_coder_b116.keep Kq124 List.not_mem_nil) An124 (O2.ext ((O.ext E116).keep Kq124 all0).2) P5 ln124 rfl (by decide) (by decide) hp124 rfl (by decide) (by decide)) (g := (mkF m 127 (own_AIIIIIIIIIUUU p0 p1 p2 p3 p4 v7 v12 v21 v29) [(.ref r124), (.ref b116), (.ref b116)])) rfl (by rw [hml]; rfl) (Steps.refl _) (a := b116) (argsL := [(.ref r124)]) (rest := [(.ref b116)]) (lenOf pd_0_1 rfl) rfl (by show 2 * 0 + _ ≤ _; exact Nat.le_of_eq rfl) (hb hby at_127) (fun _ _ => ⟨rfl, rfl, (by decide : 2 + 1 ≤ _), (by decide : 23 + 19 ≤ _)⟩)
          dsimp only [Pt.U, Pt.locs, Pt.cells, Pt.slots] at X127 l127 y127 z127 st127 hQ127
          subst l127 y127 z127
          obtain ⟨rfl, N127q, Kq127, Eq127, Cq127, t127, kb127, u1127, u2127, u3127, Vq127, Aq127⟩ := hQ127
          have N127 := Fr.app N124 N127q
          have Sq127 : own_Str Z T127.heap b116 (own_n19 v12 v29) := ⟨t127, kb127, 0, _, _, Eq127, Vq127, Cq127, Aq127, StrChars.Road.codOf (n := 19) ln124 (fun x hx => (hp124 x hx).2), own_up _ hp124, by rw [ln124]; decide⟩
          have fc := (An124.keep Kq127 (fun h => (Ne.symm ne_b116_r124) (List.mem_singleton.mp h)))
          have K127 : Keep h0 T127.heap [] := K124.trans Kq127 (fun x hx => by cases List.mem_singleton.mp hx; exact Or.inr sz_b116)
          have Z127 : n0 ≤ T127.heap.size := Nat.le_trans Z124 Kq127.1
          have CC127 := CHr.keep Kq127 (sfS (own_safe0 hZ.alike (A116.keep Kq124) (F_value_b116.keep Kq124 List.not_mem_nil) (hw _ (List.mem_of_getElem? (i := 2) rfl))) sf0) CC124.1
          have CR127 := CR124.trans CC127
          refine own_by (fun t k => st127.trans k) ?_
          have sg233 : ∀ t, own_S p e below T127 (mkF m 233 (own_AIIIIIIIIIRUU p0 p1 p2 p3 p4 v7 v12 v21 v29 b116) [(.ref b116)]) t → own_S p e below T127 (mkF m 130 (own_AIIIIIIIIIUUU p0 p1 p2 p3 p4 v7 v12 v21 v29) [(.ref b116)]) t := by
            intro t k
            show own_S p e below T127 (mkF m 130 (own_AIIIIIIIIIUUU p0 p1 p2 p3 p4 v7 v12 v21 v29) [(.ref b116)]) _
            refine XS.astore X127.here hx rfl (hb hby at_130) rfl rfl (l' := (own_AIIIIIIIIIRUU p0 p1 p2 p3 p4 v7 v12 v21 v29 b116)) rfl ?_
            show own_S p e below T127 (mkF m 132 (own_AIIIIIIIIIRUU p0 p1 p2 p3 p4 v7 v12 v21 v29 b116) []) _
            refine XS.goto X127.here hx rfl (pc0 := 132) (pc' := 231) rfl (hb hby at_132) (by decide) (by decide) ?_
            show own_S p e below T127 (mkF m 231 (own_AIIIIIIIIIRUU p0 p1 p2 p3 p4 v7 v12 v21 v29 b116) []) _
            refine XS.aload X127.here hx rfl (hb hby at_231) rfl rfl ?_
            exact k
          refine own_by sg233 ?_
          obtain ⟨_, _, ⟨T233, L233, k233, n233⟩, -, X233, ⟨Lc233, hQ233, l233, y233, z233⟩, st233⟩ := Jvm.LawKit.callS X127 hx (y := (⟨"com/example/writd/writd/model/GrantType", "fromValue", "(Ljava/lang/String;)Lcom/example/writd/writd/model/GrantType;"⟩ : MethodName)) hown (mvT hZ (hw _ (List.mem_of_getElem? (i := 35) rfl))) (mvT hZ (hw _ (List.mem_of_getElem? (i := 36) rfl))) (mvT hZ (hw _ (List.mem_of_getElem? (i := 37) rfl))) (mvT hZ (hw _ (List.mem_of_getElem? (i := 38) rfl))) (by decide) (backOf (W := 0) (rm8 l Z a0 hw [] b116 (own_n19 v12 v29) wV cl wAUTHORIZATION_CODE wCLIENT_CREDENTIALS sAUTHORIZATION_CODE sCLIENT_CREDENTIALS gz T127.heap n0 Z127 (((O.ext E116).keep Kq124 all0).keep Kq127 (allS g_b116 all0)) O2 P5 S_V Ar_V E_V FC hsz hat0 hat1 FV_AUTHORIZATION_CODE FV_CLIENT_CREDENTIALS EX_AUTHORIZATION_CODE EX_CLIENT_CREDENTIALS Str_AUTHORIZATION_CODE Str_CLIENT_CREDENTIALS Sq127) hZ (hw _ (List.mem_of_getElem? (i := 38) rfl)) (hw _ (List.mem_of_getElem? (i := 37) rfl)) (by decide) (by decide)) (g := (mkF m 233 (own_AIIIIIIIIIRUU p0 p1 p2 p3 p4 v7 v12 v21 v29 b116) [(.ref b116)])) rfl (by rw [hml]; rfl) (argsL := [(.ref b116)]) (rest := []) (lenOf pd_0_2 rfl) rfl (by show 2 * 0 + _ ≤ _; exact Nat.le_of_eq rfl) (hb hby at_233) (fun _ _ => ⟨rfl, rfl, (by decide : 3 + 1 ≤ _), (by decide : 42 + 2 ≤ _)⟩)
          dsimp only [Pt.U, Pt.locs, Pt.cells, Pt.slots] at X233 l233 y233 z233 st233 hQ233
          subst l233 y233 z233
          obtain ⟨rfl, N233q, Kq233⟩ := hQ233
          have N233 := Fr.app N127 N233q
          have K233 : Keep h0 T233.heap [] := K127.trans Kq233 (fun x hx => nomatch hx)
          have Z233 : n0 ≤ T233.heap.size := Nat.le_trans Z127 Kq233.1
          have CC233 := CHr.keep Kq233 sf0 CC127.1
          have CR233 := CR127.trans CC233
          obtain ⟨g233, hg233⟩ : ∃ z : Value, z = (if ([(97 : Int32), (117 : Int32), (116 : Int32), (104 : Int32), (111 : Int32), (114 : Int32), (105 : Int32), (122 : Int32), (97 : Int32), (116 : Int32), (105 : Int32), (111 : Int32), (110 : Int32), (95 : Int32), (99 : Int32), (111 : Int32), (100 : Int32), (101 : Int32)] : List Int32) = (own_n19 v12 v29) then Value.ref wAUTHORIZATION_CODE else (if ([(99 : Int32), (108 : Int32), (105 : Int32), (101 : Int32), (110 : Int32), (116 : Int32), (95 : Int32), (99 : Int32), (114 : Int32), (101 : Int32), (100 : Int32), (101 : Int32), (110 : Int32), (116 : Int32), (105 : Int32), (97 : Int32), (108 : Int32), (115 : Int32)] : List Int32) = (own_n19 v12 v29) then Value.ref wCLIENT_CREDENTIALS else Value.null)) := ⟨_, rfl⟩
          rw [← hg233] at st233
          have hgr233 : g233.isRef = true := by rw [hg233]; repeat' (first | rfl | (refine own_isr rfl ?_))
          refine own_by st233 ?_
          have sg251 : ∀ t, own_S p e below T233 (mkF m 251 (own_AIIIIIIIIIRVU p0 p1 p2 p3 p4 v7 v12 v21 v29 b116 g233) [(.ref b116)]) t → own_S p e below T233 (mkF m 236 (own_AIIIIIIIIIRUU p0 p1 p2 p3 p4 v7 v12 v21 v29 b116) [g233]) t := by
            intro t k
            show own_S p e below T233 (mkF m 236 (own_AIIIIIIIIIRUU p0 p1 p2 p3 p4 v7 v12 v21 v29 b116) [g233]) _
            refine XS.astore X233.here hx rfl (hb hby at_236) rfl hgr233 (l' := (own_AIIIIIIIIIRVU p0 p1 p2 p3 p4 v7 v12 v21 v29 b116 g233)) (by simp [storeLocals, storeSelf, setAt, own_cat1 hgr233, own_catr, own_catn]) ?_
            show own_S p e below T233 (mkF m 238 (own_AIIIIIIIIIRVU p0 p1 p2 p3 p4 v7 v12 v21 v29 b116 g233) []) _
            refine XS.aload X233.here hx rfl (hb hby at_238) rfl rfl ?_
            show own_S p e below T233 (mkF m 240 (own_AIIIIIIIIIRVU p0 p1 p2 p3 p4 v7 v12 v21 v29 b116 g233) [(.ref b116)]) _
            refine XS.ifnonnullYes X233.here hx rfl (pc0 := 240) (pc' := 249) rfl (hb hby at_240) rfl (by decide) (by decide) ?_
            show own_S p e below T233 (mkF m 249 (own_AIIIIIIIIIRVU p0 p1 p2 p3 p4 v7 v12 v21 v29 b116 g233) []) _
            refine XS.aload X233.here hx rfl (hb hby at_249) rfl rfl ?_
            exact k
          refine own_by sg251 ?_
          obtain ⟨l251a, T251, h251, ks251, lb251, lk251, X251, e251, E251, hS251, hk251, hZ251, hown251, lE251, lC251, lV251, lA251, la1251, la2251, hC251, -, hsf251, st251⟩ := ldcCH X233 hx hZ hown (hw _ (List.mem_of_getElem? (i := 68) rfl)) wS rfl hS0 (Nat.le_trans (Nat.le_trans (Nat.le_trans (Nat.le_trans (Nat.zero_le _) E116.1) Kq124.1) Kq127.1) Kq233.1) hEL (by decide) CC233.1 (vs := [(.int (97 : Int32)), (.int (117 : Int32)), (.int (116 : Int32)), (.int (104 : Int32)), (.int (111 : Int32)), (.int (114 : Int32)), (.int (105 : Int32)), (.int (122 : Int32)), (.int (97 : Int32)), (.int (116 : Int32)), (.int (105 : Int32)), (.int (111 : Int32)), (.int (110 : Int32)), (.int (95 : Int32)), (.int (99 : Int32)), (.int (111 : Int32)), (.int (100 : Int32)), (.int (101 : Int32))]) (z := (18 : Int32)) ⟨by decide, by decide⟩ (by decide) (by decide) (g := (mkF m 251 (own_AIIIIIIIIIRVU p0 p1 p2 p3 p4 v7 v12 v21 v29 b116 g233) [(.ref b116)])) rfl (hb hby at_251) (n := 72) (by decide) (by decide) (by decide) (by decide)
          have K251 := K233.ext E251
          have Z251 : n0 ≤ h251.size := Nat.le_trans Z233 E251.1
          have CR251 := CR233.trans hC251
          refine own_by st251 ?_
          obtain ⟨tx253, kx253, dx253, nx253, vx253, xe253, xv253, xc253, xk253, xh253, xb253, xl253⟩ := id ((Sq127.ext (own_kx Kq233)).ext E251)
          obtain ⟨ty253, ky253, dy253, ny253, vy253, ye253, yv253, yc253, yk253, yh253, yb253, yl253⟩ := id (⟨lb251, lk251, 0, (18 : Int32), _, lE251, lV251, lC251, lA251, Or.inl ⟨rfl, rfl, rfl, by decide⟩, by decide, by decide⟩ : own_Str Z h251 l251a ([(97 : Int32), (117 : Int32), (116 : Int32), (104 : Int32), (111 : Int32), (114 : Int32), (105 : Int32), (122 : Int32), (97 : Int32), (116 : Int32), (105 : Int32), (111 : Int32), (110 : Int32), (95 : Int32), (99 : Int32), (111 : Int32), (100 : Int32), (101 : Int32)] : List Int32))
          obtain ⟨cq253, kq253, q253a, q253b, q253c⟩ := isOf hZ251 e251 ((Eq127.keep Kq233).ext E251)
          obtain ⟨_, _, ⟨T253, L253, k253, n253⟩, -, X253, ⟨Lc253, hQ253, l253, y253, z253⟩, st253⟩ := X251.virtualBack hx (y := (⟨"java/lang/String", "equals", "(Ljava/lang/Object;)Z"⟩ : MethodName)) (z := (⟨"java/lang/String", "equals", "(Ljava/lang/Object;)Z"⟩ : MethodName)) hown251 (mvT hZ251 (hw _ (List.mem_of_getElem? (i := 71) rfl))) (mvT hZ251 (hw _ (List.mem_of_getElem? (i := 59) rfl))) (notFace_of_selects (args := #[]) (mvT hZ251 (hw _ (List.mem_of_getElem? (i := 61) rfl)))) (mvT hZ251 (hw _ (List.mem_of_getElem? (i := 61) rfl))) (mvT hZ251 (hw _ (List.mem_of_getElem? (i := 60) rfl))) (by decide) (StrChars.Road.eqW (W := 0) hZ251 heq (kI := 4) (hw _ (List.mem_of_getElem? (i := 2) rfl)) xe253 xv253 xc253 xk253 xh253 xb253 xl253 ye253 yv253 yc253 yk253 yh253 yb253 yl253 (O2.ext (((((O.ext E116).keep Kq124 all0).keep Kq127 (allS g_b116 all0)).keep Kq233 all0).ext E251).2) P5 (by decide) (by decide)) q253a q253c (g := (mkF m 253 (own_AIIIIIIIIIRVU p0 p1 p2 p3 p4 v7 v12 v21 v29 b116 g233) [(.ref l251a), (.ref b116)])) rfl (by rw [hml]; rfl) (Steps.refl _) (argsL := [(.ref l251a)]) (rest := []) (lenOf pd_0_3 rfl) rfl (by show 2 * 0 + _ ≤ _; exact Nat.le_of_eq rfl) (hb hby at_253) (fun _ _ => ⟨rfl, e251, (by decide : 6 + 0 ≤ _), (by decide : 120 + 0 ≤ _)⟩)
          dsimp only [Pt.U, Pt.locs, Pt.cells, Pt.slots] at X253 l253 y253 z253 st253 hQ253
          subst l253 y253 z253
          obtain ⟨hv253, rfl, hq253⟩ := hQ253
          obtain rfl := own_eqv hv253
          have N253 := Fr.app N233 (Fr.nil n0)
          obtain ⟨c253, hc253⟩ : ∃ z : Int32, z = (if (own_n19 v12 v29) = ([(97 : Int32), (117 : Int32), (116 : Int32), (104 : Int32), (111 : Int32), (114 : Int32), (105 : Int32), (122 : Int32), (97 : Int32), (116 : Int32), (105 : Int32), (111 : Int32), (110 : Int32), (95 : Int32), (99 : Int32), (111 : Int32), (100 : Int32), (101 : Int32)] : List Int32) then (1 : Int32) else (0 : Int32)) := ⟨_, rfl⟩
          rw [← hc253] at st253
          refine own_by (fun t k => st253.trans k) ?_
          by_cases hc256 : c253 = (0 : Int32)
          · have sg269 : ∀ t, own_S p e below T253 (mkF m 269 (own_AIIIIIIIIIRVU p0 p1 p2 p3 p4 v7 v12 v21 v29 b116 g233) [(.ref b116)]) t → own_S p e below T253 (mkF m 256 (own_AIIIIIIIIIRVU p0 p1 p2 p3 p4 v7 v12 v21 v29 b116 g233) [(.int c253)]) t := by
              intro t k
              show own_S p e below T253 (mkF m 256 (own_AIIIIIIIIIRVU p0 p1 p2 p3 p4 v7 v12 v21 v29 b116 g233) [(.int c253)]) _
              refine XS.ifYes X253.here hx rfl (pc0 := 256) (pc' := 267) rfl (hb hby at_256) rfl ((if0 _ _).trans (teq hc256).1) (by decide) (by decide) ?_
              show own_S p e below T253 (mkF m 267 (own_AIIIIIIIIIRVU p0 p1 p2 p3 p4 v7 v12 v21 v29 b116 g233) []) _
              refine XS.aload X253.here hx rfl (hb hby at_267) rfl rfl ?_
              exact k
            refine own_by sg269 ?_
            obtain ⟨l269a, T269, h269, ks269, lb269, lk269, X269, e269, E269, hS269, hk269, hZ269, hown269, lE269, lC269, lV269, lA269, la1269, la2269, hC269, -, hsf269, st269⟩ := ldcCH X253 hx hZ251 hown251 (hw _ (List.mem_of_getElem? (i := 72) rfl)) wS hq253 hS251 hk251 hEL (by decide) hC251.1 (vs := [(.int (99 : Int32)), (.int (108 : Int32)), (.int (105 : Int32)), (.int (101 : Int32)), (.int (110 : Int32)), (.int (116 : Int32)), (.int (95 : Int32)), (.int (99 : Int32)), (.int (114 : Int32)), (.int (101 : Int32)), (.int (100 : Int32)), (.int (101 : Int32)), (.int (110 : Int32)), (.int (116 : Int32)), (.int (105 : Int32)), (.int (97 : Int32)), (.int (108 : Int32)), (.int (115 : Int32))]) (z := (18 : Int32)) ⟨by decide, by decide⟩ (by decide) (by decide) (g := (mkF m 269 (own_AIIIIIIIIIRVU p0 p1 p2 p3 p4 v7 v12 v21 v29 b116 g233) [(.ref b116)])) rfl (hb hby at_269) (n := 72) (by decide) (by decide) (by decide) (by decide)
            have K269 := K251.ext E269
            have Z269 : n0 ≤ h269.size := Nat.le_trans Z251 E269.1
            have CR269 := CR251.trans hC269
            refine own_by st269 ?_
            obtain ⟨tx271, kx271, dx271, nx271, vx271, xe271, xv271, xc271, xk271, xh271, xb271, xl271⟩ := id (((Sq127.ext (own_kx Kq233)).ext E251).ext E269)
            obtain ⟨ty271, ky271, dy271, ny271, vy271, ye271, yv271, yc271, yk271, yh271, yb271, yl271⟩ := id (⟨lb269, lk269, 0, (18 : Int32), _, lE269, lV269, lC269, lA269, Or.inl ⟨rfl, rfl, rfl, by decide⟩, by decide, by decide⟩ : own_Str Z h269 l269a ([(99 : Int32), (108 : Int32), (105 : Int32), (101 : Int32), (110 : Int32), (116 : Int32), (95 : Int32), (99 : Int32), (114 : Int32), (101 : Int32), (100 : Int32), (101 : Int32), (110 : Int32), (116 : Int32), (105 : Int32), (97 : Int32), (108 : Int32), (115 : Int32)] : List Int32))
            obtain ⟨cq271, kq271, q271a, q271b, q271c⟩ := isOf hZ269 e269 (((Eq127.keep Kq233).ext E251).ext E269)
            obtain ⟨_, _, ⟨T271, L271, k271, n271⟩, -, X271, ⟨Lc271, hQ271, l271, y271, z271⟩, st271⟩ := X269.virtualBack hx (y := (⟨"java/lang/String", "equals", "(Ljava/lang/Object;)Z"⟩ : MethodName)) (z := (⟨"java/lang/String", "equals", "(Ljava/lang/Object;)Z"⟩ : MethodName)) hown269 (mvT hZ269 (hw _ (List.mem_of_getElem? (i := 71) rfl))) (mvT hZ269 (hw _ (List.mem_of_getElem? (i := 59) rfl))) (notFace_of_selects (args := #[]) (mvT hZ269 (hw _ (List.mem_of_getElem? (i := 61) rfl)))) (mvT hZ269 (hw _ (List.mem_of_getElem? (i := 61) rfl))) (mvT hZ269 (hw _ (List.mem_of_getElem? (i := 60) rfl))) (by decide) (StrChars.Road.eqW (W := 0) hZ269 heq (kI := 4) (hw _ (List.mem_of_getElem? (i := 2) rfl)) xe271 xv271 xc271 xk271 xh271 xb271 xl271 ye271 yv271 yc271 yk271 yh271 yb271 yl271 (O2.ext ((((((O.ext E116).keep Kq124 all0).keep Kq127 (allS g_b116 all0)).keep Kq233 all0).ext E251).ext E269).2) P5 (by decide) (by decide)) q271a q271c (g := (mkF m 271 (own_AIIIIIIIIIRVU p0 p1 p2 p3 p4 v7 v12 v21 v29 b116 g233) [(.ref l269a), (.ref b116)])) rfl (by rw [hml]; rfl) (Steps.refl _) (argsL := [(.ref l269a)]) (rest := []) (lenOf pd_0_3 rfl) rfl (by show 2 * 0 + _ ≤ _; exact Nat.le_of_eq rfl) (hb hby at_271) (fun _ _ => ⟨rfl, e269, (by decide : 8 + 0 ≤ _), (by decide : 196 + 0 ≤ _)⟩)
            dsimp only [Pt.U, Pt.locs, Pt.cells, Pt.slots] at X271 l271 y271 z271 st271 hQ271
            subst l271 y271 z271
            obtain ⟨hv271, rfl, hq271⟩ := hQ271
            obtain rfl := own_eqv hv271
            have N271 := Fr.app N253 (Fr.nil n0)
            obtain ⟨c271, hc271⟩ : ∃ z : Int32, z = (if (own_n19 v12 v29) = ([(99 : Int32), (108 : Int32), (105 : Int32), (101 : Int32), (110 : Int32), (116 : Int32), (95 : Int32), (99 : Int32), (114 : Int32), (101 : Int32), (100 : Int32), (101 : Int32), (110 : Int32), (116 : Int32), (105 : Int32), (97 : Int32), (108 : Int32), (115 : Int32)] : List Int32) then (1 : Int32) else (0 : Int32)) := ⟨_, rfl⟩
            rw [← hc271] at st271
            refine own_by (fun t k => st271.trans k) ?_
            by_cases hc274 : c271 = (0 : Int32)
            · have sg300 : ∀ t, own_S p e below T271 (mkF m 300 (own_AIIIIIIIIIRVN p0 p1 p2 p3 p4 v7 v12 v21 v29 b116 g233) [(.int (1 : Int32))]) t → own_S p e below T271 (mkF m 274 (own_AIIIIIIIIIRVU p0 p1 p2 p3 p4 v7 v12 v21 v29 b116 g233) [(.int c271)]) t := by
                intro t k
                show own_S p e below T271 (mkF m 274 (own_AIIIIIIIIIRVU p0 p1 p2 p3 p4 v7 v12 v21 v29 b116 g233) [(.int c271)]) _
                refine XS.ifYes X271.here hx rfl (pc0 := 274) (pc' := 285) rfl (hb hby at_274) rfl ((if0 _ _).trans (teq hc274).1) (by decide) (by decide) ?_
                show own_S p e below T271 (mkF m 285 (own_AIIIIIIIIIRVU p0 p1 p2 p3 p4 v7 v12 v21 v29 b116 g233) []) _
                refine XS.aconstNull X271.here hx rfl (hb hby at_285) ?_
                show own_S p e below T271 (mkF m 286 (own_AIIIIIIIIIRVU p0 p1 p2 p3 p4 v7 v12 v21 v29 b116 g233) [.null]) _
                refine XS.astore X271.here hx rfl (hb hby at_286) rfl rfl (l' := (own_AIIIIIIIIIRVN p0 p1 p2 p3 p4 v7 v12 v21 v29 b116 g233)) rfl ?_
                show own_S p e below T271 (mkF m 288 (own_AIIIIIIIIIRVN p0 p1 p2 p3 p4 v7 v12 v21 v29 b116 g233) []) _
                refine XS.aload X271.here hx rfl (hb hby at_288) rfl hgr233 ?_
                show own_S p e below T271 (mkF m 290 (own_AIIIIIIIIIRVN p0 p1 p2 p3 p4 v7 v12 v21 v29 b116 g233) [g233]) _
                refine XS.aload X271.here hx rfl (hb hby at_290) rfl rfl ?_
                show own_S p e below T271 (mkF m 292 (own_AIIIIIIIIIRVN p0 p1 p2 p3 p4 v7 v12 v21 v29 b116 g233) [.null, g233]) _
                refine Jvm.RoadKit.acmp (g := (mkF m 292 (own_AIIIIIIIIIRVN p0 p1 p2 p3 p4 v7 v12 v21 v29 b116 g233) [.null, g233])) X271 hx rfl hgr233 rfl (pc0 := 292) (pc' := 295) (same := true) rfl (hb hby at_292) rfl (decide_eq_true (by rw [hg233, if_neg (fun q => own_if0 hc253 hc256 q.symm), if_neg (fun q => own_if0 hc271 hc274 q.symm)] : (g233 : Value) = .null)) (by decide) (by decide) ?_
                show own_S p e below T271 (mkF m 295 (own_AIIIIIIIIIRVN p0 p1 p2 p3 p4 v7 v12 v21 v29 b116 g233) []) _
                refine XS.iconst X271.here hx rfl (hb hby at_295) ?_
                show own_S p e below T271 (mkF m 296 (own_AIIIIIIIIIRVN p0 p1 p2 p3 p4 v7 v12 v21 v29 b116 g233) [(.int (1 : Int32))]) _
                refine XS.goto X271.here hx rfl (pc0 := 296) (pc' := 300) rfl (hb hby at_296) (by decide) (by decide) ?_
                exact k
              refine own_by sg300 ?_
              obtain ⟨fs, hr, hrun, hended, hW⟩ := X271.leaveW hS269 (by rw [hq271]; exact hk269) (v := some (.int (1 : Int32))) (fun h => by rw [Bd.returns] at h; cases h)
              refine ⟨_, _, ?_, hrun, hended, _, _, rfl, ?_, (by rw [hh]; show CHr Z consts_1 s.vm h0 T271.vm T271.heap; rw [hq271]; exact CR269.trans (CHv.at X271 hZ269 hEL hC269.1)), hW.1, hW.2.1, hW.2.2.1, hW.2.2.2.mono (by decide) (by decide)⟩
              · exact retN X271 hx (t := .boolean) Bd.returns (by simp) (hb hby at_300) hr
              · show Q0 Z p0 p1 p2 p3 p4 wV cl wAUTHORIZATION_CODE wCLIENT_CREDENTIALS sAUTHORIZATION_CODE sCLIENT_CREDENTIALS gz h0 n0 _ T271.heap _
                rw [hq271]
                exact ⟨rfl, N271⟩
            · have sg277 : ∀ t, own_S p e below T271 (mkF m 277 (own_AIIIIIIIIIRVU p0 p1 p2 p3 p4 v7 v12 v21 v29 b116 g233) []) t → own_S p e below T271 (mkF m 274 (own_AIIIIIIIIIRVU p0 p1 p2 p3 p4 v7 v12 v21 v29 b116 g233) [(.int c271)]) t := by
                intro t k
                show own_S p e below T271 (mkF m 274 (own_AIIIIIIIIIRVU p0 p1 p2 p3 p4 v7 v12 v21 v29 b116 g233) [(.int c271)]) _
                refine XS.ifNo X271.here hx rfl (hb hby at_274) rfl ((if0 _ _).trans (feq hc274).1) ?_
                exact k
              refine own_by sg277 ?_
              obtain ⟨T277, X277, e277, st277⟩ := getS2 X271 hx hZ269 hown269 (host := "") (Or.inl (hw _ (List.mem_of_getElem? (i := 73) rfl))) Via.refl hq271 (S_CLIENT_CREDENTIALS.ext ((((((O.ext E116).keep Kq124 all0).keep Kq127 (allS g_b116 all0)).keep Kq233 all0).ext E251).ext E269).2) (g := (mkF m 277 (own_AIIIIIIIIIRVU p0 p1 p2 p3 p4 v7 v12 v21 v29 b116 g233) [])) rfl (hb hby at_277)
              refine own_by st277 ?_
              have sg300 : ∀ t, own_S p e below T277 (mkF m 300 (own_AIIIIIIIIIRVR p0 p1 p2 p3 p4 v7 v12 v21 v29 b116 g233 wCLIENT_CREDENTIALS) [(.int (1 : Int32))]) t → own_S p e below T277 (mkF m 280 (own_AIIIIIIIIIRVU p0 p1 p2 p3 p4 v7 v12 v21 v29 b116 g233) [(.ref wCLIENT_CREDENTIALS)]) t := by
                intro t k
                show own_S p e below T277 (mkF m 280 (own_AIIIIIIIIIRVU p0 p1 p2 p3 p4 v7 v12 v21 v29 b116 g233) [(.ref wCLIENT_CREDENTIALS)]) _
                refine XS.astore X277.here hx rfl (hb hby at_280) rfl rfl (l' := (own_AIIIIIIIIIRVR p0 p1 p2 p3 p4 v7 v12 v21 v29 b116 g233 wCLIENT_CREDENTIALS)) rfl ?_
                show own_S p e below T277 (mkF m 282 (own_AIIIIIIIIIRVR p0 p1 p2 p3 p4 v7 v12 v21 v29 b116 g233 wCLIENT_CREDENTIALS) []) _
                refine XS.goto X277.here hx rfl (pc0 := 282) (pc' := 288) rfl (hb hby at_282) (by decide) (by decide) ?_
                show own_S p e below T277 (mkF m 288 (own_AIIIIIIIIIRVR p0 p1 p2 p3 p4 v7 v12 v21 v29 b116 g233 wCLIENT_CREDENTIALS) []) _
                refine XS.aload X277.here hx rfl (hb hby at_288) rfl hgr233 ?_
                show own_S p e below T277 (mkF m 290 (own_AIIIIIIIIIRVR p0 p1 p2 p3 p4 v7 v12 v21 v29 b116 g233 wCLIENT_CREDENTIALS) [g233]) _
                refine XS.aload X277.here hx rfl (hb hby at_290) rfl rfl ?_
                show own_S p e below T277 (mkF m 292 (own_AIIIIIIIIIRVR p0 p1 p2 p3 p4 v7 v12 v21 v29 b116 g233 wCLIENT_CREDENTIALS) [(.ref wCLIENT_CREDENTIALS), g233]) _
                refine Jvm.RoadKit.acmp (g := (mkF m 292 (own_AIIIIIIIIIRVR p0 p1 p2 p3 p4 v7 v12 v21 v29 b116 g233 wCLIENT_CREDENTIALS) [(.ref wCLIENT_CREDENTIALS), g233])) X277 hx rfl hgr233 rfl (pc0 := 292) (pc' := 295) (same := true) rfl (hb hby at_292) rfl (decide_eq_true (by rw [hg233, if_neg (fun q => own_if0 hc253 hc256 q.symm), if_pos (own_if1 hc271 hc274).symm] : (g233 : Value) = (.ref wCLIENT_CREDENTIALS))) (by decide) (by decide) ?_
                show own_S p e below T277 (mkF m 295 (own_AIIIIIIIIIRVR p0 p1 p2 p3 p4 v7 v12 v21 v29 b116 g233 wCLIENT_CREDENTIALS) []) _
                refine XS.iconst X277.here hx rfl (hb hby at_295) ?_
                show own_S p e below T277 (mkF m 296 (own_AIIIIIIIIIRVR p0 p1 p2 p3 p4 v7 v12 v21 v29 b116 g233 wCLIENT_CREDENTIALS) [(.int (1 : Int32))]) _
                refine XS.goto X277.here hx rfl (pc0 := 296) (pc' := 300) rfl (hb hby at_296) (by decide) (by decide) ?_
                exact k
              refine own_by sg300 ?_
              obtain ⟨fs, hr, hrun, hended, hW⟩ := X277.leaveW hS269 (by rw [e277]; exact hk269) (v := some (.int (1 : Int32))) (fun h => by rw [Bd.returns] at h; cases h)
              refine ⟨_, _, ?_, hrun, hended, _, _, rfl, ?_, (by rw [hh]; show CHr Z consts_1 s.vm h0 T277.vm T277.heap; rw [e277]; exact CR269.trans (CHv.at X277 hZ269 hEL hC269.1)), hW.1, hW.2.1, hW.2.2.1, hW.2.2.2.mono (by decide) (by decide)⟩
              · exact retN X277 hx (t := .boolean) Bd.returns (by simp) (hb hby at_300) hr
              · show Q0 Z p0 p1 p2 p3 p4 wV cl wAUTHORIZATION_CODE wCLIENT_CREDENTIALS sAUTHORIZATION_CODE sCLIENT_CREDENTIALS gz h0 n0 _ T277.heap _
                rw [e277]
                exact ⟨rfl, N271⟩
          · have sg259 : ∀ t, own_S p e below T253 (mkF m 259 (own_AIIIIIIIIIRVU p0 p1 p2 p3 p4 v7 v12 v21 v29 b116 g233) []) t → own_S p e below T253 (mkF m 256 (own_AIIIIIIIIIRVU p0 p1 p2 p3 p4 v7 v12 v21 v29 b116 g233) [(.int c253)]) t := by
              intro t k
              show own_S p e below T253 (mkF m 256 (own_AIIIIIIIIIRVU p0 p1 p2 p3 p4 v7 v12 v21 v29 b116 g233) [(.int c253)]) _
              refine XS.ifNo X253.here hx rfl (hb hby at_256) rfl ((if0 _ _).trans (feq hc256).1) ?_
              exact k
            refine own_by sg259 ?_
            obtain ⟨T259, X259, e259, st259⟩ := getS2 X253 hx hZ251 hown251 (host := "") (Or.inl (hw _ (List.mem_of_getElem? (i := 80) rfl))) Via.refl hq253 (S_AUTHORIZATION_CODE.ext (((((O.ext E116).keep Kq124 all0).keep Kq127 (allS g_b116 all0)).keep Kq233 all0).ext E251).2) (g := (mkF m 259 (own_AIIIIIIIIIRVU p0 p1 p2 p3 p4 v7 v12 v21 v29 b116 g233) [])) rfl (hb hby at_259)
            refine own_by st259 ?_
            have sg300 : ∀ t, own_S p e below T259 (mkF m 300 (own_AIIIIIIIIIRVR p0 p1 p2 p3 p4 v7 v12 v21 v29 b116 g233 wAUTHORIZATION_CODE) [(.int (1 : Int32))]) t → own_S p e below T259 (mkF m 262 (own_AIIIIIIIIIRVU p0 p1 p2 p3 p4 v7 v12 v21 v29 b116 g233) [(.ref wAUTHORIZATION_CODE)]) t := by
              intro t k
              show own_S p e below T259 (mkF m 262 (own_AIIIIIIIIIRVU p0 p1 p2 p3 p4 v7 v12 v21 v29 b116 g233) [(.ref wAUTHORIZATION_CODE)]) _
              refine XS.astore X259.here hx rfl (hb hby at_262) rfl rfl (l' := (own_AIIIIIIIIIRVR p0 p1 p2 p3 p4 v7 v12 v21 v29 b116 g233 wAUTHORIZATION_CODE)) rfl ?_
              show own_S p e below T259 (mkF m 264 (own_AIIIIIIIIIRVR p0 p1 p2 p3 p4 v7 v12 v21 v29 b116 g233 wAUTHORIZATION_CODE) []) _
              refine XS.goto X259.here hx rfl (pc0 := 264) (pc' := 288) rfl (hb hby at_264) (by decide) (by decide) ?_
              show own_S p e below T259 (mkF m 288 (own_AIIIIIIIIIRVR p0 p1 p2 p3 p4 v7 v12 v21 v29 b116 g233 wAUTHORIZATION_CODE) []) _
              refine XS.aload X259.here hx rfl (hb hby at_288) rfl hgr233 ?_
              show own_S p e below T259 (mkF m 290 (own_AIIIIIIIIIRVR p0 p1 p2 p3 p4 v7 v12 v21 v29 b116 g233 wAUTHORIZATION_CODE) [g233]) _
              refine XS.aload X259.here hx rfl (hb hby at_290) rfl rfl ?_
              show own_S p e below T259 (mkF m 292 (own_AIIIIIIIIIRVR p0 p1 p2 p3 p4 v7 v12 v21 v29 b116 g233 wAUTHORIZATION_CODE) [(.ref wAUTHORIZATION_CODE), g233]) _
              refine Jvm.RoadKit.acmp (g := (mkF m 292 (own_AIIIIIIIIIRVR p0 p1 p2 p3 p4 v7 v12 v21 v29 b116 g233 wAUTHORIZATION_CODE) [(.ref wAUTHORIZATION_CODE), g233])) X259 hx rfl hgr233 rfl (pc0 := 292) (pc' := 295) (same := true) rfl (hb hby at_292) rfl (decide_eq_true (by rw [hg233, if_pos (own_if1 hc253 hc256).symm] : (g233 : Value) = (.ref wAUTHORIZATION_CODE))) (by decide) (by decide) ?_
              show own_S p e below T259 (mkF m 295 (own_AIIIIIIIIIRVR p0 p1 p2 p3 p4 v7 v12 v21 v29 b116 g233 wAUTHORIZATION_CODE) []) _
              refine XS.iconst X259.here hx rfl (hb hby at_295) ?_
              show own_S p e below T259 (mkF m 296 (own_AIIIIIIIIIRVR p0 p1 p2 p3 p4 v7 v12 v21 v29 b116 g233 wAUTHORIZATION_CODE) [(.int (1 : Int32))]) _
              refine XS.goto X259.here hx rfl (pc0 := 296) (pc' := 300) rfl (hb hby at_296) (by decide) (by decide) ?_
              exact k
            refine own_by sg300 ?_
            obtain ⟨fs, hr, hrun, hended, hW⟩ := X259.leaveW hS251 (by rw [e259]; exact hk251) (v := some (.int (1 : Int32))) (fun h => by rw [Bd.returns] at h; cases h)
            refine ⟨_, _, ?_, hrun, hended, _, _, rfl, ?_, (by rw [hh]; show CHr Z consts_1 s.vm h0 T259.vm T259.heap; rw [e259]; exact CR251.trans (CHv.at X259 hZ251 hEL hC251.1)), hW.1, hW.2.1, hW.2.2.1, hW.2.2.2.mono (by decide) (by decide)⟩
            · exact retN X259 hx (t := .boolean) Bd.returns (by simp) (hb hby at_300) hr
            · show Q0 Z p0 p1 p2 p3 p4 wV cl wAUTHORIZATION_CODE wCLIENT_CREDENTIALS sAUTHORIZATION_CODE sCLIENT_CREDENTIALS gz h0 n0 _ T259.heap _
              rw [e259]
              exact ⟨rfl, N253⟩
        · have sg138 : ∀ t, own_S p e below s₁ (mkF m 138 (own_AIIIIIIIIIUUU p0 p1 p2 p3 p4 v7 v12 v21 v29) [(.int (4 : Int32)), (.int v7)]) t → own_S p e below s₁ (mkF m 113 (own_AIIIIIIIIIUUU p0 p1 p2 p3 p4 v7 v12 v21 v29) [(.int (3 : Int32)), (.int v7)]) t := by
            intro t k
            show own_S p e below s₁ (mkF m 113 (own_AIIIIIIIIIUUU p0 p1 p2 p3 p4 v7 v12 v21 v29) [(.int (3 : Int32)), (.int v7)]) _
            refine XS.icmpYes X0.here hx rfl (pc0 := 113) (pc' := 135) rfl (hb hby at_113) rfl (feq hc113).2 (by decide) (by decide) ?_
            show own_S p e below s₁ (mkF m 135 (own_AIIIIIIIIIUUU p0 p1 p2 p3 p4 v7 v12 v21 v29) []) _
            refine XS.iload X0.here hx rfl (hb hby at_135) rfl ?_
            show own_S p e below s₁ (mkF m 137 (own_AIIIIIIIIIUUU p0 p1 p2 p3 p4 v7 v12 v21 v29) [(.int v7)]) _
            refine XS.iconst X0.here hx rfl (hb hby at_137) ?_
            exact k
          refine own_by sg138 ?_
          by_cases hc138 : v7 = (4 : Int32)
          · have sg233 : ∀ t, own_S p e below s₁ (mkF m 233 (own_AIIIIIIIIINUU p0 p1 p2 p3 p4 v7 v12 v21 v29) [.null]) t → own_S p e below s₁ (mkF m 138 (own_AIIIIIIIIIUUU p0 p1 p2 p3 p4 v7 v12 v21 v29) [(.int (4 : Int32)), (.int v7)]) t := by
              intro t k
              show own_S p e below s₁ (mkF m 138 (own_AIIIIIIIIIUUU p0 p1 p2 p3 p4 v7 v12 v21 v29) [(.int (4 : Int32)), (.int v7)]) _
              refine XS.icmpNo X0.here hx rfl (hb hby at_138) rfl (teq hc138).2 ?_
              show own_S p e below s₁ (mkF m 141 (own_AIIIIIIIIIUUU p0 p1 p2 p3 p4 v7 v12 v21 v29) []) _
              refine XS.aconstNull X0.here hx rfl (hb hby at_141) ?_
              show own_S p e below s₁ (mkF m 142 (own_AIIIIIIIIIUUU p0 p1 p2 p3 p4 v7 v12 v21 v29) [.null]) _
              refine XS.astore X0.here hx rfl (hb hby at_142) rfl rfl (l' := (own_AIIIIIIIIINUU p0 p1 p2 p3 p4 v7 v12 v21 v29)) rfl ?_
              show own_S p e below s₁ (mkF m 144 (own_AIIIIIIIIINUU p0 p1 p2 p3 p4 v7 v12 v21 v29) []) _
              refine XS.goto X0.here hx rfl (pc0 := 144) (pc' := 231) rfl (hb hby at_144) (by decide) (by decide) ?_
              show own_S p e below s₁ (mkF m 231 (own_AIIIIIIIIINUU p0 p1 p2 p3 p4 v7 v12 v21 v29) []) _
              refine XS.aload X0.here hx rfl (hb hby at_231) rfl rfl ?_
              exact k
            refine own_by sg233 ?_
            obtain ⟨_, _, ⟨T233, L233, k233, n233⟩, -, X233, ⟨Lc233, hQ233, l233, y233, z233⟩, st233⟩ := Jvm.LawKit.callS X0 hx (y := (⟨"com/example/writd/writd/model/GrantType", "fromValue", "(Ljava/lang/String;)Lcom/example/writd/writd/model/GrantType;"⟩ : MethodName)) hown (mvT hZ (hw _ (List.mem_of_getElem? (i := 35) rfl))) (mvT hZ (hw _ (List.mem_of_getElem? (i := 36) rfl))) (mvT hZ (hw _ (List.mem_of_getElem? (i := 37) rfl))) (mvT hZ (hw _ (List.mem_of_getElem? (i := 38) rfl))) (by decide) (backOf (W := 0) (rm8n l Z a0 hw [] wV cl wAUTHORIZATION_CODE wCLIENT_CREDENTIALS sAUTHORIZATION_CODE sCLIENT_CREDENTIALS gz h0 n0 Z0 O O2 P5 S_V Ar_V E_V FC hsz hat0 hat1 FV_AUTHORIZATION_CODE FV_CLIENT_CREDENTIALS EX_AUTHORIZATION_CODE EX_CLIENT_CREDENTIALS Str_AUTHORIZATION_CODE Str_CLIENT_CREDENTIALS) hZ (hw _ (List.mem_of_getElem? (i := 38) rfl)) (hw _ (List.mem_of_getElem? (i := 37) rfl)) (by decide) (by decide)) (g := (mkF m 233 (own_AIIIIIIIIINUU p0 p1 p2 p3 p4 v7 v12 v21 v29) [.null])) rfl (by rw [hml]; rfl) (argsL := [.null]) (rest := []) (lenOf pd_0_2 rfl) rfl (by show 2 * 0 + _ ≤ _; exact Nat.le_of_eq rfl) (hb hby at_233) (fun _ _ => ⟨rfl, e0, (by decide : 0 + 1 ≤ _), (by decide : 0 + 2 ≤ _)⟩)
            dsimp only [Pt.U, Pt.locs, Pt.cells, Pt.slots] at X233 l233 y233 z233 st233 hQ233
            subst l233 y233 z233
            obtain ⟨rfl, N233q, Kq233⟩ := hQ233
            have N233 := Fr.app N0 N233q
            have K233 : Keep h0 T233.heap [] := K0.trans Kq233 (fun x hx => nomatch hx)
            have Z233 : n0 ≤ T233.heap.size := Nat.le_trans Z0 Kq233.1
            have CC233 := CHr.keep Kq233 sf0 hH0
            have CR233 := (CHr.refl hH0).trans CC233
            refine own_by st233 ?_
            have sg300 : ∀ t, own_S p e below T233 (mkF m 300 (own_AIIIIIIIIINNN p0 p1 p2 p3 p4 v7 v12 v21 v29) [(.int (1 : Int32))]) t → own_S p e below T233 (mkF m 236 (own_AIIIIIIIIINUU p0 p1 p2 p3 p4 v7 v12 v21 v29) [.null]) t := by
              intro t k
              show own_S p e below T233 (mkF m 236 (own_AIIIIIIIIINUU p0 p1 p2 p3 p4 v7 v12 v21 v29) [.null]) _
              refine XS.astore X233.here hx rfl (hb hby at_236) rfl rfl (l' := (own_AIIIIIIIIINNU p0 p1 p2 p3 p4 v7 v12 v21 v29)) rfl ?_
              show own_S p e below T233 (mkF m 238 (own_AIIIIIIIIINNU p0 p1 p2 p3 p4 v7 v12 v21 v29) []) _
              refine XS.aload X233.here hx rfl (hb hby at_238) rfl rfl ?_
              show own_S p e below T233 (mkF m 240 (own_AIIIIIIIIINNU p0 p1 p2 p3 p4 v7 v12 v21 v29) [.null]) _
              refine XS.ifnonnullNo X233.here hx rfl (hb hby at_240) rfl ?_
              show own_S p e below T233 (mkF m 243 (own_AIIIIIIIIINNU p0 p1 p2 p3 p4 v7 v12 v21 v29) []) _
              refine XS.aconstNull X233.here hx rfl (hb hby at_243) ?_
              show own_S p e below T233 (mkF m 244 (own_AIIIIIIIIINNU p0 p1 p2 p3 p4 v7 v12 v21 v29) [.null]) _
              refine XS.astore X233.here hx rfl (hb hby at_244) rfl rfl (l' := (own_AIIIIIIIIINNN p0 p1 p2 p3 p4 v7 v12 v21 v29)) rfl ?_
              show own_S p e below T233 (mkF m 246 (own_AIIIIIIIIINNN p0 p1 p2 p3 p4 v7 v12 v21 v29) []) _
              refine XS.goto X233.here hx rfl (pc0 := 246) (pc' := 288) rfl (hb hby at_246) (by decide) (by decide) ?_
              show own_S p e below T233 (mkF m 288 (own_AIIIIIIIIINNN p0 p1 p2 p3 p4 v7 v12 v21 v29) []) _
              refine XS.aload X233.here hx rfl (hb hby at_288) rfl rfl ?_
              show own_S p e below T233 (mkF m 290 (own_AIIIIIIIIINNN p0 p1 p2 p3 p4 v7 v12 v21 v29) [.null]) _
              refine XS.aload X233.here hx rfl (hb hby at_290) rfl rfl ?_
              show own_S p e below T233 (mkF m 292 (own_AIIIIIIIIINNN p0 p1 p2 p3 p4 v7 v12 v21 v29) [.null, .null]) _
              refine Jvm.RoadKit.acmp (g := (mkF m 292 (own_AIIIIIIIIINNN p0 p1 p2 p3 p4 v7 v12 v21 v29) [.null, .null])) X233 hx rfl rfl rfl (pc0 := 292) (pc' := 295) (same := true) rfl (hb hby at_292) rfl (decide_eq_true (rfl : (.null : Value) = .null)) (by decide) (by decide) ?_
              show own_S p e below T233 (mkF m 295 (own_AIIIIIIIIINNN p0 p1 p2 p3 p4 v7 v12 v21 v29) []) _
              refine XS.iconst X233.here hx rfl (hb hby at_295) ?_
              show own_S p e below T233 (mkF m 296 (own_AIIIIIIIIINNN p0 p1 p2 p3 p4 v7 v12 v21 v29) [(.int (1 : Int32))]) _
              refine XS.goto X233.here hx rfl (pc0 := 296) (pc' := 300) rfl (hb hby at_296) (by decide) (by decide) ?_
              exact k
            refine own_by sg300 ?_
            obtain ⟨fs, hr, hrun, hended, hW⟩ := X233.leaveW hS0 (Nat.le_trans (Nat.zero_le _) Kq233.1) (v := some (.int (1 : Int32))) (fun h => by rw [Bd.returns] at h; cases h)
            refine ⟨_, _, ?_, hrun, hended, _, _, rfl, ?_, (by rw [hh]; show CHr Z consts_1 s.vm h0 T233.vm T233.heap; exact CR233.trans (CHv.at X233 hZ hEL CC233.1)), hW.1, hW.2.1, hW.2.2.1, hW.2.2.2.mono (by decide) (by decide)⟩
            · exact retN X233 hx (t := .boolean) Bd.returns (by simp) (hb hby at_300) hr
            · show Q0 Z p0 p1 p2 p3 p4 wV cl wAUTHORIZATION_CODE wCLIENT_CREDENTIALS sAUTHORIZATION_CODE sCLIENT_CREDENTIALS gz h0 n0 _ T233.heap _
              exact ⟨rfl, N233⟩
          · have sg151 : ∀ t, own_S p e below s₁ (mkF m 151 (own_AIIIIIIIIIUUU p0 p1 p2 p3 p4 v7 v12 v21 v29) [(.int (p4 &&& (1 : Int32)))]) t → own_S p e below s₁ (mkF m 138 (own_AIIIIIIIIIUUU p0 p1 p2 p3 p4 v7 v12 v21 v29) [(.int (4 : Int32)), (.int v7)]) t := by
              intro t k
              show own_S p e below s₁ (mkF m 138 (own_AIIIIIIIIIUUU p0 p1 p2 p3 p4 v7 v12 v21 v29) [(.int (4 : Int32)), (.int v7)]) _
              refine XS.icmpYes X0.here hx rfl (pc0 := 138) (pc' := 147) rfl (hb hby at_138) rfl (feq hc138).2 (by decide) (by decide) ?_
              show own_S p e below s₁ (mkF m 147 (own_AIIIIIIIIIUUU p0 p1 p2 p3 p4 v7 v12 v21 v29) []) _
              refine XS.iload X0.here hx rfl (hb hby at_147) rfl ?_
              show own_S p e below s₁ (mkF m 149 (own_AIIIIIIIIIUUU p0 p1 p2 p3 p4 v7 v12 v21 v29) [(.int p4)]) _
              refine XS.iconst X0.here hx rfl (hb hby at_149) ?_
              show own_S p e below s₁ (mkF m 150 (own_AIIIIIIIIIUUU p0 p1 p2 p3 p4 v7 v12 v21 v29) [(.int (1 : Int32)), (.int p4)]) _
              refine XS.iand X0.here hx rfl (hb hby at_150) rfl ?_
              exact k
            refine own_by sg151 ?_
            by_cases hc151 : (p4 &&& (1 : Int32)) = (0 : Int32)
            · have sg170 : ∀ t, own_S p e below s₁ (mkF m 170 (own_AIIIIIIIIIUUU p0 p1 p2 p3 p4 v7 v12 v21 v29) [(.int (4 : Int32))]) t → own_S p e below s₁ (mkF m 151 (own_AIIIIIIIIIUUU p0 p1 p2 p3 p4 v7 v12 v21 v29) [(.int (p4 &&& (1 : Int32)))]) t := by
                intro t k
                show own_S p e below s₁ (mkF m 151 (own_AIIIIIIIIIUUU p0 p1 p2 p3 p4 v7 v12 v21 v29) [(.int (p4 &&& (1 : Int32)))]) _
                refine XS.ifYes X0.here hx rfl (pc0 := 151) (pc' := 169) rfl (hb hby at_151) rfl ((if0 _ _).trans (teq hc151).1) (by decide) (by decide) ?_
                show own_S p e below s₁ (mkF m 169 (own_AIIIIIIIIIUUU p0 p1 p2 p3 p4 v7 v12 v21 v29) []) _
                refine XS.iconst X0.here hx rfl (hb hby at_169) ?_
                exact k
              refine own_by sg170 ?_
              obtain ⟨T170, h170, kc170, X170, e170, E170, A170, st170⟩ := newP X0 hx hZ (hw _ (List.mem_of_getElem? (i := 8) rfl)) e0 (g := (mkF m 170 (own_AIIIIIIIIIUUU p0 p1 p2 p3 p4 v7 v12 v21 v29) [(.int (4 : Int32))])) rfl (hb hby at_170) rfl (by decide) (cap := 4) (by decide) (by decide) (by decide) (by decide)
              obtain ⟨b170, g170⟩ : ∃ z, z = h0.size := ⟨_, rfl⟩
              rw [← g170] at A170 st170
              have g_b170 : n0 ≤ b170 := Nat.le_trans Z0 (Nat.le_of_eq g170.symm)
              have sz_b170 : h0.size ≤ b170 := Nat.le_trans K0.1 (Nat.le_of_eq g170.symm)
              have K170 := K0.ext E170
              have Z170 : n0 ≤ h170.size := Nat.le_trans Z0 E170.1
              have CC170 := CHr.ext E170 hH0
              have CR170 := (CHr.refl hH0).trans CC170
              have V170 : Arv Z h170 b170 kc170 .char (4 : Int32) [(.int (0 : Int32)), (.int (0 : Int32)), (.int (0 : Int32)), (.int (0 : Int32))] (.int (0 : Int32)) := (Arv.new A170 (by decide)).pad (pad_rep [] (.int (0 : Int32)) 4)
              refine own_by st170 ?_
              have sg179 : ∀ t, own_S p e below T170 (mkF m 179 (own_AIIIIIIIIIURU p0 p1 p2 p3 p4 v7 v12 v21 v29 b170) [(.int v29), (.int (0 : Int32)), (.ref b170)]) t → own_S p e below T170 (mkF m 172 (own_AIIIIIIIIIUUU p0 p1 p2 p3 p4 v7 v12 v21 v29) [(.ref b170)]) t := by
                intro t k
                show own_S p e below T170 (mkF m 172 (own_AIIIIIIIIIUUU p0 p1 p2 p3 p4 v7 v12 v21 v29) [(.ref b170)]) _
                refine XS.astore X170.here hx rfl (hb hby at_172) rfl rfl (l' := (own_AIIIIIIIIIURU p0 p1 p2 p3 p4 v7 v12 v21 v29 b170)) rfl ?_
                show own_S p e below T170 (mkF m 174 (own_AIIIIIIIIIURU p0 p1 p2 p3 p4 v7 v12 v21 v29 b170) []) _
                refine XS.aload X170.here hx rfl (hb hby at_174) rfl rfl ?_
                show own_S p e below T170 (mkF m 176 (own_AIIIIIIIIIURU p0 p1 p2 p3 p4 v7 v12 v21 v29 b170) [(.ref b170)]) _
                refine XS.iconst X170.here hx rfl (hb hby at_176) ?_
                show own_S p e below T170 (mkF m 177 (own_AIIIIIIIIIURU p0 p1 p2 p3 p4 v7 v12 v21 v29 b170) [(.int (0 : Int32)), (.ref b170)]) _
                refine XS.iload X170.here hx rfl (hb hby at_177) rfl ?_
                exact k
              refine own_by sg179 ?_
              obtain ⟨cl179, Ar179, qa179, Sa179, Na179, Ha179, Ga179⟩ := id V170
              obtain ⟨T179, h179, X179, e179, W179, st179⟩ := stC X170 hx hZ e170 Ar179 (j := (0 : Int32)) (inb_of Sa179 ⟨by decide, by decide⟩) (g := (mkF m 179 (own_AIIIIIIIIIURU p0 p1 p2 p3 p4 v7 v12 v21 v29 b170) [(.int v29), (.int (0 : Int32)), (.ref b170)])) rfl rfl (hb hby at_179)
              have V179 : Arv Z h179 b170 kc170 .char (4 : Int32) [(.int v29), (.int (0 : Int32)), (.int (0 : Int32)), (.int (0 : Int32))] (.int (0 : Int32)) := by
                have q := Arv.set Ar179 qa179 Sa179 Na179 Ha179 Ga179 (fits_nar_char _) W179 0 rfl (Nat.le_of_ble_eq_true rfl)
                rw [own_narc hk_v29] at q
                exact q
              have K179 : Keep h0 h179 [] := K170.wr W179 (Or.inr sz_b170)
              have Z179 : n0 ≤ h179.size := Nat.le_trans Z170 (Keep.of_wr W179).1
              have CC179 := CHr.wr W179 (Safe.arv hZ.alike V170 (by decide)) CC170.1
              have CR179 := CR170.trans CC179
              have N179 := Fr.snoc X179 N0 g_b170
              refine own_by st179 ?_
              obtain ⟨k192, hk192⟩ : ∃ z : Int32, z = ((((p3.toUInt32 >>> ((8 : Int32) &&& 31).toUInt32).toInt32) &&& (255 : Int32)).toUInt32.toUInt16.toUInt32.toInt32) := ⟨_, rfl⟩
              have hk_k192 : ¬ k192 < 0 ∧ ¬ (255 : Int32) < k192 := by rw [hk192]; exact own_c255 _
              have sg192 : ∀ t, own_S p e below T179 (mkF m 192 (own_AIIIIIIIIIURU p0 p1 p2 p3 p4 v7 v12 v21 v29 b170) [(.int k192), (.int (1 : Int32)), (.ref b170)]) t → own_S p e below T179 (mkF m 180 (own_AIIIIIIIIIURU p0 p1 p2 p3 p4 v7 v12 v21 v29 b170) []) t := by
                intro t k
                rw [hk192] at k
                show own_S p e below T179 (mkF m 180 (own_AIIIIIIIIIURU p0 p1 p2 p3 p4 v7 v12 v21 v29 b170) []) _
                refine XS.aload X179.here hx rfl (hb hby at_180) rfl rfl ?_
                show own_S p e below T179 (mkF m 182 (own_AIIIIIIIIIURU p0 p1 p2 p3 p4 v7 v12 v21 v29 b170) [(.ref b170)]) _
                refine XS.iconst X179.here hx rfl (hb hby at_182) ?_
                show own_S p e below T179 (mkF m 183 (own_AIIIIIIIIIURU p0 p1 p2 p3 p4 v7 v12 v21 v29 b170) [(.int (1 : Int32)), (.ref b170)]) _
                refine XS.iloadN X179.here hx rfl (hb hby at_183) rfl ?_
                show own_S p e below T179 (mkF m 184 (own_AIIIIIIIIIURU p0 p1 p2 p3 p4 v7 v12 v21 v29 b170) [(.int p3), (.int (1 : Int32)), (.ref b170)]) _
                refine XS.bipush X179.here hx rfl (hb hby at_184) ?_
                show own_S p e below T179 (mkF m 186 (own_AIIIIIIIIIURU p0 p1 p2 p3 p4 v7 v12 v21 v29 b170) [(.int (8 : Int32)), (.int p3), (.int (1 : Int32)), (.ref b170)]) _
                refine XS.iushr X179.here hx rfl (hb hby at_186) rfl ?_
                show own_S p e below T179 (mkF m 187 (own_AIIIIIIIIIURU p0 p1 p2 p3 p4 v7 v12 v21 v29 b170) [(.int ((p3.toUInt32 >>> ((8 : Int32) &&& 31).toUInt32).toInt32)), (.int (1 : Int32)), (.ref b170)]) _
                refine XS.sipush X179.here hx rfl (hb hby at_187) ?_
                show own_S p e below T179 (mkF m 190 (own_AIIIIIIIIIURU p0 p1 p2 p3 p4 v7 v12 v21 v29 b170) [(.int (255 : Int32)), (.int ((p3.toUInt32 >>> ((8 : Int32) &&& 31).toUInt32).toInt32)), (.int (1 : Int32)), (.ref b170)]) _
                refine XS.iand X179.here hx rfl (hb hby at_190) rfl ?_
                show own_S p e below T179 (mkF m 191 (own_AIIIIIIIIIURU p0 p1 p2 p3 p4 v7 v12 v21 v29 b170) [(.int (((p3.toUInt32 >>> ((8 : Int32) &&& 31).toUInt32).toInt32) &&& (255 : Int32))), (.int (1 : Int32)), (.ref b170)]) _
                refine XS.i2c X179.here hx rfl (hb hby at_191) rfl ?_
                exact k
              refine own_by sg192 ?_
              obtain ⟨cl192, Ar192, qa192, Sa192, Na192, Ha192, Ga192⟩ := id V179
              obtain ⟨T192, h192, X192, e192, W192, st192⟩ := stC X179 hx hZ e179 Ar192 (j := (1 : Int32)) (inb_of Sa192 ⟨by decide, by decide⟩) (g := (mkF m 192 (own_AIIIIIIIIIURU p0 p1 p2 p3 p4 v7 v12 v21 v29 b170) [(.int k192), (.int (1 : Int32)), (.ref b170)])) rfl rfl (hb hby at_192)
              have V192 : Arv Z h192 b170 kc170 .char (4 : Int32) [(.int v29), (.int k192), (.int (0 : Int32)), (.int (0 : Int32))] (.int (0 : Int32)) := by
                have q := Arv.set Ar192 qa192 Sa192 Na192 Ha192 Ga192 (fits_nar_char _) W192 1 rfl (Nat.le_of_ble_eq_true rfl)
                rw [own_narc hk_k192] at q
                exact q
              have K192 : Keep h0 h192 [] := K179.wr W192 (Or.inr sz_b170)
              have Z192 : n0 ≤ h192.size := Nat.le_trans Z179 (Keep.of_wr W192).1
              have CC192 := CHr.wr W192 (Safe.arv hZ.alike V179 (by decide)) CC179.1
              have CR192 := CR179.trans CC192
              have N192 := Fr.snoc X192 N179 g_b170
              refine own_by st192 ?_
              obtain ⟨k205, hk205⟩ : ∃ z : Int32, z = ((((p3.toUInt32 >>> ((16 : Int32) &&& 31).toUInt32).toInt32) &&& (255 : Int32)).toUInt32.toUInt16.toUInt32.toInt32) := ⟨_, rfl⟩
              have hk_k205 : ¬ k205 < 0 ∧ ¬ (255 : Int32) < k205 := by rw [hk205]; exact own_c255 _
              have sg205 : ∀ t, own_S p e below T192 (mkF m 205 (own_AIIIIIIIIIURU p0 p1 p2 p3 p4 v7 v12 v21 v29 b170) [(.int k205), (.int (2 : Int32)), (.ref b170)]) t → own_S p e below T192 (mkF m 193 (own_AIIIIIIIIIURU p0 p1 p2 p3 p4 v7 v12 v21 v29 b170) []) t := by
                intro t k
                rw [hk205] at k
                show own_S p e below T192 (mkF m 193 (own_AIIIIIIIIIURU p0 p1 p2 p3 p4 v7 v12 v21 v29 b170) []) _
                refine XS.aload X192.here hx rfl (hb hby at_193) rfl rfl ?_
                show own_S p e below T192 (mkF m 195 (own_AIIIIIIIIIURU p0 p1 p2 p3 p4 v7 v12 v21 v29 b170) [(.ref b170)]) _
                refine XS.iconst X192.here hx rfl (hb hby at_195) ?_
                show own_S p e below T192 (mkF m 196 (own_AIIIIIIIIIURU p0 p1 p2 p3 p4 v7 v12 v21 v29 b170) [(.int (2 : Int32)), (.ref b170)]) _
                refine XS.iloadN X192.here hx rfl (hb hby at_196) rfl ?_
                show own_S p e below T192 (mkF m 197 (own_AIIIIIIIIIURU p0 p1 p2 p3 p4 v7 v12 v21 v29 b170) [(.int p3), (.int (2 : Int32)), (.ref b170)]) _
                refine XS.bipush X192.here hx rfl (hb hby at_197) ?_
                show own_S p e below T192 (mkF m 199 (own_AIIIIIIIIIURU p0 p1 p2 p3 p4 v7 v12 v21 v29 b170) [(.int (16 : Int32)), (.int p3), (.int (2 : Int32)), (.ref b170)]) _
                refine XS.iushr X192.here hx rfl (hb hby at_199) rfl ?_
                show own_S p e below T192 (mkF m 200 (own_AIIIIIIIIIURU p0 p1 p2 p3 p4 v7 v12 v21 v29 b170) [(.int ((p3.toUInt32 >>> ((16 : Int32) &&& 31).toUInt32).toInt32)), (.int (2 : Int32)), (.ref b170)]) _
                refine XS.sipush X192.here hx rfl (hb hby at_200) ?_
                show own_S p e below T192 (mkF m 203 (own_AIIIIIIIIIURU p0 p1 p2 p3 p4 v7 v12 v21 v29 b170) [(.int (255 : Int32)), (.int ((p3.toUInt32 >>> ((16 : Int32) &&& 31).toUInt32).toInt32)), (.int (2 : Int32)), (.ref b170)]) _
                refine XS.iand X192.here hx rfl (hb hby at_203) rfl ?_
                show own_S p e below T192 (mkF m 204 (own_AIIIIIIIIIURU p0 p1 p2 p3 p4 v7 v12 v21 v29 b170) [(.int (((p3.toUInt32 >>> ((16 : Int32) &&& 31).toUInt32).toInt32) &&& (255 : Int32))), (.int (2 : Int32)), (.ref b170)]) _
                refine XS.i2c X192.here hx rfl (hb hby at_204) rfl ?_
                exact k
              refine own_by sg205 ?_
              obtain ⟨cl205, Ar205, qa205, Sa205, Na205, Ha205, Ga205⟩ := id V192
              obtain ⟨T205, h205, X205, e205, W205, st205⟩ := stC X192 hx hZ e192 Ar205 (j := (2 : Int32)) (inb_of Sa205 ⟨by decide, by decide⟩) (g := (mkF m 205 (own_AIIIIIIIIIURU p0 p1 p2 p3 p4 v7 v12 v21 v29 b170) [(.int k205), (.int (2 : Int32)), (.ref b170)])) rfl rfl (hb hby at_205)
              have V205 : Arv Z h205 b170 kc170 .char (4 : Int32) [(.int v29), (.int k192), (.int k205), (.int (0 : Int32))] (.int (0 : Int32)) := by
                have q := Arv.set Ar205 qa205 Sa205 Na205 Ha205 Ga205 (fits_nar_char _) W205 2 rfl (Nat.le_of_ble_eq_true rfl)
                rw [own_narc hk_k205] at q
                exact q
              have K205 : Keep h0 h205 [] := K192.wr W205 (Or.inr sz_b170)
              have Z205 : n0 ≤ h205.size := Nat.le_trans Z192 (Keep.of_wr W205).1
              have CC205 := CHr.wr W205 (Safe.arv hZ.alike V192 (by decide)) CC192.1
              have CR205 := CR192.trans CC205
              have N205 := Fr.snoc X205 N192 g_b170
              refine own_by st205 ?_
              obtain ⟨k219, hk219⟩ : ∃ z : Int32, z = ((((p4.toUInt32 >>> ((8 : Int32) &&& 31).toUInt32).toInt32) &&& (255 : Int32)).toUInt32.toUInt16.toUInt32.toInt32) := ⟨_, rfl⟩
              have hk_k219 : ¬ k219 < 0 ∧ ¬ (255 : Int32) < k219 := by rw [hk219]; exact own_c255 _
              have sg219 : ∀ t, own_S p e below T205 (mkF m 219 (own_AIIIIIIIIIURU p0 p1 p2 p3 p4 v7 v12 v21 v29 b170) [(.int k219), (.int (3 : Int32)), (.ref b170)]) t → own_S p e below T205 (mkF m 206 (own_AIIIIIIIIIURU p0 p1 p2 p3 p4 v7 v12 v21 v29 b170) []) t := by
                intro t k
                rw [hk219] at k
                show own_S p e below T205 (mkF m 206 (own_AIIIIIIIIIURU p0 p1 p2 p3 p4 v7 v12 v21 v29 b170) []) _
                refine XS.aload X205.here hx rfl (hb hby at_206) rfl rfl ?_
                show own_S p e below T205 (mkF m 208 (own_AIIIIIIIIIURU p0 p1 p2 p3 p4 v7 v12 v21 v29 b170) [(.ref b170)]) _
                refine XS.iconst X205.here hx rfl (hb hby at_208) ?_
                show own_S p e below T205 (mkF m 209 (own_AIIIIIIIIIURU p0 p1 p2 p3 p4 v7 v12 v21 v29 b170) [(.int (3 : Int32)), (.ref b170)]) _
                refine XS.iload X205.here hx rfl (hb hby at_209) rfl ?_
                show own_S p e below T205 (mkF m 211 (own_AIIIIIIIIIURU p0 p1 p2 p3 p4 v7 v12 v21 v29 b170) [(.int p4), (.int (3 : Int32)), (.ref b170)]) _
                refine XS.bipush X205.here hx rfl (hb hby at_211) ?_
                show own_S p e below T205 (mkF m 213 (own_AIIIIIIIIIURU p0 p1 p2 p3 p4 v7 v12 v21 v29 b170) [(.int (8 : Int32)), (.int p4), (.int (3 : Int32)), (.ref b170)]) _
                refine XS.iushr X205.here hx rfl (hb hby at_213) rfl ?_
                show own_S p e below T205 (mkF m 214 (own_AIIIIIIIIIURU p0 p1 p2 p3 p4 v7 v12 v21 v29 b170) [(.int ((p4.toUInt32 >>> ((8 : Int32) &&& 31).toUInt32).toInt32)), (.int (3 : Int32)), (.ref b170)]) _
                refine XS.sipush X205.here hx rfl (hb hby at_214) ?_
                show own_S p e below T205 (mkF m 217 (own_AIIIIIIIIIURU p0 p1 p2 p3 p4 v7 v12 v21 v29 b170) [(.int (255 : Int32)), (.int ((p4.toUInt32 >>> ((8 : Int32) &&& 31).toUInt32).toInt32)), (.int (3 : Int32)), (.ref b170)]) _
                refine XS.iand X205.here hx rfl (hb hby at_217) rfl ?_
                show own_S p e below T205 (mkF m 218 (own_AIIIIIIIIIURU p0 p1 p2 p3 p4 v7 v12 v21 v29 b170) [(.int (((p4.toUInt32 >>> ((8 : Int32) &&& 31).toUInt32).toInt32) &&& (255 : Int32))), (.int (3 : Int32)), (.ref b170)]) _
                refine XS.i2c X205.here hx rfl (hb hby at_218) rfl ?_
                exact k
              refine own_by sg219 ?_
              obtain ⟨cl219, Ar219, qa219, Sa219, Na219, Ha219, Ga219⟩ := id V205
              obtain ⟨T219, h219, X219, e219, W219, st219⟩ := stC X205 hx hZ e205 Ar219 (j := (3 : Int32)) (inb_of Sa219 ⟨by decide, by decide⟩) (g := (mkF m 219 (own_AIIIIIIIIIURU p0 p1 p2 p3 p4 v7 v12 v21 v29 b170) [(.int k219), (.int (3 : Int32)), (.ref b170)])) rfl rfl (hb hby at_219)
              have V219 : Arv Z h219 b170 kc170 .char (4 : Int32) [(.int v29), (.int k192), (.int k205), (.int k219)] (.int (0 : Int32)) := by
                have q := Arv.set Ar219 qa219 Sa219 Na219 Ha219 Ga219 (fits_nar_char _) W219 3 rfl (Nat.le_of_ble_eq_true rfl)
                rw [own_narc hk_k219] at q
                exact q
              have K219 : Keep h0 h219 [] := K205.wr W219 (Or.inr sz_b170)
              have Z219 : n0 ≤ h219.size := Nat.le_trans Z205 (Keep.of_wr W219).1
              have CC219 := CHr.wr W219 (Safe.arv hZ.alike V205 (by decide)) CC205.1
              have CR219 := CR205.trans CC219
              have N219 := Fr.snoc X219 N205 g_b170
              refine own_by st219 ?_
              obtain ⟨T220, h220, X220, e220, E220, A220, D220, -, st220⟩ := newO X219 hx hZ hown (hw _ (List.mem_of_getElem? (i := 1) rfl)) (hw _ (List.mem_of_getElem? (i := 2) rfl)) (hw _ (List.mem_of_getElem? (i := 3) rfl)) e219 (g := (mkF m 220 (own_AIIIIIIIIIURU p0 p1 p2 p3 p4 v7 v12 v21 v29 b170) [])) rfl (hb hby at_220) (by decide) (by decide)
              obtain ⟨b220, g220⟩ : ∃ z, z = h219.size := ⟨_, rfl⟩
              rw [← g220] at A220 D220 st220
              have ne_b170_b220 : b170 ≠ b220 := Nat.ne_of_lt (Nat.lt_of_lt_of_le V219.lt (Nat.le_of_eq g220.symm))
              have g_b220 : n0 ≤ b220 := Nat.le_trans Z219 (Nat.le_of_eq g220.symm)
              have sz_b220 : h0.size ≤ b220 := Nat.le_trans K219.1 (Nat.le_of_eq g220.symm)
              have K220 := K219.ext E220
              have Z220 : n0 ≤ h220.size := Nat.le_trans Z219 E220.1
              have CC220 := CHr.ext E220 CC219.1
              have CR220 := CR219.trans CC220
              have F_coder_b220 : Fld Z h220 b220 "java/lang/String" "coder" "B" (.int (0 : Int32)) := D220 (Or.inr (hw _ (List.mem_of_getElem? (i := 32) rfl))) (ty := .byte) (by decide)
              have F_value_b220 : Fld Z h220 b220 "java/lang/String" "value" "[B" .null := D220 (Or.inr (hw _ (List.mem_of_getElem? (i := 34) rfl))) (ty := (.array .byte)) (by decide)
              refine own_by st220 ?_
              have sg226 : ∀ t, own_S p e below T220 (mkF m 226 (own_AIIIIIIIIIURU p0 p1 p2 p3 p4 v7 v12 v21 v29 b170) [(.ref b170), (.ref b220), (.ref b220)]) t → own_S p e below T220 (mkF m 223 (own_AIIIIIIIIIURU p0 p1 p2 p3 p4 v7 v12 v21 v29 b170) [(.ref b220)]) t := by
                intro t k
                show own_S p e below T220 (mkF m 223 (own_AIIIIIIIIIURU p0 p1 p2 p3 p4 v7 v12 v21 v29 b170) [(.ref b220)]) _
                refine XS.dup X220.here hx rfl (hb hby at_223) rfl rfl ?_
                show own_S p e below T220 (mkF m 224 (own_AIIIIIIIIIURU p0 p1 p2 p3 p4 v7 v12 v21 v29 b170) [(.ref b220), (.ref b220)]) _
                refine XS.aload X220.here hx rfl (hb hby at_224) rfl rfl ?_
                exact k
              refine own_by sg226 ?_
              have hp226 : ∀ c ∈ ([v29, k192, k205, k219] : List Int32), ¬ c < 0 ∧ ¬ (255 : Int32) < c := by
                intro c hc
                simp only [List.mem_cons, List.not_mem_nil, or_false] at hc
                rcases hc with rfl | rfl | rfl | rfl
                · exact hk_v29
                · exact hk_k192
                · exact hk_k205
                · exact hk_k219
              obtain ⟨_, _, ⟨T226, L226, k226, n226⟩, -, X226, ⟨Lc226, hQ226, l226, y226, z226⟩, st226⟩ := X220.specialBack hx (y := (⟨"java/lang/String", "<init>", "([C)V"⟩ : MethodName)) rfl hown (mvT hZ (hw _ (List.mem_of_getElem? (i := 9) rfl))) (mvT hZ (hw _ (List.mem_of_getElem? (i := 10) rfl))) (mvT hZ (hw _ (List.mem_of_getElem? (i := 11) rfl))) (by decide) (StrChars.Road.backV (W := 1) hZ hws (kI := 4) (hw _ (List.mem_of_getElem? (i := 2) rfl)) (cs := ([v29, k192, k205, k219] : List Int32)) (bs := ([v29, k192, k205, k219] : List Int32).map (fun c => c.toInt8.toInt32)) (n := 4) g_b220 Z220 A220 F_value_b220 F_coder_b220 (V219.ext E220) (O2.ext ((((((O.ext E170).wr W179 g_b170).wr W192 g_b170).wr W205 g_b170).wr W219 g_b170).ext E220).2) P5 rfl rfl (by decide) (by decide) hp226 rfl (by decide) (by decide)) (g := (mkF m 226 (own_AIIIIIIIIIURU p0 p1 p2 p3 p4 v7 v12 v21 v29 b170) [(.ref b170), (.ref b220), (.ref b220)])) rfl (by rw [hml]; rfl) (Steps.refl _) (a := b220) (argsL := [(.ref b170)]) (rest := [(.ref b220)]) (lenOf pd_0_1 rfl) rfl (by show 2 * 0 + _ ≤ _; exact Nat.le_of_eq rfl) (hb hby at_226) (fun _ _ => ⟨rfl, e220, (by decide : 2 + 1 ≤ _), (by decide : 8 + 4 ≤ _)⟩)
              dsimp only [Pt.U, Pt.locs, Pt.cells, Pt.slots] at X226 l226 y226 z226 st226 hQ226
              subst l226 y226 z226
              obtain ⟨rfl, N226q, Kq226, Eq226, Cq226, t226, kb226, u1226, u2226, u3226, Vq226, Aq226⟩ := hQ226
              have N226 := Fr.app N219 N226q
              have ne_b170_t226 : b170 ≠ t226 := Nat.ne_of_lt (Nat.lt_of_lt_of_le (V219.ext E220).lt u2226)
              have ne_b220_t226 : b220 ≠ t226 := Nat.ne_of_lt (Nat.lt_of_lt_of_le A220.lt u2226)
              have g_t226 : n0 ≤ t226 := Nat.le_trans Z220 u2226
              have sz_t226 : h0.size ≤ t226 := Nat.le_trans K220.1 u2226
              have fc := ((V219.ext E220).keep Kq226 (fun h => ne_b170_b220 (List.mem_singleton.mp h)))
              have K226 : Keep h0 T226.heap [] := K220.trans Kq226 (fun x hx => by cases List.mem_singleton.mp hx; exact Or.inr sz_b220)
              have Z226 : n0 ≤ T226.heap.size := Nat.le_trans Z220 Kq226.1
              have CC226 := CHr.keep Kq226 (sfS (own_safe0 hZ.alike A220 F_value_b220 (hw _ (List.mem_of_getElem? (i := 2) rfl))) sf0) CC220.1
              have CR226 := CR220.trans CC226
              refine own_by (fun t k => st226.trans k) ?_
              have sg233 : ∀ t, own_S p e below T226 (mkF m 233 (own_AIIIIIIIIIRRU p0 p1 p2 p3 p4 v7 v12 v21 v29 b220 b170) [(.ref b220)]) t → own_S p e below T226 (mkF m 229 (own_AIIIIIIIIIURU p0 p1 p2 p3 p4 v7 v12 v21 v29 b170) [(.ref b220)]) t := by
                intro t k
                show own_S p e below T226 (mkF m 229 (own_AIIIIIIIIIURU p0 p1 p2 p3 p4 v7 v12 v21 v29 b170) [(.ref b220)]) _
                refine XS.astore X226.here hx rfl (hb hby at_229) rfl rfl (l' := (own_AIIIIIIIIIRRU p0 p1 p2 p3 p4 v7 v12 v21 v29 b220 b170)) rfl ?_
                show own_S p e below T226 (mkF m 231 (own_AIIIIIIIIIRRU p0 p1 p2 p3 p4 v7 v12 v21 v29 b220 b170) []) _
                refine XS.aload X226.here hx rfl (hb hby at_231) rfl rfl ?_
                exact k
              refine own_by sg233 ?_
              obtain ⟨_, _, ⟨T233, L233, k233, n233⟩, -, X233, ⟨Lc233, hQ233, l233, y233, z233⟩, st233⟩ := Jvm.LawKit.callS X226 hx (y := (⟨"com/example/writd/writd/model/GrantType", "fromValue", "(Ljava/lang/String;)Lcom/example/writd/writd/model/GrantType;"⟩ : MethodName)) hown (mvT hZ (hw _ (List.mem_of_getElem? (i := 35) rfl))) (mvT hZ (hw _ (List.mem_of_getElem? (i := 36) rfl))) (mvT hZ (hw _ (List.mem_of_getElem? (i := 37) rfl))) (mvT hZ (hw _ (List.mem_of_getElem? (i := 38) rfl))) (by decide) (backOf (W := 0) (rm8 l Z a0 hw [] b220 ([v29, k192, k205, k219] : List Int32) wV cl wAUTHORIZATION_CODE wCLIENT_CREDENTIALS sAUTHORIZATION_CODE sCLIENT_CREDENTIALS gz T226.heap n0 Z226 (((((((O.ext E170).wr W179 g_b170).wr W192 g_b170).wr W205 g_b170).wr W219 g_b170).ext E220).keep Kq226 (allS g_b220 all0)) O2 P5 S_V Ar_V E_V FC hsz hat0 hat1 FV_AUTHORIZATION_CODE FV_CLIENT_CREDENTIALS EX_AUTHORIZATION_CODE EX_CLIENT_CREDENTIALS Str_AUTHORIZATION_CODE Str_CLIENT_CREDENTIALS (⟨t226, kb226, 0, (4 : Int32), _, Eq226, Vq226, Cq226, Aq226, StrChars.Road.codOf (n := 4) rfl (fun x hx => (hp226 x hx).2), own_up _ hp226, Nat.le_of_ble_eq_true rfl⟩ : own_Str Z T226.heap b220 ([v29, k192, k205, k219] : List Int32))) hZ (hw _ (List.mem_of_getElem? (i := 38) rfl)) (hw _ (List.mem_of_getElem? (i := 37) rfl)) (by decide) (by decide)) (g := (mkF m 233 (own_AIIIIIIIIIRRU p0 p1 p2 p3 p4 v7 v12 v21 v29 b220 b170) [(.ref b220)])) rfl (by rw [hml]; rfl) (argsL := [(.ref b220)]) (rest := []) (lenOf pd_0_2 rfl) rfl (by show 2 * 0 + _ ≤ _; exact Nat.le_of_eq rfl) (hb hby at_233) (fun _ _ => ⟨rfl, rfl, (by decide : 3 + 1 ≤ _), (by decide : 12 + 2 ≤ _)⟩)
              dsimp only [Pt.U, Pt.locs, Pt.cells, Pt.slots] at X233 l233 y233 z233 st233 hQ233
              subst l233 y233 z233
              obtain ⟨rfl, N233q, Kq233⟩ := hQ233
              have N233 := Fr.app N226 N233q
              have K233 : Keep h0 T233.heap [] := K226.trans Kq233 (fun x hx => nomatch hx)
              have Z233 : n0 ≤ T233.heap.size := Nat.le_trans Z226 Kq233.1
              have CC233 := CHr.keep Kq233 sf0 CC226.1
              have CR233 := CR226.trans CC233
              obtain ⟨g233, hg233⟩ : ∃ z : Value, z = (if ([(97 : Int32), (117 : Int32), (116 : Int32), (104 : Int32), (111 : Int32), (114 : Int32), (105 : Int32), (122 : Int32), (97 : Int32), (116 : Int32), (105 : Int32), (111 : Int32), (110 : Int32), (95 : Int32), (99 : Int32), (111 : Int32), (100 : Int32), (101 : Int32)] : List Int32) = ([v29, k192, k205, k219] : List Int32) then Value.ref wAUTHORIZATION_CODE else (if ([(99 : Int32), (108 : Int32), (105 : Int32), (101 : Int32), (110 : Int32), (116 : Int32), (95 : Int32), (99 : Int32), (114 : Int32), (101 : Int32), (100 : Int32), (101 : Int32), (110 : Int32), (116 : Int32), (105 : Int32), (97 : Int32), (108 : Int32), (115 : Int32)] : List Int32) = ([v29, k192, k205, k219] : List Int32) then Value.ref wCLIENT_CREDENTIALS else Value.null)) := ⟨_, rfl⟩
              rw [← hg233] at st233
              have hgr233 : g233.isRef = true := by rw [hg233]; repeat' (first | rfl | (refine own_isr rfl ?_))
              refine own_by st233 ?_
              have sg251 : ∀ t, own_S p e below T233 (mkF m 251 (own_AIIIIIIIIIRVU p0 p1 p2 p3 p4 v7 v12 v21 v29 b220 g233) [(.ref b220)]) t → own_S p e below T233 (mkF m 236 (own_AIIIIIIIIIRRU p0 p1 p2 p3 p4 v7 v12 v21 v29 b220 b170) [g233]) t := by
                intro t k
                show own_S p e below T233 (mkF m 236 (own_AIIIIIIIIIRRU p0 p1 p2 p3 p4 v7 v12 v21 v29 b220 b170) [g233]) _
                refine XS.astore X233.here hx rfl (hb hby at_236) rfl hgr233 (l' := (own_AIIIIIIIIIRVU p0 p1 p2 p3 p4 v7 v12 v21 v29 b220 g233)) (by simp [storeLocals, storeSelf, setAt, own_cat1 hgr233, own_catr, own_catn]) ?_
                show own_S p e below T233 (mkF m 238 (own_AIIIIIIIIIRVU p0 p1 p2 p3 p4 v7 v12 v21 v29 b220 g233) []) _
                refine XS.aload X233.here hx rfl (hb hby at_238) rfl rfl ?_
                show own_S p e below T233 (mkF m 240 (own_AIIIIIIIIIRVU p0 p1 p2 p3 p4 v7 v12 v21 v29 b220 g233) [(.ref b220)]) _
                refine XS.ifnonnullYes X233.here hx rfl (pc0 := 240) (pc' := 249) rfl (hb hby at_240) rfl (by decide) (by decide) ?_
                show own_S p e below T233 (mkF m 249 (own_AIIIIIIIIIRVU p0 p1 p2 p3 p4 v7 v12 v21 v29 b220 g233) []) _
                refine XS.aload X233.here hx rfl (hb hby at_249) rfl rfl ?_
                exact k
              refine own_by sg251 ?_
              obtain ⟨l251a, T251, h251, ks251, lb251, lk251, X251, e251, E251, hS251, hk251, hZ251, hown251, lE251, lC251, lV251, lA251, la1251, la2251, hC251, -, hsf251, st251⟩ := ldcCH X233 hx hZ hown (hw _ (List.mem_of_getElem? (i := 68) rfl)) wS rfl hS0 (Nat.le_trans (Nat.le_trans (Nat.le_trans (Nat.le_trans (Nat.le_trans (Nat.le_trans (Nat.le_trans (Nat.le_trans (Nat.zero_le _) E170.1) (Keep.of_wr W179).1) (Keep.of_wr W192).1) (Keep.of_wr W205).1) (Keep.of_wr W219).1) E220.1) Kq226.1) Kq233.1) hEL (by decide) CC233.1 (vs := [(.int (97 : Int32)), (.int (117 : Int32)), (.int (116 : Int32)), (.int (104 : Int32)), (.int (111 : Int32)), (.int (114 : Int32)), (.int (105 : Int32)), (.int (122 : Int32)), (.int (97 : Int32)), (.int (116 : Int32)), (.int (105 : Int32)), (.int (111 : Int32)), (.int (110 : Int32)), (.int (95 : Int32)), (.int (99 : Int32)), (.int (111 : Int32)), (.int (100 : Int32)), (.int (101 : Int32))]) (z := (18 : Int32)) ⟨by decide, by decide⟩ (by decide) (by decide) (g := (mkF m 251 (own_AIIIIIIIIIRVU p0 p1 p2 p3 p4 v7 v12 v21 v29 b220 g233) [(.ref b220)])) rfl (hb hby at_251) (n := 72) (by decide) (by decide) (by decide) (by decide)
              have K251 := K233.ext E251
              have Z251 : n0 ≤ h251.size := Nat.le_trans Z233 E251.1
              have CR251 := CR233.trans hC251
              refine own_by st251 ?_
              obtain ⟨tx253, kx253, dx253, nx253, vx253, xe253, xv253, xc253, xk253, xh253, xb253, xl253⟩ := id (⟨t226, kb226, 0, (4 : Int32), _, ((Eq226.keep Kq233).ext E251), ((Vq226.keep Kq233 List.not_mem_nil).ext E251), ((Cq226.keep Kq233 List.not_mem_nil).ext E251), ((Aq226.keep Kq233 List.not_mem_nil).ext E251), StrChars.Road.codOf (n := 4) rfl (fun x hx => (hp226 x hx).2), own_up _ hp226, Nat.le_of_ble_eq_true rfl⟩ : own_Str Z h251 b220 ([v29, k192, k205, k219] : List Int32))
              obtain ⟨ty253, ky253, dy253, ny253, vy253, ye253, yv253, yc253, yk253, yh253, yb253, yl253⟩ := id (⟨lb251, lk251, 0, (18 : Int32), _, lE251, lV251, lC251, lA251, Or.inl ⟨rfl, rfl, rfl, by decide⟩, by decide, by decide⟩ : own_Str Z h251 l251a ([(97 : Int32), (117 : Int32), (116 : Int32), (104 : Int32), (111 : Int32), (114 : Int32), (105 : Int32), (122 : Int32), (97 : Int32), (116 : Int32), (105 : Int32), (111 : Int32), (110 : Int32), (95 : Int32), (99 : Int32), (111 : Int32), (100 : Int32), (101 : Int32)] : List Int32))
              obtain ⟨cq253, kq253, q253a, q253b, q253c⟩ := isOf hZ251 e251 ((Eq226.keep Kq233).ext E251)
              obtain ⟨_, _, ⟨T253, L253, k253, n253⟩, -, X253, ⟨Lc253, hQ253, l253, y253, z253⟩, st253⟩ := X251.virtualBack hx (y := (⟨"java/lang/String", "equals", "(Ljava/lang/Object;)Z"⟩ : MethodName)) (z := (⟨"java/lang/String", "equals", "(Ljava/lang/Object;)Z"⟩ : MethodName)) hown251 (mvT hZ251 (hw _ (List.mem_of_getElem? (i := 71) rfl))) (mvT hZ251 (hw _ (List.mem_of_getElem? (i := 59) rfl))) (notFace_of_selects (args := #[]) (mvT hZ251 (hw _ (List.mem_of_getElem? (i := 61) rfl)))) (mvT hZ251 (hw _ (List.mem_of_getElem? (i := 61) rfl))) (mvT hZ251 (hw _ (List.mem_of_getElem? (i := 60) rfl))) (by decide) (StrChars.Road.eqW (W := 0) hZ251 heq (kI := 4) (hw _ (List.mem_of_getElem? (i := 2) rfl)) xe253 xv253 xc253 xk253 xh253 xb253 xl253 ye253 yv253 yc253 yk253 yh253 yb253 yl253 (O2.ext (((((((((O.ext E170).wr W179 g_b170).wr W192 g_b170).wr W205 g_b170).wr W219 g_b170).ext E220).keep Kq226 (allS g_b220 all0)).keep Kq233 all0).ext E251).2) P5 (by decide) (by decide)) q253a q253c (g := (mkF m 253 (own_AIIIIIIIIIRVU p0 p1 p2 p3 p4 v7 v12 v21 v29 b220 g233) [(.ref l251a), (.ref b220)])) rfl (by rw [hml]; rfl) (Steps.refl _) (argsL := [(.ref l251a)]) (rest := []) (lenOf pd_0_3 rfl) rfl (by show 2 * 0 + _ ≤ _; exact Nat.le_of_eq rfl) (hb hby at_253) (fun _ _ => ⟨rfl, e251, (by decide : 6 + 0 ≤ _), (by decide : 90 + 0 ≤ _)⟩)
              dsimp only [Pt.U, Pt.locs, Pt.cells, Pt.slots] at X253 l253 y253 z253 st253 hQ253
              subst l253 y253 z253
              obtain ⟨hv253, rfl, hq253⟩ := hQ253
              obtain rfl := own_eqv hv253
              have N253 := Fr.app N233 (Fr.nil n0)
              obtain ⟨c253, hc253⟩ : ∃ z : Int32, z = (if ([v29, k192, k205, k219] : List Int32) = ([(97 : Int32), (117 : Int32), (116 : Int32), (104 : Int32), (111 : Int32), (114 : Int32), (105 : Int32), (122 : Int32), (97 : Int32), (116 : Int32), (105 : Int32), (111 : Int32), (110 : Int32), (95 : Int32), (99 : Int32), (111 : Int32), (100 : Int32), (101 : Int32)] : List Int32) then (1 : Int32) else (0 : Int32)) := ⟨_, rfl⟩
              rw [← hc253] at st253
              refine own_by (fun t k => st253.trans k) ?_
              by_cases hc256 : c253 = (0 : Int32)
              · have sg269 : ∀ t, own_S p e below T253 (mkF m 269 (own_AIIIIIIIIIRVU p0 p1 p2 p3 p4 v7 v12 v21 v29 b220 g233) [(.ref b220)]) t → own_S p e below T253 (mkF m 256 (own_AIIIIIIIIIRVU p0 p1 p2 p3 p4 v7 v12 v21 v29 b220 g233) [(.int c253)]) t := by
                  intro t k
                  show own_S p e below T253 (mkF m 256 (own_AIIIIIIIIIRVU p0 p1 p2 p3 p4 v7 v12 v21 v29 b220 g233) [(.int c253)]) _
                  refine XS.ifYes X253.here hx rfl (pc0 := 256) (pc' := 267) rfl (hb hby at_256) rfl ((if0 _ _).trans (teq hc256).1) (by decide) (by decide) ?_
                  show own_S p e below T253 (mkF m 267 (own_AIIIIIIIIIRVU p0 p1 p2 p3 p4 v7 v12 v21 v29 b220 g233) []) _
                  refine XS.aload X253.here hx rfl (hb hby at_267) rfl rfl ?_
                  exact k
                refine own_by sg269 ?_
                obtain ⟨l269a, T269, h269, ks269, lb269, lk269, X269, e269, E269, hS269, hk269, hZ269, hown269, lE269, lC269, lV269, lA269, la1269, la2269, hC269, -, hsf269, st269⟩ := ldcCH X253 hx hZ251 hown251 (hw _ (List.mem_of_getElem? (i := 72) rfl)) wS hq253 hS251 hk251 hEL (by decide) hC251.1 (vs := [(.int (99 : Int32)), (.int (108 : Int32)), (.int (105 : Int32)), (.int (101 : Int32)), (.int (110 : Int32)), (.int (116 : Int32)), (.int (95 : Int32)), (.int (99 : Int32)), (.int (114 : Int32)), (.int (101 : Int32)), (.int (100 : Int32)), (.int (101 : Int32)), (.int (110 : Int32)), (.int (116 : Int32)), (.int (105 : Int32)), (.int (97 : Int32)), (.int (108 : Int32)), (.int (115 : Int32))]) (z := (18 : Int32)) ⟨by decide, by decide⟩ (by decide) (by decide) (g := (mkF m 269 (own_AIIIIIIIIIRVU p0 p1 p2 p3 p4 v7 v12 v21 v29 b220 g233) [(.ref b220)])) rfl (hb hby at_269) (n := 72) (by decide) (by decide) (by decide) (by decide)
                have K269 := K251.ext E269
                have Z269 : n0 ≤ h269.size := Nat.le_trans Z251 E269.1
                have CR269 := CR251.trans hC269
                refine own_by st269 ?_
                obtain ⟨tx271, kx271, dx271, nx271, vx271, xe271, xv271, xc271, xk271, xh271, xb271, xl271⟩ := id (⟨t226, kb226, 0, (4 : Int32), _, (((Eq226.keep Kq233).ext E251).ext E269), (((Vq226.keep Kq233 List.not_mem_nil).ext E251).ext E269), (((Cq226.keep Kq233 List.not_mem_nil).ext E251).ext E269), (((Aq226.keep Kq233 List.not_mem_nil).ext E251).ext E269), StrChars.Road.codOf (n := 4) rfl (fun x hx => (hp226 x hx).2), own_up _ hp226, Nat.le_of_ble_eq_true rfl⟩ : own_Str Z h269 b220 ([v29, k192, k205, k219] : List Int32))
                obtain ⟨ty271, ky271, dy271, ny271, vy271, ye271, yv271, yc271, yk271, yh271, yb271, yl271⟩ := id (⟨lb269, lk269, 0, (18 : Int32), _, lE269, lV269, lC269, lA269, Or.inl ⟨rfl, rfl, rfl, by decide⟩, by decide, by decide⟩ : own_Str Z h269 l269a ([(99 : Int32), (108 : Int32), (105 : Int32), (101 : Int32), (110 : Int32), (116 : Int32), (95 : Int32), (99 : Int32), (114 : Int32), (101 : Int32), (100 : Int32), (101 : Int32), (110 : Int32), (116 : Int32), (105 : Int32), (97 : Int32), (108 : Int32), (115 : Int32)] : List Int32))
                obtain ⟨cq271, kq271, q271a, q271b, q271c⟩ := isOf hZ269 e269 (((Eq226.keep Kq233).ext E251).ext E269)
                obtain ⟨_, _, ⟨T271, L271, k271, n271⟩, -, X271, ⟨Lc271, hQ271, l271, y271, z271⟩, st271⟩ := X269.virtualBack hx (y := (⟨"java/lang/String", "equals", "(Ljava/lang/Object;)Z"⟩ : MethodName)) (z := (⟨"java/lang/String", "equals", "(Ljava/lang/Object;)Z"⟩ : MethodName)) hown269 (mvT hZ269 (hw _ (List.mem_of_getElem? (i := 71) rfl))) (mvT hZ269 (hw _ (List.mem_of_getElem? (i := 59) rfl))) (notFace_of_selects (args := #[]) (mvT hZ269 (hw _ (List.mem_of_getElem? (i := 61) rfl)))) (mvT hZ269 (hw _ (List.mem_of_getElem? (i := 61) rfl))) (mvT hZ269 (hw _ (List.mem_of_getElem? (i := 60) rfl))) (by decide) (StrChars.Road.eqW (W := 0) hZ269 heq (kI := 4) (hw _ (List.mem_of_getElem? (i := 2) rfl)) xe271 xv271 xc271 xk271 xh271 xb271 xl271 ye271 yv271 yc271 yk271 yh271 yb271 yl271 (O2.ext ((((((((((O.ext E170).wr W179 g_b170).wr W192 g_b170).wr W205 g_b170).wr W219 g_b170).ext E220).keep Kq226 (allS g_b220 all0)).keep Kq233 all0).ext E251).ext E269).2) P5 (by decide) (by decide)) q271a q271c (g := (mkF m 271 (own_AIIIIIIIIIRVU p0 p1 p2 p3 p4 v7 v12 v21 v29 b220 g233) [(.ref l269a), (.ref b220)])) rfl (by rw [hml]; rfl) (Steps.refl _) (argsL := [(.ref l269a)]) (rest := []) (lenOf pd_0_3 rfl) rfl (by show 2 * 0 + _ ≤ _; exact Nat.le_of_eq rfl) (hb hby at_271) (fun _ _ => ⟨rfl, e269, (by decide : 8 + 0 ≤ _), (by decide : 166 + 0 ≤ _)⟩)
                dsimp only [Pt.U, Pt.locs, Pt.cells, Pt.slots] at X271 l271 y271 z271 st271 hQ271
                subst l271 y271 z271
                obtain ⟨hv271, rfl, hq271⟩ := hQ271
                obtain rfl := own_eqv hv271
                have N271 := Fr.app N253 (Fr.nil n0)
                obtain ⟨c271, hc271⟩ : ∃ z : Int32, z = (if ([v29, k192, k205, k219] : List Int32) = ([(99 : Int32), (108 : Int32), (105 : Int32), (101 : Int32), (110 : Int32), (116 : Int32), (95 : Int32), (99 : Int32), (114 : Int32), (101 : Int32), (100 : Int32), (101 : Int32), (110 : Int32), (116 : Int32), (105 : Int32), (97 : Int32), (108 : Int32), (115 : Int32)] : List Int32) then (1 : Int32) else (0 : Int32)) := ⟨_, rfl⟩
                rw [← hc271] at st271
                refine own_by (fun t k => st271.trans k) ?_
                by_cases hc274 : c271 = (0 : Int32)
                · have sg300 : ∀ t, own_S p e below T271 (mkF m 300 (own_AIIIIIIIIIRVN p0 p1 p2 p3 p4 v7 v12 v21 v29 b220 g233) [(.int (1 : Int32))]) t → own_S p e below T271 (mkF m 274 (own_AIIIIIIIIIRVU p0 p1 p2 p3 p4 v7 v12 v21 v29 b220 g233) [(.int c271)]) t := by
                    intro t k
                    show own_S p e below T271 (mkF m 274 (own_AIIIIIIIIIRVU p0 p1 p2 p3 p4 v7 v12 v21 v29 b220 g233) [(.int c271)]) _
                    refine XS.ifYes X271.here hx rfl (pc0 := 274) (pc' := 285) rfl (hb hby at_274) rfl ((if0 _ _).trans (teq hc274).1) (by decide) (by decide) ?_
                    show own_S p e below T271 (mkF m 285 (own_AIIIIIIIIIRVU p0 p1 p2 p3 p4 v7 v12 v21 v29 b220 g233) []) _
                    refine XS.aconstNull X271.here hx rfl (hb hby at_285) ?_
                    show own_S p e below T271 (mkF m 286 (own_AIIIIIIIIIRVU p0 p1 p2 p3 p4 v7 v12 v21 v29 b220 g233) [.null]) _
                    refine XS.astore X271.here hx rfl (hb hby at_286) rfl rfl (l' := (own_AIIIIIIIIIRVN p0 p1 p2 p3 p4 v7 v12 v21 v29 b220 g233)) rfl ?_
                    show own_S p e below T271 (mkF m 288 (own_AIIIIIIIIIRVN p0 p1 p2 p3 p4 v7 v12 v21 v29 b220 g233) []) _
                    refine XS.aload X271.here hx rfl (hb hby at_288) rfl hgr233 ?_
                    show own_S p e below T271 (mkF m 290 (own_AIIIIIIIIIRVN p0 p1 p2 p3 p4 v7 v12 v21 v29 b220 g233) [g233]) _
                    refine XS.aload X271.here hx rfl (hb hby at_290) rfl rfl ?_
                    show own_S p e below T271 (mkF m 292 (own_AIIIIIIIIIRVN p0 p1 p2 p3 p4 v7 v12 v21 v29 b220 g233) [.null, g233]) _
                    refine Jvm.RoadKit.acmp (g := (mkF m 292 (own_AIIIIIIIIIRVN p0 p1 p2 p3 p4 v7 v12 v21 v29 b220 g233) [.null, g233])) X271 hx rfl hgr233 rfl (pc0 := 292) (pc' := 295) (same := true) rfl (hb hby at_292) rfl (decide_eq_true (by rw [hg233, if_neg (fun q => own_if0 hc253 hc256 q.symm), if_neg (fun q => own_if0 hc271 hc274 q.symm)] : (g233 : Value) = .null)) (by decide) (by decide) ?_
                    show own_S p e below T271 (mkF m 295 (own_AIIIIIIIIIRVN p0 p1 p2 p3 p4 v7 v12 v21 v29 b220 g233) []) _
                    refine XS.iconst X271.here hx rfl (hb hby at_295) ?_
                    show own_S p e below T271 (mkF m 296 (own_AIIIIIIIIIRVN p0 p1 p2 p3 p4 v7 v12 v21 v29 b220 g233) [(.int (1 : Int32))]) _
                    refine XS.goto X271.here hx rfl (pc0 := 296) (pc' := 300) rfl (hb hby at_296) (by decide) (by decide) ?_
                    exact k
                  refine own_by sg300 ?_
                  obtain ⟨fs, hr, hrun, hended, hW⟩ := X271.leaveW hS269 (by rw [hq271]; exact hk269) (v := some (.int (1 : Int32))) (fun h => by rw [Bd.returns] at h; cases h)
                  refine ⟨_, _, ?_, hrun, hended, _, _, rfl, ?_, (by rw [hh]; show CHr Z consts_1 s.vm h0 T271.vm T271.heap; rw [hq271]; exact CR269.trans (CHv.at X271 hZ269 hEL hC269.1)), hW.1, hW.2.1, hW.2.2.1, hW.2.2.2.mono (by decide) (by decide)⟩
                  · exact retN X271 hx (t := .boolean) Bd.returns (by simp) (hb hby at_300) hr
                  · show Q0 Z p0 p1 p2 p3 p4 wV cl wAUTHORIZATION_CODE wCLIENT_CREDENTIALS sAUTHORIZATION_CODE sCLIENT_CREDENTIALS gz h0 n0 _ T271.heap _
                    rw [hq271]
                    exact ⟨rfl, N271⟩
                · have sg277 : ∀ t, own_S p e below T271 (mkF m 277 (own_AIIIIIIIIIRVU p0 p1 p2 p3 p4 v7 v12 v21 v29 b220 g233) []) t → own_S p e below T271 (mkF m 274 (own_AIIIIIIIIIRVU p0 p1 p2 p3 p4 v7 v12 v21 v29 b220 g233) [(.int c271)]) t := by
                    intro t k
                    show own_S p e below T271 (mkF m 274 (own_AIIIIIIIIIRVU p0 p1 p2 p3 p4 v7 v12 v21 v29 b220 g233) [(.int c271)]) _
                    refine XS.ifNo X271.here hx rfl (hb hby at_274) rfl ((if0 _ _).trans (feq hc274).1) ?_
                    exact k
                  refine own_by sg277 ?_
                  obtain ⟨T277, X277, e277, st277⟩ := getS2 X271 hx hZ269 hown269 (host := "") (Or.inl (hw _ (List.mem_of_getElem? (i := 73) rfl))) Via.refl hq271 (S_CLIENT_CREDENTIALS.ext ((((((((((O.ext E170).wr W179 g_b170).wr W192 g_b170).wr W205 g_b170).wr W219 g_b170).ext E220).keep Kq226 (allS g_b220 all0)).keep Kq233 all0).ext E251).ext E269).2) (g := (mkF m 277 (own_AIIIIIIIIIRVU p0 p1 p2 p3 p4 v7 v12 v21 v29 b220 g233) [])) rfl (hb hby at_277)
                  refine own_by st277 ?_
                  have sg300 : ∀ t, own_S p e below T277 (mkF m 300 (own_AIIIIIIIIIRVR p0 p1 p2 p3 p4 v7 v12 v21 v29 b220 g233 wCLIENT_CREDENTIALS) [(.int (1 : Int32))]) t → own_S p e below T277 (mkF m 280 (own_AIIIIIIIIIRVU p0 p1 p2 p3 p4 v7 v12 v21 v29 b220 g233) [(.ref wCLIENT_CREDENTIALS)]) t := by
                    intro t k
                    show own_S p e below T277 (mkF m 280 (own_AIIIIIIIIIRVU p0 p1 p2 p3 p4 v7 v12 v21 v29 b220 g233) [(.ref wCLIENT_CREDENTIALS)]) _
                    refine XS.astore X277.here hx rfl (hb hby at_280) rfl rfl (l' := (own_AIIIIIIIIIRVR p0 p1 p2 p3 p4 v7 v12 v21 v29 b220 g233 wCLIENT_CREDENTIALS)) rfl ?_
                    show own_S p e below T277 (mkF m 282 (own_AIIIIIIIIIRVR p0 p1 p2 p3 p4 v7 v12 v21 v29 b220 g233 wCLIENT_CREDENTIALS) []) _
                    refine XS.goto X277.here hx rfl (pc0 := 282) (pc' := 288) rfl (hb hby at_282) (by decide) (by decide) ?_
                    show own_S p e below T277 (mkF m 288 (own_AIIIIIIIIIRVR p0 p1 p2 p3 p4 v7 v12 v21 v29 b220 g233 wCLIENT_CREDENTIALS) []) _
                    refine XS.aload X277.here hx rfl (hb hby at_288) rfl hgr233 ?_
                    show own_S p e below T277 (mkF m 290 (own_AIIIIIIIIIRVR p0 p1 p2 p3 p4 v7 v12 v21 v29 b220 g233 wCLIENT_CREDENTIALS) [g233]) _
                    refine XS.aload X277.here hx rfl (hb hby at_290) rfl rfl ?_
                    show own_S p e below T277 (mkF m 292 (own_AIIIIIIIIIRVR p0 p1 p2 p3 p4 v7 v12 v21 v29 b220 g233 wCLIENT_CREDENTIALS) [(.ref wCLIENT_CREDENTIALS), g233]) _
                    refine Jvm.RoadKit.acmp (g := (mkF m 292 (own_AIIIIIIIIIRVR p0 p1 p2 p3 p4 v7 v12 v21 v29 b220 g233 wCLIENT_CREDENTIALS) [(.ref wCLIENT_CREDENTIALS), g233])) X277 hx rfl hgr233 rfl (pc0 := 292) (pc' := 295) (same := true) rfl (hb hby at_292) rfl (decide_eq_true (by rw [hg233, if_neg (fun q => own_if0 hc253 hc256 q.symm), if_pos (own_if1 hc271 hc274).symm] : (g233 : Value) = (.ref wCLIENT_CREDENTIALS))) (by decide) (by decide) ?_
                    show own_S p e below T277 (mkF m 295 (own_AIIIIIIIIIRVR p0 p1 p2 p3 p4 v7 v12 v21 v29 b220 g233 wCLIENT_CREDENTIALS) []) _
                    refine XS.iconst X277.here hx rfl (hb hby at_295) ?_
                    show own_S p e below T277 (mkF m 296 (own_AIIIIIIIIIRVR p0 p1 p2 p3 p4 v7 v12 v21 v29 b220 g233 wCLIENT_CREDENTIALS) [(.int (1 : Int32))]) _
                    refine XS.goto X277.here hx rfl (pc0 := 296) (pc' := 300) rfl (hb hby at_296) (by decide) (by decide) ?_
                    exact k
                  refine own_by sg300 ?_
                  obtain ⟨fs, hr, hrun, hended, hW⟩ := X277.leaveW hS269 (by rw [e277]; exact hk269) (v := some (.int (1 : Int32))) (fun h => by rw [Bd.returns] at h; cases h)
                  refine ⟨_, _, ?_, hrun, hended, _, _, rfl, ?_, (by rw [hh]; show CHr Z consts_1 s.vm h0 T277.vm T277.heap; rw [e277]; exact CR269.trans (CHv.at X277 hZ269 hEL hC269.1)), hW.1, hW.2.1, hW.2.2.1, hW.2.2.2.mono (by decide) (by decide)⟩
                  · exact retN X277 hx (t := .boolean) Bd.returns (by simp) (hb hby at_300) hr
                  · show Q0 Z p0 p1 p2 p3 p4 wV cl wAUTHORIZATION_CODE wCLIENT_CREDENTIALS sAUTHORIZATION_CODE sCLIENT_CREDENTIALS gz h0 n0 _ T277.heap _
                    rw [e277]
                    exact ⟨rfl, N271⟩
              · have sg259 : ∀ t, own_S p e below T253 (mkF m 259 (own_AIIIIIIIIIRVU p0 p1 p2 p3 p4 v7 v12 v21 v29 b220 g233) []) t → own_S p e below T253 (mkF m 256 (own_AIIIIIIIIIRVU p0 p1 p2 p3 p4 v7 v12 v21 v29 b220 g233) [(.int c253)]) t := by
                  intro t k
                  show own_S p e below T253 (mkF m 256 (own_AIIIIIIIIIRVU p0 p1 p2 p3 p4 v7 v12 v21 v29 b220 g233) [(.int c253)]) _
                  refine XS.ifNo X253.here hx rfl (hb hby at_256) rfl ((if0 _ _).trans (feq hc256).1) ?_
                  exact k
                refine own_by sg259 ?_
                obtain ⟨T259, X259, e259, st259⟩ := getS2 X253 hx hZ251 hown251 (host := "") (Or.inl (hw _ (List.mem_of_getElem? (i := 80) rfl))) Via.refl hq253 (S_AUTHORIZATION_CODE.ext (((((((((O.ext E170).wr W179 g_b170).wr W192 g_b170).wr W205 g_b170).wr W219 g_b170).ext E220).keep Kq226 (allS g_b220 all0)).keep Kq233 all0).ext E251).2) (g := (mkF m 259 (own_AIIIIIIIIIRVU p0 p1 p2 p3 p4 v7 v12 v21 v29 b220 g233) [])) rfl (hb hby at_259)
                refine own_by st259 ?_
                have sg300 : ∀ t, own_S p e below T259 (mkF m 300 (own_AIIIIIIIIIRVR p0 p1 p2 p3 p4 v7 v12 v21 v29 b220 g233 wAUTHORIZATION_CODE) [(.int (1 : Int32))]) t → own_S p e below T259 (mkF m 262 (own_AIIIIIIIIIRVU p0 p1 p2 p3 p4 v7 v12 v21 v29 b220 g233) [(.ref wAUTHORIZATION_CODE)]) t := by
                  intro t k
                  show own_S p e below T259 (mkF m 262 (own_AIIIIIIIIIRVU p0 p1 p2 p3 p4 v7 v12 v21 v29 b220 g233) [(.ref wAUTHORIZATION_CODE)]) _
                  refine XS.astore X259.here hx rfl (hb hby at_262) rfl rfl (l' := (own_AIIIIIIIIIRVR p0 p1 p2 p3 p4 v7 v12 v21 v29 b220 g233 wAUTHORIZATION_CODE)) rfl ?_
                  show own_S p e below T259 (mkF m 264 (own_AIIIIIIIIIRVR p0 p1 p2 p3 p4 v7 v12 v21 v29 b220 g233 wAUTHORIZATION_CODE) []) _
                  refine XS.goto X259.here hx rfl (pc0 := 264) (pc' := 288) rfl (hb hby at_264) (by decide) (by decide) ?_
                  show own_S p e below T259 (mkF m 288 (own_AIIIIIIIIIRVR p0 p1 p2 p3 p4 v7 v12 v21 v29 b220 g233 wAUTHORIZATION_CODE) []) _
                  refine XS.aload X259.here hx rfl (hb hby at_288) rfl hgr233 ?_
                  show own_S p e below T259 (mkF m 290 (own_AIIIIIIIIIRVR p0 p1 p2 p3 p4 v7 v12 v21 v29 b220 g233 wAUTHORIZATION_CODE) [g233]) _
                  refine XS.aload X259.here hx rfl (hb hby at_290) rfl rfl ?_
                  show own_S p e below T259 (mkF m 292 (own_AIIIIIIIIIRVR p0 p1 p2 p3 p4 v7 v12 v21 v29 b220 g233 wAUTHORIZATION_CODE) [(.ref wAUTHORIZATION_CODE), g233]) _
                  refine Jvm.RoadKit.acmp (g := (mkF m 292 (own_AIIIIIIIIIRVR p0 p1 p2 p3 p4 v7 v12 v21 v29 b220 g233 wAUTHORIZATION_CODE) [(.ref wAUTHORIZATION_CODE), g233])) X259 hx rfl hgr233 rfl (pc0 := 292) (pc' := 295) (same := true) rfl (hb hby at_292) rfl (decide_eq_true (by rw [hg233, if_pos (own_if1 hc253 hc256).symm] : (g233 : Value) = (.ref wAUTHORIZATION_CODE))) (by decide) (by decide) ?_
                  show own_S p e below T259 (mkF m 295 (own_AIIIIIIIIIRVR p0 p1 p2 p3 p4 v7 v12 v21 v29 b220 g233 wAUTHORIZATION_CODE) []) _
                  refine XS.iconst X259.here hx rfl (hb hby at_295) ?_
                  show own_S p e below T259 (mkF m 296 (own_AIIIIIIIIIRVR p0 p1 p2 p3 p4 v7 v12 v21 v29 b220 g233 wAUTHORIZATION_CODE) [(.int (1 : Int32))]) _
                  refine XS.goto X259.here hx rfl (pc0 := 296) (pc' := 300) rfl (hb hby at_296) (by decide) (by decide) ?_
                  exact k
                refine own_by sg300 ?_
                obtain ⟨fs, hr, hrun, hended, hW⟩ := X259.leaveW hS251 (by rw [e259]; exact hk251) (v := some (.int (1 : Int32))) (fun h => by rw [Bd.returns] at h; cases h)
                refine ⟨_, _, ?_, hrun, hended, _, _, rfl, ?_, (by rw [hh]; show CHr Z consts_1 s.vm h0 T259.vm T259.heap; rw [e259]; exact CR251.trans (CHv.at X259 hZ251 hEL hC251.1)), hW.1, hW.2.1, hW.2.2.1, hW.2.2.2.mono (by decide) (by decide)⟩
                · exact retN X259 hx (t := .boolean) Bd.returns (by simp) (hb hby at_300) hr
                · show Q0 Z p0 p1 p2 p3 p4 wV cl wAUTHORIZATION_CODE wCLIENT_CREDENTIALS sAUTHORIZATION_CODE sCLIENT_CREDENTIALS gz h0 n0 _ T259.heap _
                  rw [e259]
                  exact ⟨rfl, N253⟩
            · have sg154 : ∀ t, own_S p e below s₁ (mkF m 154 (own_AIIIIIIIIIUUU p0 p1 p2 p3 p4 v7 v12 v21 v29) []) t → own_S p e below s₁ (mkF m 151 (own_AIIIIIIIIIUUU p0 p1 p2 p3 p4 v7 v12 v21 v29) [(.int (p4 &&& (1 : Int32)))]) t := by
                intro t k
                show own_S p e below s₁ (mkF m 151 (own_AIIIIIIIIIUUU p0 p1 p2 p3 p4 v7 v12 v21 v29) [(.int (p4 &&& (1 : Int32)))]) _
                refine XS.ifNo X0.here hx rfl (hb hby at_151) rfl ((if0 _ _).trans (feq hc151).1) ?_
                exact k
              refine own_by sg154 ?_
              obtain ⟨T154, h154, X154, e154, E154, A154, D154, -, st154⟩ := newO X0 hx hZ hown (hw _ (List.mem_of_getElem? (i := 1) rfl)) (hw _ (List.mem_of_getElem? (i := 2) rfl)) (hw _ (List.mem_of_getElem? (i := 3) rfl)) e0 (g := (mkF m 154 (own_AIIIIIIIIIUUU p0 p1 p2 p3 p4 v7 v12 v21 v29) [])) rfl (hb hby at_154) (by decide) (by decide)
              obtain ⟨b154, g154⟩ : ∃ z, z = h0.size := ⟨_, rfl⟩
              rw [← g154] at A154 D154 st154
              have g_b154 : n0 ≤ b154 := Nat.le_trans Z0 (Nat.le_of_eq g154.symm)
              have sz_b154 : h0.size ≤ b154 := Nat.le_trans K0.1 (Nat.le_of_eq g154.symm)
              have K154 := K0.ext E154
              have Z154 : n0 ≤ h154.size := Nat.le_trans Z0 E154.1
              have CC154 := CHr.ext E154 hH0
              have CR154 := (CHr.refl hH0).trans CC154
              have F_coder_b154 : Fld Z h154 b154 "java/lang/String" "coder" "B" (.int (0 : Int32)) := D154 (Or.inr (hw _ (List.mem_of_getElem? (i := 32) rfl))) (ty := .byte) (by decide)
              have F_value_b154 : Fld Z h154 b154 "java/lang/String" "value" "[B" .null := D154 (Or.inr (hw _ (List.mem_of_getElem? (i := 34) rfl))) (ty := (.array .byte)) (by decide)
              refine own_by st154 ?_
              have sg159 : ∀ t, own_S p e below T154 (mkF m 159 (own_AIIIIIIIIIUUU p0 p1 p2 p3 p4 v7 v12 v21 v29) [(.int (0 : Int32)), (.ref b154), (.ref b154)]) t → own_S p e below T154 (mkF m 157 (own_AIIIIIIIIIUUU p0 p1 p2 p3 p4 v7 v12 v21 v29) [(.ref b154)]) t := by
                intro t k
                show own_S p e below T154 (mkF m 157 (own_AIIIIIIIIIUUU p0 p1 p2 p3 p4 v7 v12 v21 v29) [(.ref b154)]) _
                refine XS.dup X154.here hx rfl (hb hby at_157) rfl rfl ?_
                show own_S p e below T154 (mkF m 158 (own_AIIIIIIIIIUUU p0 p1 p2 p3 p4 v7 v12 v21 v29) [(.ref b154), (.ref b154)]) _
                refine XS.iconst X154.here hx rfl (hb hby at_158) ?_
                exact k
              refine own_by sg159 ?_
              obtain ⟨T159, h159, kc159, X159, e159, E159, A159, st159⟩ := newP X154 hx hZ (hw _ (List.mem_of_getElem? (i := 8) rfl)) e154 (g := (mkF m 159 (own_AIIIIIIIIIUUU p0 p1 p2 p3 p4 v7 v12 v21 v29) [(.int (0 : Int32)), (.ref b154), (.ref b154)])) rfl (hb hby at_159) rfl (by decide) (cap := 0) (by decide) (by decide) (by decide) (by decide)
              obtain ⟨b159, g159⟩ : ∃ z, z = h154.size := ⟨_, rfl⟩
              rw [← g159] at A159 st159
              have ne_b154_b159 : b154 ≠ b159 := Nat.ne_of_lt (Nat.lt_of_lt_of_le A154.lt (Nat.le_of_eq g159.symm))
              have g_b159 : n0 ≤ b159 := Nat.le_trans Z154 (Nat.le_of_eq g159.symm)
              have sz_b159 : h0.size ≤ b159 := Nat.le_trans K154.1 (Nat.le_of_eq g159.symm)
              have K159 := K154.ext E159
              have Z159 : n0 ≤ h159.size := Nat.le_trans Z154 E159.1
              have CC159 := CHr.ext E159 CC154.1
              have CR159 := CR154.trans CC159
              have V159 : Arv Z h159 b159 kc159 .char (0 : Int32) [] (.int (0 : Int32)) := Arv.new A159 (by decide)
              refine own_by st159 ?_
              obtain ⟨cz161, Arz161, -, Sz161, -⟩ := id V159
              have Hz161 : cz161.slots.size = 0 := Sz161
              obtain ⟨_, _, ⟨T161, L161, k161, n161⟩, -, Xc161, hSc161, hgc161, ⟨Lc161, hQ161, l161, y161, z161, hC161⟩, st161⟩ := X159.specialBackS hx (y := (⟨"java/lang/String", "<init>", "([C)V"⟩ : MethodName)) rfl hown (mvT hZ (hw _ (List.mem_of_getElem? (i := 9) rfl))) (mvT hZ (hw _ (List.mem_of_getElem? (i := 10) rfl))) (mvT hZ (hw _ (List.mem_of_getElem? (i := 11) rfl))) (by decide) (backOfSH (W := 1) (rm2e l Z a0 hw [] b154 b159 cz161 h159 n0 Z159 (A154.ext E159) (F_value_b154.ext E159) (F_coder_b154.ext E159) g_b154 Arz161 Hz161) hZ (hw _ (List.mem_of_getElem? (i := 11) rfl)) (hw _ (List.mem_of_getElem? (i := 3) rfl)) (by decide) (by decide) hEL CC159.1) (g := (mkF m 161 (own_AIIIIIIIIIUUU p0 p1 p2 p3 p4 v7 v12 v21 v29) [(.ref b159), (.ref b154), (.ref b154)])) rfl (by rw [hml]; rfl) (Steps.refl _) (a := b154) (argsL := [(.ref b159)]) (rest := [(.ref b154)]) (lenOf pd_0_1 rfl) rfl (by show 2 * 0 + _ ≤ _; exact Nat.le_of_eq rfl) (hb hby at_161) (fun _ _ => ⟨rfl, e159, (by decide : 2 + 4 ≤ _), (by decide : 4 + 8 ≤ _)⟩)
              dsimp only [Pt.U, Pt.locs, Pt.cells, Pt.slots] at Xc161 hSc161 hgc161
              obtain ⟨X161, hS161, hZ161, hown161⟩ := rebS hS0 (by rw [e159]; exact (Nat.le_trans (Nat.le_trans (Nat.zero_le _) E154.1) E159.1)) Xc161 hSc161 hgc161 hZ hown
              dsimp only [Pt.U, Pt.locs, Pt.cells, Pt.slots] at X161 l161 y161 z161 st161 hQ161
              subst l161 y161 z161
              obtain ⟨rfl, N161q, Kq161, Sq161⟩ := hQ161
              have N161 := Fr.app N0 N161q
              have fc := (V159.keep Kq161 (fun h => (Ne.symm ne_b154_b159) (List.mem_singleton.mp h)))
              have K161 : Keep h0 T161.heap [] := K159.trans Kq161 (fun x hx => by cases List.mem_singleton.mp hx; exact Or.inr sz_b154)
              have Z161 : n0 ≤ T161.heap.size := Nat.le_trans Z159 Kq161.1
              have CR161 := CR159.trans hC161
              refine own_by (fun t k => st161.trans k) ?_
              have sg233 : ∀ t, own_S p e below T161 (mkF m 233 (own_AIIIIIIIIIRUU p0 p1 p2 p3 p4 v7 v12 v21 v29 b154) [(.ref b154)]) t → own_S p e below T161 (mkF m 164 (own_AIIIIIIIIIUUU p0 p1 p2 p3 p4 v7 v12 v21 v29) [(.ref b154)]) t := by
                intro t k
                show own_S p e below T161 (mkF m 164 (own_AIIIIIIIIIUUU p0 p1 p2 p3 p4 v7 v12 v21 v29) [(.ref b154)]) _
                refine XS.astore X161.here hx rfl (hb hby at_164) rfl rfl (l' := (own_AIIIIIIIIIRUU p0 p1 p2 p3 p4 v7 v12 v21 v29 b154)) rfl ?_
                show own_S p e below T161 (mkF m 166 (own_AIIIIIIIIIRUU p0 p1 p2 p3 p4 v7 v12 v21 v29 b154) []) _
                refine XS.goto X161.here hx rfl (pc0 := 166) (pc' := 231) rfl (hb hby at_166) (by decide) (by decide) ?_
                show own_S p e below T161 (mkF m 231 (own_AIIIIIIIIIRUU p0 p1 p2 p3 p4 v7 v12 v21 v29 b154) []) _
                refine XS.aload X161.here hx rfl (hb hby at_231) rfl rfl ?_
                exact k
              refine own_by sg233 ?_
              obtain ⟨_, _, ⟨T233, L233, k233, n233⟩, -, X233, ⟨Lc233, hQ233, l233, y233, z233⟩, st233⟩ := Jvm.LawKit.callS X161 hx (y := (⟨"com/example/writd/writd/model/GrantType", "fromValue", "(Ljava/lang/String;)Lcom/example/writd/writd/model/GrantType;"⟩ : MethodName)) hown161 (mvT hZ161 (hw _ (List.mem_of_getElem? (i := 35) rfl))) (mvT hZ161 (hw _ (List.mem_of_getElem? (i := 36) rfl))) (mvT hZ161 (hw _ (List.mem_of_getElem? (i := 37) rfl))) (mvT hZ161 (hw _ (List.mem_of_getElem? (i := 38) rfl))) (by decide) (backOf (W := 0) (rm8 l Z a0 hw [] b154 ([] : List Int32) wV cl wAUTHORIZATION_CODE wCLIENT_CREDENTIALS sAUTHORIZATION_CODE sCLIENT_CREDENTIALS gz T161.heap n0 Z161 (((O.ext E154).ext E159).keep Kq161 (allS g_b154 all0)) O2 P5 S_V Ar_V E_V FC hsz hat0 hat1 FV_AUTHORIZATION_CODE FV_CLIENT_CREDENTIALS EX_AUTHORIZATION_CODE EX_CLIENT_CREDENTIALS Str_AUTHORIZATION_CODE Str_CLIENT_CREDENTIALS Sq161) hZ161 (hw _ (List.mem_of_getElem? (i := 38) rfl)) (hw _ (List.mem_of_getElem? (i := 37) rfl)) (by decide) (by decide)) (g := (mkF m 233 (own_AIIIIIIIIIRUU p0 p1 p2 p3 p4 v7 v12 v21 v29 b154) [(.ref b154)])) rfl (by rw [hml]; rfl) (argsL := [(.ref b154)]) (rest := []) (lenOf pd_0_2 rfl) rfl (by show 2 * 0 + _ ≤ _; exact Nat.le_of_eq rfl) (hb hby at_233) (fun _ _ => ⟨rfl, rfl, (by decide : 6 + 1 ≤ _), (by decide : 12 + 2 ≤ _)⟩)
              dsimp only [Pt.U, Pt.locs, Pt.cells, Pt.slots] at X233 l233 y233 z233 st233 hQ233
              subst l233 y233 z233
              obtain ⟨rfl, N233q, Kq233⟩ := hQ233
              have N233 := Fr.app N161 N233q
              have K233 : Keep h0 T233.heap [] := K161.trans Kq233 (fun x hx => nomatch hx)
              have Z233 : n0 ≤ T233.heap.size := Nat.le_trans Z161 Kq233.1
              have CC233 := CHr.keep Kq233 sf0 hC161.1
              have CR233 := CR161.trans CC233
              obtain ⟨g233, hg233⟩ : ∃ z : Value, z = (if ([(97 : Int32), (117 : Int32), (116 : Int32), (104 : Int32), (111 : Int32), (114 : Int32), (105 : Int32), (122 : Int32), (97 : Int32), (116 : Int32), (105 : Int32), (111 : Int32), (110 : Int32), (95 : Int32), (99 : Int32), (111 : Int32), (100 : Int32), (101 : Int32)] : List Int32) = ([] : List Int32) then Value.ref wAUTHORIZATION_CODE else (if ([(99 : Int32), (108 : Int32), (105 : Int32), (101 : Int32), (110 : Int32), (116 : Int32), (95 : Int32), (99 : Int32), (114 : Int32), (101 : Int32), (100 : Int32), (101 : Int32), (110 : Int32), (116 : Int32), (105 : Int32), (97 : Int32), (108 : Int32), (115 : Int32)] : List Int32) = ([] : List Int32) then Value.ref wCLIENT_CREDENTIALS else Value.null)) := ⟨_, rfl⟩
              rw [← hg233] at st233
              have hgr233 : g233.isRef = true := by rw [hg233]; repeat' (first | rfl | (refine own_isr rfl ?_))
              refine own_by st233 ?_
              have sg251 : ∀ t, own_S p e below T233 (mkF m 251 (own_AIIIIIIIIIRVU p0 p1 p2 p3 p4 v7 v12 v21 v29 b154 g233) [(.ref b154)]) t → own_S p e below T233 (mkF m 236 (own_AIIIIIIIIIRUU p0 p1 p2 p3 p4 v7 v12 v21 v29 b154) [g233]) t := by
                intro t k
                show own_S p e below T233 (mkF m 236 (own_AIIIIIIIIIRUU p0 p1 p2 p3 p4 v7 v12 v21 v29 b154) [g233]) _
                refine XS.astore X233.here hx rfl (hb hby at_236) rfl hgr233 (l' := (own_AIIIIIIIIIRVU p0 p1 p2 p3 p4 v7 v12 v21 v29 b154 g233)) (by simp [storeLocals, storeSelf, setAt, own_cat1 hgr233, own_catr, own_catn]) ?_
                show own_S p e below T233 (mkF m 238 (own_AIIIIIIIIIRVU p0 p1 p2 p3 p4 v7 v12 v21 v29 b154 g233) []) _
                refine XS.aload X233.here hx rfl (hb hby at_238) rfl rfl ?_
                show own_S p e below T233 (mkF m 240 (own_AIIIIIIIIIRVU p0 p1 p2 p3 p4 v7 v12 v21 v29 b154 g233) [(.ref b154)]) _
                refine XS.ifnonnullYes X233.here hx rfl (pc0 := 240) (pc' := 249) rfl (hb hby at_240) rfl (by decide) (by decide) ?_
                show own_S p e below T233 (mkF m 249 (own_AIIIIIIIIIRVU p0 p1 p2 p3 p4 v7 v12 v21 v29 b154 g233) []) _
                refine XS.aload X233.here hx rfl (hb hby at_249) rfl rfl ?_
                exact k
              refine own_by sg251 ?_
              obtain ⟨l251a, T251, h251, ks251, lb251, lk251, X251, e251, E251, hS251, hk251, hZ251, hown251, lE251, lC251, lV251, lA251, la1251, la2251, hC251, -, hsf251, st251⟩ := ldcCH X233 hx hZ161 hown161 (hw _ (List.mem_of_getElem? (i := 68) rfl)) wS rfl hS161 (Nat.le_trans (Nat.le_refl _) Kq233.1) hEL (by decide) CC233.1 (vs := [(.int (97 : Int32)), (.int (117 : Int32)), (.int (116 : Int32)), (.int (104 : Int32)), (.int (111 : Int32)), (.int (114 : Int32)), (.int (105 : Int32)), (.int (122 : Int32)), (.int (97 : Int32)), (.int (116 : Int32)), (.int (105 : Int32)), (.int (111 : Int32)), (.int (110 : Int32)), (.int (95 : Int32)), (.int (99 : Int32)), (.int (111 : Int32)), (.int (100 : Int32)), (.int (101 : Int32))]) (z := (18 : Int32)) ⟨by decide, by decide⟩ (by decide) (by decide) (g := (mkF m 251 (own_AIIIIIIIIIRVU p0 p1 p2 p3 p4 v7 v12 v21 v29 b154 g233) [(.ref b154)])) rfl (hb hby at_251) (n := 72) (by decide) (by decide) (by decide) (by decide)
              have K251 := K233.ext E251
              have Z251 : n0 ≤ h251.size := Nat.le_trans Z233 E251.1
              have CR251 := CR233.trans hC251
              refine own_by st251 ?_
              obtain ⟨tx253, kx253, dx253, nx253, vx253, xe253, xv253, xc253, xk253, xh253, xb253, xl253⟩ := id ((Sq161.ext (own_kx Kq233)).ext E251)
              obtain ⟨ty253, ky253, dy253, ny253, vy253, ye253, yv253, yc253, yk253, yh253, yb253, yl253⟩ := id (⟨lb251, lk251, 0, (18 : Int32), _, lE251, lV251, lC251, lA251, Or.inl ⟨rfl, rfl, rfl, by decide⟩, by decide, by decide⟩ : own_Str Z h251 l251a ([(97 : Int32), (117 : Int32), (116 : Int32), (104 : Int32), (111 : Int32), (114 : Int32), (105 : Int32), (122 : Int32), (97 : Int32), (116 : Int32), (105 : Int32), (111 : Int32), (110 : Int32), (95 : Int32), (99 : Int32), (111 : Int32), (100 : Int32), (101 : Int32)] : List Int32))
              obtain ⟨cq253, kq253, q253a, q253b, q253c⟩ := isOf hZ251 e251 ((((A154.ext E159).keep Kq161).keep Kq233).ext E251)
              obtain ⟨_, _, ⟨T253, L253, k253, n253⟩, -, X253, ⟨Lc253, hQ253, l253, y253, z253⟩, st253⟩ := X251.virtualBack hx (y := (⟨"java/lang/String", "equals", "(Ljava/lang/Object;)Z"⟩ : MethodName)) (z := (⟨"java/lang/String", "equals", "(Ljava/lang/Object;)Z"⟩ : MethodName)) hown251 (mvT hZ251 (hw _ (List.mem_of_getElem? (i := 71) rfl))) (mvT hZ251 (hw _ (List.mem_of_getElem? (i := 59) rfl))) (notFace_of_selects (args := #[]) (mvT hZ251 (hw _ (List.mem_of_getElem? (i := 61) rfl)))) (mvT hZ251 (hw _ (List.mem_of_getElem? (i := 61) rfl))) (mvT hZ251 (hw _ (List.mem_of_getElem? (i := 60) rfl))) (by decide) (StrChars.Road.eqW (W := 0) hZ251 heq (kI := 4) (hw _ (List.mem_of_getElem? (i := 2) rfl)) xe253 xv253 xc253 xk253 xh253 xb253 xl253 ye253 yv253 yc253 yk253 yh253 yb253 yl253 (O2.ext (((((O.ext E154).ext E159).keep Kq161 (allS g_b154 all0)).keep Kq233 all0).ext E251).2) P5 (by decide) (by decide)) q253a q253c (g := (mkF m 253 (own_AIIIIIIIIIRVU p0 p1 p2 p3 p4 v7 v12 v21 v29 b154 g233) [(.ref l251a), (.ref b154)])) rfl (by rw [hml]; rfl) (Steps.refl _) (argsL := [(.ref l251a)]) (rest := []) (lenOf pd_0_3 rfl) rfl (by show 2 * 0 + _ ≤ _; exact Nat.le_of_eq rfl) (hb hby at_253) (fun _ _ => ⟨rfl, e251, (by decide : 9 + 0 ≤ _), (by decide : 90 + 0 ≤ _)⟩)
              dsimp only [Pt.U, Pt.locs, Pt.cells, Pt.slots] at X253 l253 y253 z253 st253 hQ253
              subst l253 y253 z253
              obtain ⟨hv253, rfl, hq253⟩ := hQ253
              obtain rfl := own_eqv hv253
              have N253 := Fr.app N233 (Fr.nil n0)
              obtain ⟨c253, hc253⟩ : ∃ z : Int32, z = (if ([] : List Int32) = ([(97 : Int32), (117 : Int32), (116 : Int32), (104 : Int32), (111 : Int32), (114 : Int32), (105 : Int32), (122 : Int32), (97 : Int32), (116 : Int32), (105 : Int32), (111 : Int32), (110 : Int32), (95 : Int32), (99 : Int32), (111 : Int32), (100 : Int32), (101 : Int32)] : List Int32) then (1 : Int32) else (0 : Int32)) := ⟨_, rfl⟩
              rw [← hc253] at st253
              refine own_by (fun t k => st253.trans k) ?_
              by_cases hc256 : c253 = (0 : Int32)
              · have sg269 : ∀ t, own_S p e below T253 (mkF m 269 (own_AIIIIIIIIIRVU p0 p1 p2 p3 p4 v7 v12 v21 v29 b154 g233) [(.ref b154)]) t → own_S p e below T253 (mkF m 256 (own_AIIIIIIIIIRVU p0 p1 p2 p3 p4 v7 v12 v21 v29 b154 g233) [(.int c253)]) t := by
                  intro t k
                  show own_S p e below T253 (mkF m 256 (own_AIIIIIIIIIRVU p0 p1 p2 p3 p4 v7 v12 v21 v29 b154 g233) [(.int c253)]) _
                  refine XS.ifYes X253.here hx rfl (pc0 := 256) (pc' := 267) rfl (hb hby at_256) rfl ((if0 _ _).trans (teq hc256).1) (by decide) (by decide) ?_
                  show own_S p e below T253 (mkF m 267 (own_AIIIIIIIIIRVU p0 p1 p2 p3 p4 v7 v12 v21 v29 b154 g233) []) _
                  refine XS.aload X253.here hx rfl (hb hby at_267) rfl rfl ?_
                  exact k
                refine own_by sg269 ?_
                obtain ⟨l269a, T269, h269, ks269, lb269, lk269, X269, e269, E269, hS269, hk269, hZ269, hown269, lE269, lC269, lV269, lA269, la1269, la2269, hC269, -, hsf269, st269⟩ := ldcCH X253 hx hZ251 hown251 (hw _ (List.mem_of_getElem? (i := 72) rfl)) wS hq253 hS251 hk251 hEL (by decide) hC251.1 (vs := [(.int (99 : Int32)), (.int (108 : Int32)), (.int (105 : Int32)), (.int (101 : Int32)), (.int (110 : Int32)), (.int (116 : Int32)), (.int (95 : Int32)), (.int (99 : Int32)), (.int (114 : Int32)), (.int (101 : Int32)), (.int (100 : Int32)), (.int (101 : Int32)), (.int (110 : Int32)), (.int (116 : Int32)), (.int (105 : Int32)), (.int (97 : Int32)), (.int (108 : Int32)), (.int (115 : Int32))]) (z := (18 : Int32)) ⟨by decide, by decide⟩ (by decide) (by decide) (g := (mkF m 269 (own_AIIIIIIIIIRVU p0 p1 p2 p3 p4 v7 v12 v21 v29 b154 g233) [(.ref b154)])) rfl (hb hby at_269) (n := 72) (by decide) (by decide) (by decide) (by decide)
                have fc_2 := (((((A154.ext E159).keep Kq161).keep Kq233).ext E251).ext E269)
                have K269 := K251.ext E269
                have Z269 : n0 ≤ h269.size := Nat.le_trans Z251 E269.1
                have CR269 := CR251.trans hC269
                refine own_by st269 ?_
                obtain ⟨tx271, kx271, dx271, nx271, vx271, xe271, xv271, xc271, xk271, xh271, xb271, xl271⟩ := id (((Sq161.ext (own_kx Kq233)).ext E251).ext E269)
                obtain ⟨ty271, ky271, dy271, ny271, vy271, ye271, yv271, yc271, yk271, yh271, yb271, yl271⟩ := id (⟨lb269, lk269, 0, (18 : Int32), _, lE269, lV269, lC269, lA269, Or.inl ⟨rfl, rfl, rfl, by decide⟩, by decide, by decide⟩ : own_Str Z h269 l269a ([(99 : Int32), (108 : Int32), (105 : Int32), (101 : Int32), (110 : Int32), (116 : Int32), (95 : Int32), (99 : Int32), (114 : Int32), (101 : Int32), (100 : Int32), (101 : Int32), (110 : Int32), (116 : Int32), (105 : Int32), (97 : Int32), (108 : Int32), (115 : Int32)] : List Int32))
                obtain ⟨cq271, kq271, q271a, q271b, q271c⟩ := isOf hZ269 e269 fc_2
                obtain ⟨_, _, ⟨T271, L271, k271, n271⟩, -, X271, ⟨Lc271, hQ271, l271, y271, z271⟩, st271⟩ := X269.virtualBack hx (y := (⟨"java/lang/String", "equals", "(Ljava/lang/Object;)Z"⟩ : MethodName)) (z := (⟨"java/lang/String", "equals", "(Ljava/lang/Object;)Z"⟩ : MethodName)) hown269 (mvT hZ269 (hw _ (List.mem_of_getElem? (i := 71) rfl))) (mvT hZ269 (hw _ (List.mem_of_getElem? (i := 59) rfl))) (notFace_of_selects (args := #[]) (mvT hZ269 (hw _ (List.mem_of_getElem? (i := 61) rfl)))) (mvT hZ269 (hw _ (List.mem_of_getElem? (i := 61) rfl))) (mvT hZ269 (hw _ (List.mem_of_getElem? (i := 60) rfl))) (by decide) (StrChars.Road.eqW (W := 0) hZ269 heq (kI := 4) (hw _ (List.mem_of_getElem? (i := 2) rfl)) xe271 xv271 xc271 xk271 xh271 xb271 xl271 ye271 yv271 yc271 yk271 yh271 yb271 yl271 (O2.ext ((((((O.ext E154).ext E159).keep Kq161 (allS g_b154 all0)).keep Kq233 all0).ext E251).ext E269).2) P5 (by decide) (by decide)) q271a q271c (g := (mkF m 271 (own_AIIIIIIIIIRVU p0 p1 p2 p3 p4 v7 v12 v21 v29 b154 g233) [(.ref l269a), (.ref b154)])) rfl (by rw [hml]; rfl) (Steps.refl _) (argsL := [(.ref l269a)]) (rest := []) (lenOf pd_0_3 rfl) rfl (by show 2 * 0 + _ ≤ _; exact Nat.le_of_eq rfl) (hb hby at_271) (fun _ _ => ⟨rfl, e269, (by decide : 11 + 0 ≤ _), (by decide : 166 + 0 ≤ _)⟩)
                dsimp only [Pt.U, Pt.locs, Pt.cells, Pt.slots] at X271 l271 y271 z271 st271 hQ271
                subst l271 y271 z271
                obtain ⟨hv271, rfl, hq271⟩ := hQ271
                obtain rfl := own_eqv hv271
                have N271 := Fr.app N253 (Fr.nil n0)
                obtain ⟨c271, hc271⟩ : ∃ z : Int32, z = (if ([] : List Int32) = ([(99 : Int32), (108 : Int32), (105 : Int32), (101 : Int32), (110 : Int32), (116 : Int32), (95 : Int32), (99 : Int32), (114 : Int32), (101 : Int32), (100 : Int32), (101 : Int32), (110 : Int32), (116 : Int32), (105 : Int32), (97 : Int32), (108 : Int32), (115 : Int32)] : List Int32) then (1 : Int32) else (0 : Int32)) := ⟨_, rfl⟩
                rw [← hc271] at st271
                refine own_by (fun t k => st271.trans k) ?_
                by_cases hc274 : c271 = (0 : Int32)
                · have sg300 : ∀ t, own_S p e below T271 (mkF m 300 (own_AIIIIIIIIIRVN p0 p1 p2 p3 p4 v7 v12 v21 v29 b154 g233) [(.int (1 : Int32))]) t → own_S p e below T271 (mkF m 274 (own_AIIIIIIIIIRVU p0 p1 p2 p3 p4 v7 v12 v21 v29 b154 g233) [(.int c271)]) t := by
                    intro t k
                    show own_S p e below T271 (mkF m 274 (own_AIIIIIIIIIRVU p0 p1 p2 p3 p4 v7 v12 v21 v29 b154 g233) [(.int c271)]) _
                    refine XS.ifYes X271.here hx rfl (pc0 := 274) (pc' := 285) rfl (hb hby at_274) rfl ((if0 _ _).trans (teq hc274).1) (by decide) (by decide) ?_
                    show own_S p e below T271 (mkF m 285 (own_AIIIIIIIIIRVU p0 p1 p2 p3 p4 v7 v12 v21 v29 b154 g233) []) _
                    refine XS.aconstNull X271.here hx rfl (hb hby at_285) ?_
                    show own_S p e below T271 (mkF m 286 (own_AIIIIIIIIIRVU p0 p1 p2 p3 p4 v7 v12 v21 v29 b154 g233) [.null]) _
                    refine XS.astore X271.here hx rfl (hb hby at_286) rfl rfl (l' := (own_AIIIIIIIIIRVN p0 p1 p2 p3 p4 v7 v12 v21 v29 b154 g233)) rfl ?_
                    show own_S p e below T271 (mkF m 288 (own_AIIIIIIIIIRVN p0 p1 p2 p3 p4 v7 v12 v21 v29 b154 g233) []) _
                    refine XS.aload X271.here hx rfl (hb hby at_288) rfl hgr233 ?_
                    show own_S p e below T271 (mkF m 290 (own_AIIIIIIIIIRVN p0 p1 p2 p3 p4 v7 v12 v21 v29 b154 g233) [g233]) _
                    refine XS.aload X271.here hx rfl (hb hby at_290) rfl rfl ?_
                    show own_S p e below T271 (mkF m 292 (own_AIIIIIIIIIRVN p0 p1 p2 p3 p4 v7 v12 v21 v29 b154 g233) [.null, g233]) _
                    refine Jvm.RoadKit.acmp (g := (mkF m 292 (own_AIIIIIIIIIRVN p0 p1 p2 p3 p4 v7 v12 v21 v29 b154 g233) [.null, g233])) X271 hx rfl hgr233 rfl (pc0 := 292) (pc' := 295) (same := true) rfl (hb hby at_292) rfl (decide_eq_true (by rw [hg233, if_neg (fun q => own_if0 hc253 hc256 q.symm), if_neg (fun q => own_if0 hc271 hc274 q.symm)] : (g233 : Value) = .null)) (by decide) (by decide) ?_
                    show own_S p e below T271 (mkF m 295 (own_AIIIIIIIIIRVN p0 p1 p2 p3 p4 v7 v12 v21 v29 b154 g233) []) _
                    refine XS.iconst X271.here hx rfl (hb hby at_295) ?_
                    show own_S p e below T271 (mkF m 296 (own_AIIIIIIIIIRVN p0 p1 p2 p3 p4 v7 v12 v21 v29 b154 g233) [(.int (1 : Int32))]) _
                    refine XS.goto X271.here hx rfl (pc0 := 296) (pc' := 300) rfl (hb hby at_296) (by decide) (by decide) ?_
                    exact k
                  refine own_by sg300 ?_
                  obtain ⟨fs, hr, hrun, hended, hW⟩ := X271.leaveW hS269 (by rw [hq271]; exact hk269) (v := some (.int (1 : Int32))) (fun h => by rw [Bd.returns] at h; cases h)
                  refine ⟨_, _, ?_, hrun, hended, _, _, rfl, ?_, (by rw [hh]; show CHr Z consts_1 s.vm h0 T271.vm T271.heap; rw [hq271]; exact CR269.trans (CHv.at X271 hZ269 hEL hC269.1)), hW.1, hW.2.1, hW.2.2.1, hW.2.2.2.mono (by decide) (by decide)⟩
                  · exact retN X271 hx (t := .boolean) Bd.returns (by simp) (hb hby at_300) hr
                  · show Q0 Z p0 p1 p2 p3 p4 wV cl wAUTHORIZATION_CODE wCLIENT_CREDENTIALS sAUTHORIZATION_CODE sCLIENT_CREDENTIALS gz h0 n0 _ T271.heap _
                    rw [hq271]
                    exact ⟨rfl, N271⟩
                · have sg277 : ∀ t, own_S p e below T271 (mkF m 277 (own_AIIIIIIIIIRVU p0 p1 p2 p3 p4 v7 v12 v21 v29 b154 g233) []) t → own_S p e below T271 (mkF m 274 (own_AIIIIIIIIIRVU p0 p1 p2 p3 p4 v7 v12 v21 v29 b154 g233) [(.int c271)]) t := by
                    intro t k
                    show own_S p e below T271 (mkF m 274 (own_AIIIIIIIIIRVU p0 p1 p2 p3 p4 v7 v12 v21 v29 b154 g233) [(.int c271)]) _
                    refine XS.ifNo X271.here hx rfl (hb hby at_274) rfl ((if0 _ _).trans (feq hc274).1) ?_
                    exact k
                  refine own_by sg277 ?_
                  obtain ⟨T277, X277, e277, st277⟩ := getS2 X271 hx hZ269 hown269 (host := "") (Or.inl (hw _ (List.mem_of_getElem? (i := 73) rfl))) Via.refl hq271 (S_CLIENT_CREDENTIALS.ext ((((((O.ext E154).ext E159).keep Kq161 (allS g_b154 all0)).keep Kq233 all0).ext E251).ext E269).2) (g := (mkF m 277 (own_AIIIIIIIIIRVU p0 p1 p2 p3 p4 v7 v12 v21 v29 b154 g233) [])) rfl (hb hby at_277)
                  refine own_by st277 ?_
                  have sg300 : ∀ t, own_S p e below T277 (mkF m 300 (own_AIIIIIIIIIRVR p0 p1 p2 p3 p4 v7 v12 v21 v29 b154 g233 wCLIENT_CREDENTIALS) [(.int (1 : Int32))]) t → own_S p e below T277 (mkF m 280 (own_AIIIIIIIIIRVU p0 p1 p2 p3 p4 v7 v12 v21 v29 b154 g233) [(.ref wCLIENT_CREDENTIALS)]) t := by
                    intro t k
                    show own_S p e below T277 (mkF m 280 (own_AIIIIIIIIIRVU p0 p1 p2 p3 p4 v7 v12 v21 v29 b154 g233) [(.ref wCLIENT_CREDENTIALS)]) _
                    refine XS.astore X277.here hx rfl (hb hby at_280) rfl rfl (l' := (own_AIIIIIIIIIRVR p0 p1 p2 p3 p4 v7 v12 v21 v29 b154 g233 wCLIENT_CREDENTIALS)) rfl ?_
                    show own_S p e below T277 (mkF m 282 (own_AIIIIIIIIIRVR p0 p1 p2 p3 p4 v7 v12 v21 v29 b154 g233 wCLIENT_CREDENTIALS) []) _
                    refine XS.goto X277.here hx rfl (pc0 := 282) (pc' := 288) rfl (hb hby at_282) (by decide) (by decide) ?_
                    show own_S p e below T277 (mkF m 288 (own_AIIIIIIIIIRVR p0 p1 p2 p3 p4 v7 v12 v21 v29 b154 g233 wCLIENT_CREDENTIALS) []) _
                    refine XS.aload X277.here hx rfl (hb hby at_288) rfl hgr233 ?_
                    show own_S p e below T277 (mkF m 290 (own_AIIIIIIIIIRVR p0 p1 p2 p3 p4 v7 v12 v21 v29 b154 g233 wCLIENT_CREDENTIALS) [g233]) _
                    refine XS.aload X277.here hx rfl (hb hby at_290) rfl rfl ?_
                    show own_S p e below T277 (mkF m 292 (own_AIIIIIIIIIRVR p0 p1 p2 p3 p4 v7 v12 v21 v29 b154 g233 wCLIENT_CREDENTIALS) [(.ref wCLIENT_CREDENTIALS), g233]) _
                    refine Jvm.RoadKit.acmp (g := (mkF m 292 (own_AIIIIIIIIIRVR p0 p1 p2 p3 p4 v7 v12 v21 v29 b154 g233 wCLIENT_CREDENTIALS) [(.ref wCLIENT_CREDENTIALS), g233])) X277 hx rfl hgr233 rfl (pc0 := 292) (pc' := 295) (same := true) rfl (hb hby at_292) rfl (decide_eq_true (by rw [hg233, if_neg (fun q => own_if0 hc253 hc256 q.symm), if_pos (own_if1 hc271 hc274).symm] : (g233 : Value) = (.ref wCLIENT_CREDENTIALS))) (by decide) (by decide) ?_
                    show own_S p e below T277 (mkF m 295 (own_AIIIIIIIIIRVR p0 p1 p2 p3 p4 v7 v12 v21 v29 b154 g233 wCLIENT_CREDENTIALS) []) _
                    refine XS.iconst X277.here hx rfl (hb hby at_295) ?_
                    show own_S p e below T277 (mkF m 296 (own_AIIIIIIIIIRVR p0 p1 p2 p3 p4 v7 v12 v21 v29 b154 g233 wCLIENT_CREDENTIALS) [(.int (1 : Int32))]) _
                    refine XS.goto X277.here hx rfl (pc0 := 296) (pc' := 300) rfl (hb hby at_296) (by decide) (by decide) ?_
                    exact k
                  refine own_by sg300 ?_
                  obtain ⟨fs, hr, hrun, hended, hW⟩ := X277.leaveW hS269 (by rw [e277]; exact hk269) (v := some (.int (1 : Int32))) (fun h => by rw [Bd.returns] at h; cases h)
                  refine ⟨_, _, ?_, hrun, hended, _, _, rfl, ?_, (by rw [hh]; show CHr Z consts_1 s.vm h0 T277.vm T277.heap; rw [e277]; exact CR269.trans (CHv.at X277 hZ269 hEL hC269.1)), hW.1, hW.2.1, hW.2.2.1, hW.2.2.2.mono (by decide) (by decide)⟩
                  · exact retN X277 hx (t := .boolean) Bd.returns (by simp) (hb hby at_300) hr
                  · show Q0 Z p0 p1 p2 p3 p4 wV cl wAUTHORIZATION_CODE wCLIENT_CREDENTIALS sAUTHORIZATION_CODE sCLIENT_CREDENTIALS gz h0 n0 _ T277.heap _
                    rw [e277]
                    exact ⟨rfl, N271⟩
              · have sg259 : ∀ t, own_S p e below T253 (mkF m 259 (own_AIIIIIIIIIRVU p0 p1 p2 p3 p4 v7 v12 v21 v29 b154 g233) []) t → own_S p e below T253 (mkF m 256 (own_AIIIIIIIIIRVU p0 p1 p2 p3 p4 v7 v12 v21 v29 b154 g233) [(.int c253)]) t := by
                  intro t k
                  show own_S p e below T253 (mkF m 256 (own_AIIIIIIIIIRVU p0 p1 p2 p3 p4 v7 v12 v21 v29 b154 g233) [(.int c253)]) _
                  refine XS.ifNo X253.here hx rfl (hb hby at_256) rfl ((if0 _ _).trans (feq hc256).1) ?_
                  exact k
                refine own_by sg259 ?_
                obtain ⟨T259, X259, e259, st259⟩ := getS2 X253 hx hZ251 hown251 (host := "") (Or.inl (hw _ (List.mem_of_getElem? (i := 80) rfl))) Via.refl hq253 (S_AUTHORIZATION_CODE.ext (((((O.ext E154).ext E159).keep Kq161 (allS g_b154 all0)).keep Kq233 all0).ext E251).2) (g := (mkF m 259 (own_AIIIIIIIIIRVU p0 p1 p2 p3 p4 v7 v12 v21 v29 b154 g233) [])) rfl (hb hby at_259)
                refine own_by st259 ?_
                have sg300 : ∀ t, own_S p e below T259 (mkF m 300 (own_AIIIIIIIIIRVR p0 p1 p2 p3 p4 v7 v12 v21 v29 b154 g233 wAUTHORIZATION_CODE) [(.int (1 : Int32))]) t → own_S p e below T259 (mkF m 262 (own_AIIIIIIIIIRVU p0 p1 p2 p3 p4 v7 v12 v21 v29 b154 g233) [(.ref wAUTHORIZATION_CODE)]) t := by
                  intro t k
                  show own_S p e below T259 (mkF m 262 (own_AIIIIIIIIIRVU p0 p1 p2 p3 p4 v7 v12 v21 v29 b154 g233) [(.ref wAUTHORIZATION_CODE)]) _
                  refine XS.astore X259.here hx rfl (hb hby at_262) rfl rfl (l' := (own_AIIIIIIIIIRVR p0 p1 p2 p3 p4 v7 v12 v21 v29 b154 g233 wAUTHORIZATION_CODE)) rfl ?_
                  show own_S p e below T259 (mkF m 264 (own_AIIIIIIIIIRVR p0 p1 p2 p3 p4 v7 v12 v21 v29 b154 g233 wAUTHORIZATION_CODE) []) _
                  refine XS.goto X259.here hx rfl (pc0 := 264) (pc' := 288) rfl (hb hby at_264) (by decide) (by decide) ?_
                  show own_S p e below T259 (mkF m 288 (own_AIIIIIIIIIRVR p0 p1 p2 p3 p4 v7 v12 v21 v29 b154 g233 wAUTHORIZATION_CODE) []) _
                  refine XS.aload X259.here hx rfl (hb hby at_288) rfl hgr233 ?_
                  show own_S p e below T259 (mkF m 290 (own_AIIIIIIIIIRVR p0 p1 p2 p3 p4 v7 v12 v21 v29 b154 g233 wAUTHORIZATION_CODE) [g233]) _
                  refine XS.aload X259.here hx rfl (hb hby at_290) rfl rfl ?_
                  show own_S p e below T259 (mkF m 292 (own_AIIIIIIIIIRVR p0 p1 p2 p3 p4 v7 v12 v21 v29 b154 g233 wAUTHORIZATION_CODE) [(.ref wAUTHORIZATION_CODE), g233]) _
                  refine Jvm.RoadKit.acmp (g := (mkF m 292 (own_AIIIIIIIIIRVR p0 p1 p2 p3 p4 v7 v12 v21 v29 b154 g233 wAUTHORIZATION_CODE) [(.ref wAUTHORIZATION_CODE), g233])) X259 hx rfl hgr233 rfl (pc0 := 292) (pc' := 295) (same := true) rfl (hb hby at_292) rfl (decide_eq_true (by rw [hg233, if_pos (own_if1 hc253 hc256).symm] : (g233 : Value) = (.ref wAUTHORIZATION_CODE))) (by decide) (by decide) ?_
                  show own_S p e below T259 (mkF m 295 (own_AIIIIIIIIIRVR p0 p1 p2 p3 p4 v7 v12 v21 v29 b154 g233 wAUTHORIZATION_CODE) []) _
                  refine XS.iconst X259.here hx rfl (hb hby at_295) ?_
                  show own_S p e below T259 (mkF m 296 (own_AIIIIIIIIIRVR p0 p1 p2 p3 p4 v7 v12 v21 v29 b154 g233 wAUTHORIZATION_CODE) [(.int (1 : Int32))]) _
                  refine XS.goto X259.here hx rfl (pc0 := 296) (pc' := 300) rfl (hb hby at_296) (by decide) (by decide) ?_
                  exact k
                refine own_by sg300 ?_
                obtain ⟨fs, hr, hrun, hended, hW⟩ := X259.leaveW hS251 (by rw [e259]; exact hk251) (v := some (.int (1 : Int32))) (fun h => by rw [Bd.returns] at h; cases h)
                refine ⟨_, _, ?_, hrun, hended, _, _, rfl, ?_, (by rw [hh]; show CHr Z consts_1 s.vm h0 T259.vm T259.heap; rw [e259]; exact CR251.trans (CHv.at X259 hZ251 hEL hC251.1)), hW.1, hW.2.1, hW.2.2.1, hW.2.2.2.mono (by decide) (by decide)⟩
                · exact retN X259 hx (t := .boolean) Bd.returns (by simp) (hb hby at_300) hr
                · show Q0 Z p0 p1 p2 p3 p4 wV cl wAUTHORIZATION_CODE wCLIENT_CREDENTIALS sAUTHORIZATION_CODE sCLIENT_CREDENTIALS gz h0 n0 _ T259.heap _
                  rw [e259]
                  exact ⟨rfl, N253⟩
set_option maxRecDepth 65536 in
set_option maxHeartbeats 40000000 in
theorem comes_1 {Post : Tables → Env → Array Value → State → Outcome → State → Prop} (hpost : ∀ tb e args s v u, (limb_1_1.after args s (.returned v) u = true ∧ limb_1_2.after args s (.returned v) u = true ∧ True) → ReturnedEndW s (.returned v) u (Jvm.fieldLocs frame_1_writes args s ++ Jvm.arrayLocs frame_1_arrays args s ++ Jvm.staticLocs frame_1_statics s) 24 3264 → Post tb e args s (.returned v) u) :
    ArmFor flags0 classFile x code maxLocals ret World_1 tables_1 room_1 Calls_1 rest_1 Pre_1 Post := by
  intro l hfl _ _ p e ha hc hk s m args below hf hA hF happ hP
  obtain ⟨hcalls, hrest, hpre⟩ := hP
  obtain ⟨-, -, -, hnamed, -, -, -, hat⟩ := (Spec.applies_iff hf).mp happ
  obtain ⟨hg, nn⟩ := and_e (Cond.before_iff.mp (show (Jvm.Cond.and given_1 narrow_1).before args s = true from hpre))
  obtain ⟨hh0, hh1⟩ := and_e hg
  obtain ⟨hh2, hh3⟩ := and_e hh1
  obtain ⟨hh4, hh5⟩ := and_e hh3
  obtain ⟨hh6, hh7⟩ := and_e hh5
  obtain ⟨hh8, hh9⟩ := and_e hh7
  obtain ⟨w0, w1, w2, w3, w4, rfl⟩ : ∃ w0 w1 w2 w3 w4 : Value, args = #[w0, w1, w2, w3, w4] := by
    have hs : args.size = 5 := by simpa [Cond.value, given_1] using hh0
    obtain ⟨L⟩ := args
    match L, hs with
    | [w0, w1, w2, w3, w4], _ => exact ⟨w0, w1, w2, w3, w4, rfl⟩
  have hw := fun d (hd : d ∈ tables_1) => atoms_spec (ws := Jvm.Cond.code x code maxLocals ret :: tables_1) hat d (List.mem_cons_of_mem _ hd)
  have hfit : Fit s := fun {y c} hc i hi => by
    obtain ⟨ha, rfl⟩ := Array.getElem?_eq_some_iff.mp hc
    have q := List.all_eq_true.mp ((Array.all_eq_true_iff_forall_mem.mp hF) _ (Array.getElem_mem ha)) i (List.mem_range.mpr hi)
    simpa [Array.getElem?_eq_getElem hi] using q
  obtain ⟨hsets, hown0⟩ := atoms_of _ (rest_1_c_eq ▸ (show rest_1_c.before _ s = true from hrest))
  have hr0 := Cond.before_iff.mp hown0
  obtain ⟨gz, ez⟩ := is_v (Cond.before_iff.mp (hsets _ (List.mem_of_getElem? (i := 1) rfl)))
  have Sz : Sta s s.heap "java/lang/String" "COMPACT_STRINGS" "Z" (.int gz) := Sta.start ez (Or.inl (hsets _ (List.mem_of_getElem? (i := 0) rfl)))
  have cz : ¬ (gz = (0 : Int32)) := gotF (Cond.eq_ints ez (Term.int_eval (0))) (not_v (Cond.before_iff.mp (hsets _ (List.mem_of_getElem? (i := 2) rfl))))
  obtain ⟨gf, ef, rf⟩ := isR_v (Cond.before_iff.mp (hsets _ (List.mem_of_getElem? (i := 8) rfl)))
  have Sf : Sta s s.heap "jdk/internal/util/Preconditions" "SIOOBE_FORMATTER" "Ljava/util/function/BiFunction;" gf := Sta.start ef (Or.inl (hsets _ (List.mem_of_getElem? (i := 7) rfl)))
  obtain ⟨i0, ei0⟩ := is_v hh2
  obtain rfl : w0 = (.int i0) := Option.some.inj ei0
  obtain ⟨i1, ei1⟩ := is_v hh4
  obtain rfl : w1 = (.int i1) := Option.some.inj ei1
  obtain ⟨i2, ei2⟩ := is_v hh6
  obtain rfl : w2 = (.int i2) := Option.some.inj ei2
  obtain ⟨i3, ei3⟩ := is_v hh8
  obtain rfl : w3 = (.int i3) := Option.some.inj ei3
  obtain ⟨i4, ei4⟩ := is_v hh9
  obtain rfl : w4 = (.int i4) := Option.some.inj ei4
  obtain ⟨nn0, nn1⟩ := and_e nn
  obtain ⟨nn2, nn3⟩ := and_e nn1
  obtain ⟨nn4, nn5⟩ := and_e nn3
  obtain ⟨nn6, nn7⟩ := and_e nn5
  obtain ⟨nn8, nn9⟩ := and_e nn7
  obtain ⟨nn10, nn11⟩ := and_e nn9
  obtain ⟨nn12, nn13⟩ := and_e nn11
  obtain ⟨nn14, nn15⟩ := and_e nn13
  obtain ⟨nn16, nn17⟩ := and_e nn15
  obtain ⟨nn18, nn19⟩ := and_e nn17
  obtain ⟨nn20, nn21⟩ := and_e nn19
  obtain ⟨nn22, nn23⟩ := and_e nn21
  obtain ⟨nn24, nn25⟩ := and_e nn23
  obtain ⟨nn26, nn27⟩ := and_e nn25
  obtain ⟨nn28, nn29⟩ := and_e nn27
  obtain ⟨nn30, nn31⟩ := and_e nn29
  obtain ⟨nn32, nn33⟩ := and_e nn31
  obtain ⟨nn34, nn35⟩ := and_e nn33
  obtain ⟨nn36, nn37⟩ := and_e nn35
  obtain ⟨nn38, nn39⟩ := and_e nn37
  obtain ⟨nn40, nn41⟩ := and_e nn39
  obtain ⟨nn42, nn43⟩ := and_e nn41
  obtain ⟨nn44, nn45⟩ := and_e nn43
  obtain ⟨nn46, nn47⟩ := and_e nn45
  obtain ⟨nn48, nn49⟩ := and_e nn47
  obtain ⟨nn50, nn51⟩ := and_e nn49
  obtain ⟨nn52, nn53⟩ := and_e nn51
  obtain ⟨nn54, nn55⟩ := and_e nn53
  obtain ⟨nn56, nn57⟩ := and_e nn55
  obtain ⟨nn58, nn59⟩ := and_e nn57
  obtain ⟨nn60, nn61⟩ := and_e nn59
  obtain ⟨nn62, nn63⟩ := and_e nn61
  obtain ⟨nn64, nn65⟩ := and_e nn63
  obtain ⟨nn66, nn67⟩ := and_e nn65
  obtain ⟨nn68, nn69⟩ := and_e nn67
  obtain ⟨nn70, nn71⟩ := and_e nn69
  obtain ⟨nn72, nn73⟩ := and_e nn71
  obtain ⟨nn74, nn75⟩ := and_e nn73
  obtain ⟨nn76, nn77⟩ := and_e nn75
  obtain ⟨nn78, nn79⟩ := and_e nn77
  obtain ⟨nn80, nn81⟩ := and_e nn79
  obtain ⟨nn82, nn83⟩ := and_e nn81
  obtain ⟨nn84, nn85⟩ := and_e nn83
  obtain ⟨nn86, nn87⟩ := and_e nn85
  obtain ⟨nn88, nn89⟩ := and_e nn87
  obtain ⟨nn90, nn91⟩ := and_e nn89
  obtain ⟨nn92, nn93⟩ := and_e nn91
  obtain ⟨nn94, nn95⟩ := and_e nn93
  obtain ⟨nn96, nn97⟩ := and_e nn95
  obtain ⟨nn98, nn99⟩ := and_e nn97
  obtain ⟨u__VALUES, ev_u__VALUES⟩ := exa_v nn2
  have Ex_u__VALUES := Exa.start ev_u__VALUES nn2
  have St_u__VALUES := Sta.start ev_u__VALUES (Or.inr ⟨(hw _ (List.mem_of_getElem? (i := 37) rfl)), (hw _ (List.mem_of_getElem? (i := 43) rfl))⟩)
  obtain ⟨u_AUTHORIZATION_CODE, ev_u_AUTHORIZATION_CODE⟩ := exa_v nn6
  have Ex_u_AUTHORIZATION_CODE := Exa.start ev_u_AUTHORIZATION_CODE nn6
  have St_u_AUTHORIZATION_CODE := Sta.start ev_u_AUTHORIZATION_CODE (Or.inr ⟨(hw _ (List.mem_of_getElem? (i := 37) rfl)), (hw _ (List.mem_of_getElem? (i := 51) rfl))⟩)
  obtain ⟨u_CLIENT_CREDENTIALS, ev_u_CLIENT_CREDENTIALS⟩ := exa_v nn10
  have Ex_u_CLIENT_CREDENTIALS := Exa.start ev_u_CLIENT_CREDENTIALS nn10
  have St_u_CLIENT_CREDENTIALS := Sta.start ev_u_CLIENT_CREDENTIALS (Or.inr ⟨(hw _ (List.mem_of_getElem? (i := 37) rfl)), (hw _ (List.mem_of_getElem? (i := 52) rfl))⟩)
  obtain ⟨uV, evV⟩ := arr_v nn0
  obtain ⟨cl, ArV⟩ := Arr.start evV nn0
  have StV := Sta.start evV (Or.inl (hw _ (List.mem_of_getElem? (i := 53) rfl)))
  have ExV := Exa.start evV nn2
  have hsz : cl.slots.size = 2 := own_len evV ArV (by decide) (own_eqi nn4)
  have hat0 : cl.slots[0]? = some (.ref u_AUTHORIZATION_CODE) := own_elr (by decide) evV ev_u_AUTHORIZATION_CODE ArV.1 nn8
  have hat1 : cl.slots[1]? = some (.ref u_CLIENT_CREDENTIALS) := own_elr (by decide) evV ev_u_CLIENT_CREDENTIALS ArV.1 nn12
  obtain ⟨s_AUTHORIZATION_CODE, es_AUTHORIZATION_CODE⟩ := exa_v nn14
  have Es_AUTHORIZATION_CODE := Exa.start es_AUTHORIZATION_CODE nn14
  have Fv_AUTHORIZATION_CODE := Fld.start ((fld_at ev_u_AUTHORIZATION_CODE).symm.trans es_AUTHORIZATION_CODE)
  have Fc_AUTHORIZATION_CODE := own_fld es_AUTHORIZATION_CODE nn16
  obtain ⟨t_AUTHORIZATION_CODE, et_AUTHORIZATION_CODE⟩ := arr_v nn18
  obtain ⟨c_AUTHORIZATION_CODE, Ac_AUTHORIZATION_CODE⟩ := Arr.start et_AUTHORIZATION_CODE nn18
  have Ft_AUTHORIZATION_CODE := Fld.start ((fld_at es_AUTHORIZATION_CODE).symm.trans et_AUTHORIZATION_CODE)
  have hl_AUTHORIZATION_CODE : c_AUTHORIZATION_CODE.slots.size = 18 := own_len et_AUTHORIZATION_CODE Ac_AUTHORIZATION_CODE (by decide) (own_eqi nn20)
  have Hl_AUTHORIZATION_CODE : HasL c_AUTHORIZATION_CODE 0 [(.int (97 : Int32)), (.int (117 : Int32)), (.int (116 : Int32)), (.int (104 : Int32)), (.int (111 : Int32)), (.int (114 : Int32)), (.int (105 : Int32)), (.int (122 : Int32)), (.int (97 : Int32)), (.int (116 : Int32)), (.int (105 : Int32)), (.int (111 : Int32)), (.int (110 : Int32)), (.int (95 : Int32)), (.int (99 : Int32)), (.int (111 : Int32)), (.int (100 : Int32)), (.int (101 : Int32))] := ⟨(elem_in (own_eqi nn30) et_AUTHORIZATION_CODE (Term.int_eval _) Ac_AUTHORIZATION_CODE.1).2, (elem_in (own_eqi nn32) et_AUTHORIZATION_CODE (Term.int_eval _) Ac_AUTHORIZATION_CODE.1).2, (elem_in (own_eqi nn34) et_AUTHORIZATION_CODE (Term.int_eval _) Ac_AUTHORIZATION_CODE.1).2, (elem_in (own_eqi nn36) et_AUTHORIZATION_CODE (Term.int_eval _) Ac_AUTHORIZATION_CODE.1).2, (elem_in (own_eqi nn38) et_AUTHORIZATION_CODE (Term.int_eval _) Ac_AUTHORIZATION_CODE.1).2, (elem_in (own_eqi nn40) et_AUTHORIZATION_CODE (Term.int_eval _) Ac_AUTHORIZATION_CODE.1).2, (elem_in (own_eqi nn42) et_AUTHORIZATION_CODE (Term.int_eval _) Ac_AUTHORIZATION_CODE.1).2, (elem_in (own_eqi nn44) et_AUTHORIZATION_CODE (Term.int_eval _) Ac_AUTHORIZATION_CODE.1).2, (elem_in (own_eqi nn46) et_AUTHORIZATION_CODE (Term.int_eval _) Ac_AUTHORIZATION_CODE.1).2, (elem_in (own_eqi nn48) et_AUTHORIZATION_CODE (Term.int_eval _) Ac_AUTHORIZATION_CODE.1).2, (elem_in (own_eqi nn50) et_AUTHORIZATION_CODE (Term.int_eval _) Ac_AUTHORIZATION_CODE.1).2, (elem_in (own_eqi nn52) et_AUTHORIZATION_CODE (Term.int_eval _) Ac_AUTHORIZATION_CODE.1).2, (elem_in (own_eqi nn54) et_AUTHORIZATION_CODE (Term.int_eval _) Ac_AUTHORIZATION_CODE.1).2, (elem_in (own_eqi nn56) et_AUTHORIZATION_CODE (Term.int_eval _) Ac_AUTHORIZATION_CODE.1).2, (elem_in (own_eqi nn58) et_AUTHORIZATION_CODE (Term.int_eval _) Ac_AUTHORIZATION_CODE.1).2, (elem_in (own_eqi nn60) et_AUTHORIZATION_CODE (Term.int_eval _) Ac_AUTHORIZATION_CODE.1).2, (elem_in (own_eqi nn62) et_AUTHORIZATION_CODE (Term.int_eval _) Ac_AUTHORIZATION_CODE.1).2, (elem_in (own_eqi nn64) et_AUTHORIZATION_CODE (Term.int_eval _) Ac_AUTHORIZATION_CODE.1).2, trivial⟩
  have Av_AUTHORIZATION_CODE : Arv s s.heap t_AUTHORIZATION_CODE c_AUTHORIZATION_CODE.cls .byte (18 : Int32) [(.int (97 : Int32)), (.int (117 : Int32)), (.int (116 : Int32)), (.int (104 : Int32)), (.int (111 : Int32)), (.int (114 : Int32)), (.int (105 : Int32)), (.int (122 : Int32)), (.int (97 : Int32)), (.int (116 : Int32)), (.int (105 : Int32)), (.int (111 : Int32)), (.int (110 : Int32)), (.int (95 : Int32)), (.int (99 : Int32)), (.int (111 : Int32)), (.int (100 : Int32)), (.int (101 : Int32))] (.int 0) := Arv.start hfit Ac_AUTHORIZATION_CODE (by rw [hl_AUTHORIZATION_CODE]; decide) (by rw [hl_AUTHORIZATION_CODE]; rfl) (by decide) rfl Hl_AUTHORIZATION_CODE
  have Ss_AUTHORIZATION_CODE : own_Str s s.heap s_AUTHORIZATION_CODE ([(97 : Int32), (117 : Int32), (116 : Int32), (104 : Int32), (111 : Int32), (114 : Int32), (105 : Int32), (122 : Int32), (97 : Int32), (116 : Int32), (105 : Int32), (111 : Int32), (110 : Int32), (95 : Int32), (99 : Int32), (111 : Int32), (100 : Int32), (101 : Int32)] : List Int32) := ⟨_, _, _, _, _, Es_AUTHORIZATION_CODE, Ft_AUTHORIZATION_CODE, Fc_AUTHORIZATION_CODE, Av_AUTHORIZATION_CODE, Or.inl ⟨rfl, rfl, rfl, by decide⟩, by decide, by decide⟩
  obtain ⟨s_CLIENT_CREDENTIALS, es_CLIENT_CREDENTIALS⟩ := exa_v nn22
  have Es_CLIENT_CREDENTIALS := Exa.start es_CLIENT_CREDENTIALS nn22
  have Fv_CLIENT_CREDENTIALS := Fld.start ((fld_at ev_u_CLIENT_CREDENTIALS).symm.trans es_CLIENT_CREDENTIALS)
  have Fc_CLIENT_CREDENTIALS := own_fld es_CLIENT_CREDENTIALS nn24
  obtain ⟨t_CLIENT_CREDENTIALS, et_CLIENT_CREDENTIALS⟩ := arr_v nn26
  obtain ⟨c_CLIENT_CREDENTIALS, Ac_CLIENT_CREDENTIALS⟩ := Arr.start et_CLIENT_CREDENTIALS nn26
  have Ft_CLIENT_CREDENTIALS := Fld.start ((fld_at es_CLIENT_CREDENTIALS).symm.trans et_CLIENT_CREDENTIALS)
  have hl_CLIENT_CREDENTIALS : c_CLIENT_CREDENTIALS.slots.size = 18 := own_len et_CLIENT_CREDENTIALS Ac_CLIENT_CREDENTIALS (by decide) (own_eqi nn28)
  have Hl_CLIENT_CREDENTIALS : HasL c_CLIENT_CREDENTIALS 0 [(.int (99 : Int32)), (.int (108 : Int32)), (.int (105 : Int32)), (.int (101 : Int32)), (.int (110 : Int32)), (.int (116 : Int32)), (.int (95 : Int32)), (.int (99 : Int32)), (.int (114 : Int32)), (.int (101 : Int32)), (.int (100 : Int32)), (.int (101 : Int32)), (.int (110 : Int32)), (.int (116 : Int32)), (.int (105 : Int32)), (.int (97 : Int32)), (.int (108 : Int32)), (.int (115 : Int32))] := ⟨(elem_in (own_eqi nn66) et_CLIENT_CREDENTIALS (Term.int_eval _) Ac_CLIENT_CREDENTIALS.1).2, (elem_in (own_eqi nn68) et_CLIENT_CREDENTIALS (Term.int_eval _) Ac_CLIENT_CREDENTIALS.1).2, (elem_in (own_eqi nn70) et_CLIENT_CREDENTIALS (Term.int_eval _) Ac_CLIENT_CREDENTIALS.1).2, (elem_in (own_eqi nn72) et_CLIENT_CREDENTIALS (Term.int_eval _) Ac_CLIENT_CREDENTIALS.1).2, (elem_in (own_eqi nn74) et_CLIENT_CREDENTIALS (Term.int_eval _) Ac_CLIENT_CREDENTIALS.1).2, (elem_in (own_eqi nn76) et_CLIENT_CREDENTIALS (Term.int_eval _) Ac_CLIENT_CREDENTIALS.1).2, (elem_in (own_eqi nn78) et_CLIENT_CREDENTIALS (Term.int_eval _) Ac_CLIENT_CREDENTIALS.1).2, (elem_in (own_eqi nn80) et_CLIENT_CREDENTIALS (Term.int_eval _) Ac_CLIENT_CREDENTIALS.1).2, (elem_in (own_eqi nn82) et_CLIENT_CREDENTIALS (Term.int_eval _) Ac_CLIENT_CREDENTIALS.1).2, (elem_in (own_eqi nn84) et_CLIENT_CREDENTIALS (Term.int_eval _) Ac_CLIENT_CREDENTIALS.1).2, (elem_in (own_eqi nn86) et_CLIENT_CREDENTIALS (Term.int_eval _) Ac_CLIENT_CREDENTIALS.1).2, (elem_in (own_eqi nn88) et_CLIENT_CREDENTIALS (Term.int_eval _) Ac_CLIENT_CREDENTIALS.1).2, (elem_in (own_eqi nn90) et_CLIENT_CREDENTIALS (Term.int_eval _) Ac_CLIENT_CREDENTIALS.1).2, (elem_in (own_eqi nn92) et_CLIENT_CREDENTIALS (Term.int_eval _) Ac_CLIENT_CREDENTIALS.1).2, (elem_in (own_eqi nn94) et_CLIENT_CREDENTIALS (Term.int_eval _) Ac_CLIENT_CREDENTIALS.1).2, (elem_in (own_eqi nn96) et_CLIENT_CREDENTIALS (Term.int_eval _) Ac_CLIENT_CREDENTIALS.1).2, (elem_in (own_eqi nn98) et_CLIENT_CREDENTIALS (Term.int_eval _) Ac_CLIENT_CREDENTIALS.1).2, (elem_in (own_eqi nn99) et_CLIENT_CREDENTIALS (Term.int_eval _) Ac_CLIENT_CREDENTIALS.1).2, trivial⟩
  have Av_CLIENT_CREDENTIALS : Arv s s.heap t_CLIENT_CREDENTIALS c_CLIENT_CREDENTIALS.cls .byte (18 : Int32) [(.int (99 : Int32)), (.int (108 : Int32)), (.int (105 : Int32)), (.int (101 : Int32)), (.int (110 : Int32)), (.int (116 : Int32)), (.int (95 : Int32)), (.int (99 : Int32)), (.int (114 : Int32)), (.int (101 : Int32)), (.int (100 : Int32)), (.int (101 : Int32)), (.int (110 : Int32)), (.int (116 : Int32)), (.int (105 : Int32)), (.int (97 : Int32)), (.int (108 : Int32)), (.int (115 : Int32))] (.int 0) := Arv.start hfit Ac_CLIENT_CREDENTIALS (by rw [hl_CLIENT_CREDENTIALS]; decide) (by rw [hl_CLIENT_CREDENTIALS]; rfl) (by decide) rfl Hl_CLIENT_CREDENTIALS
  have Ss_CLIENT_CREDENTIALS : own_Str s s.heap s_CLIENT_CREDENTIALS ([(99 : Int32), (108 : Int32), (105 : Int32), (101 : Int32), (110 : Int32), (116 : Int32), (95 : Int32), (99 : Int32), (114 : Int32), (101 : Int32), (100 : Int32), (101 : Int32), (110 : Int32), (116 : Int32), (105 : Int32), (97 : Int32), (108 : Int32), (115 : Int32)] : List Int32) := ⟨_, _, _, _, _, Es_CLIENT_CREDENTIALS, Ft_CLIENT_CREDENTIALS, Fc_CLIENT_CREDENTIALS, Av_CLIENT_CREDENTIALS, Or.inl ⟨rfl, rfl, rfl, by decide⟩, by decide, by decide⟩
  have hEL : EW _ _ consts_1 := (EW.cons (hw _ (List.mem_of_getElem? (i := 68) rfl)) (by decide) (EW.cons (hw _ (List.mem_of_getElem? (i := 72) rfl)) (by decide) (EW.cons (hw _ (List.mem_of_getElem? (i := 81) rfl)) (by decide) EW.nil)))
  have hH0 : CHv s consts_1 s.vm s.heap := CHv.start hEL hcalls.1 (hsets _ (List.mem_of_getElem? (i := 2) rfl)) (hw _ (List.mem_of_getElem? (i := 24) rfl)) (hw _ (List.mem_of_getElem? (i := 2) rfl))
  obtain ⟨n, o, h1, h2, h3, _, L, rfl, ⟨rfl, N⟩, -, hq⟩ := rm0 l s _ hw tables_1 i0 i1 i2 i3 i4 uV cl u_AUTHORIZATION_CODE u_CLIENT_CREDENTIALS s_AUTHORIZATION_CODE s_CLIENT_CREDENTIALS gz s.heap s.heap.size (Nat.le_refl _) (Old.start s) Sz cz StV ArV ExV (FitC.start hfit ArV) hsz hat0 hat1 Fv_AUTHORIZATION_CODE Fv_CLIENT_CREDENTIALS Es_AUTHORIZATION_CODE Es_CLIENT_CREDENTIALS Ss_AUTHORIZATION_CODE Ss_CLIENT_CREDENTIALS St_u_AUTHORIZATION_CODE St_u_CLIENT_CREDENTIALS Ex_u_AUTHORIZATION_CODE Ex_u_CLIENT_CREDENTIALS p e ha hc hk s m _ below hf ((Spec.applies_iff_loose hf).mp happ).1 ⟨rfl, State.Warmed39.refl s, rfl, hH0⟩ trivial
  refine ⟨n, _, h1, h2, h3, hpost _ _ _ _ _ _ ⟨Cond.after_iff.mpr rfl, Cond.after_iff.mpr (eq_i res_at (Term.int_eval (1)) rfl), trivial⟩ ⟨hq.1, hq.2.1, hq.2.2.1, (hq.2.2.2.sift fun y hy => Or.inr (N y hy)).mono (by decide) (by decide)⟩⟩
theorem main_1_1 : Claimed_1_1 := comes_1 fun _ _ _ _ _ _ h hF => ⟨h.1, hF⟩
theorem main_1_2 : Claimed_1_2 := comes_1 fun _ _ _ _ _ _ h hF => ⟨h.2.1, hF⟩
end Jvm.Pilot.@@N@@
namespace Jvm.Pilot.@@N@@
open Jvm Jvm.ClassFile Sem Op Lib Jvm.Free Jvm.Stand Jvm.Pilot.@@N@@.Jvm.D
/-! MADE BY PROGRAM (witnessworld.py) out of the Statement's table words and the real class files: 22 classes; the members and pool entries that the words name. The judged class is class 1, her method 1. -/
namespace start1
open Jvm.ClassFile
def u (s : String) : CpInfo := .utf8 (stringToUtf16 s)
/-- a pool by its gaps: so many unusable entries, then the entry; so many at the end -/
def gap : Nat → List CpInfo → List CpInfo
  | 0, r => r
  | n + 1, r => .unusable :: gap n r
def poolList (es : List (Nat × CpInfo)) (last : Nat) : List CpInfo := es.foldr (fun e r => gap e.1 (e.2 :: r)) (gap last [])
def pool (es : List (Nat × CpInfo)) (last : Nat) : Array CpInfo := ⟨poolList es last⟩
def fileOf (pool : Array CpInfo) (this : Nat) (attrs : Array Attribute := #[]) (ms : Array MethodInfo := #[]) (fl : Nat := 33) (sup : Nat := 0) (ifs : Array Nat := #[]) (fds : Array FieldInfo := #[]) : ClassFile where
  minorVersion := 0
  majorVersion := 65
  constantPool := pool
  accessFlags := fl
  thisClass := this
  superClass := sup
  interfaces := ifs
  fields := fds
  methods := ms
  attributes := attrs
def plain (name : String) (sup : Option ClassId) : Class where
  name := name
  kind := .ordinary
  loader := none
  accessFlags := 33
  super := sup
  interfaces := #[]
  cf := none
  fields := #[]
  methods := #[]
  instanceTypes := #[]
  staticTypes := #[]
  resolved := #[]
  callSites := []
  init := .initialized
  statics := none
  mirror := none

def pool0 : Array CpInfo := pool [(5, u "<init>"), (0, u "()V"), (1, .class_ 10), (1, u "java/lang/Object"), (85, u "clone"), (0, u "()Ljava/lang/Object;")] 26

def k0c0 : Code := { maxStack := 0, maxLocals := 1, code := object_method_1_code, exceptionTable := #[], attributes := #[] }
def k0m0 : Method := { name := "<init>", desc := "()V", sig := { parameters := [], returnType := none }, accessFlags := 1, code := some k0c0 }
def k0m1 : Method := { name := "clone", desc := "()Ljava/lang/Object;", sig := { parameters := [], returnType := some (.object "java/lang/Object") }, accessFlags := 260, code := none }
/-- java/lang/Object -/
def k0 : Class := { plain "java/lang/Object" none with
  accessFlags := 33
  interfaces := #[]
  cf := some (fileOf pool0 8 #[] #[{ accessFlags := 1, nameIndex := 5, descriptorIndex := 6, attributes := #[] }, { accessFlags := 260, nameIndex := 96, descriptorIndex := 97, attributes := #[] }] 33 0 #[] #[])
  fields := #[]
  methods := #[k0m0, k0m1]
  instanceTypes := #[]
  staticTypes := #[]
  resolved := Array.replicate 124 none
  statics := none }

def pool1 : Array CpInfo := pool [(2, .class_ 4), (1, u "java/lang/Object"), (0, u "<init>"), (0, u "()V"), (0, .integer 2147483647), (0, .class_ 9), (0, u "java/lang/String"), (0, .methodref 11 12), (0, .class_ 13), (0, .nameAndType 14 15), (0, u "com/example/writd/writd/model/GrantTypeFromValuePinLaw"), (0, u "name18"), (0, u "(I)[C"), (0, .methodref 8 17), (0, .nameAndType 5 18), (0, u "([C)V"), (0, .methodref 11 20), (0, .nameAndType 21 15), (0, u "name17"), (0, .methodref 11 23), (0, .nameAndType 24 25), (0, u "name19"), (0, u "(IC)[C"), (0, .methodref 27 28), (0, .class_ 29), (0, .nameAndType 30 31), (0, u "com/example/writd/writd/model/GrantType"), (0, u "fromValue"), (0, u "(Ljava/lang/String;)Lcom/example/writd/writd/model/GrantType;"), (0, .string 33), (0, u "authorization_code"), (0, .methodref 8 35), (0, .nameAndType 36 37), (0, u "equals"), (0, u "(Ljava/lang/Object;)Z"), (0, .fieldref 27 39), (0, .nameAndType 40 41), (0, u "AUTHORIZATION_CODE"), (0, u "Lcom/example/writd/writd/model/GrantType;"), (0, .string 43), (0, u "client_credentials"), (0, .fieldref 27 45), (0, .nameAndType 46 41), (0, u "CLIENT_CREDENTIALS"), (2, u "law"), (0, u "(IIIII)Z")] 3

def k1m0 : Method := { name := "<init>", desc := "()V", sig := { parameters := [], returnType := none }, accessFlags := 1, code := none }
def k1c1 : Code := { maxStack := 4, maxLocals := 12, code := code, exceptionTable := #[], attributes := #[] }
def k1m1 : Method := { name := "law", desc := "(IIIII)Z", sig := { parameters := [.int, .int, .int, .int, .int], returnType := some .boolean }, accessFlags := 9, code := some k1c1 }
def k1c2 : Code := { maxStack := 4, maxLocals := 1, code := method_3_code, exceptionTable := #[], attributes := #[] }
def k1m2 : Method := { name := "name18", desc := "(I)[C", sig := { parameters := [.int], returnType := some (.array .char) }, accessFlags := 10, code := some k1c2 }
def k1c3 : Code := { maxStack := 4, maxLocals := 1, code := method_4_code, exceptionTable := #[], attributes := #[] }
def k1m3 : Method := { name := "name17", desc := "(I)[C", sig := { parameters := [.int], returnType := some (.array .char) }, accessFlags := 10, code := some k1c3 }
def k1c4 : Code := { maxStack := 4, maxLocals := 2, code := method_5_code, exceptionTable := #[], attributes := #[] }
def k1m4 : Method := { name := "name19", desc := "(IC)[C", sig := { parameters := [.int, .char], returnType := some (.array .char) }, accessFlags := 10, code := some k1c4 }
/-- com/example/writd/writd/model/GrantTypeFromValuePinLaw -/
def k1 : Class := { plain "com/example/writd/writd/model/GrantTypeFromValuePinLaw" (some 0) with
  accessFlags := 49
  interfaces := #[]
  cf := some (fileOf pool1 11 #[] #[{ accessFlags := 1, nameIndex := 5, descriptorIndex := 6, attributes := #[] }, { accessFlags := 9, nameIndex := 49, descriptorIndex := 50, attributes := #[] }, { accessFlags := 10, nameIndex := 14, descriptorIndex := 15, attributes := #[] }, { accessFlags := 10, nameIndex := 21, descriptorIndex := 15, attributes := #[] }, { accessFlags := 10, nameIndex := 24, descriptorIndex := 25, attributes := #[] }] 49 2 #[] #[])
  fields := #[]
  methods := #[k1m0, k1m1, k1m2, k1m3, k1m4]
  instanceTypes := #[]
  staticTypes := #[]
  resolved := Array.replicate 54 none
  statics := none }

def pool2 : Array CpInfo := pool [(1, .class_ 2), (0, u "java/io/Serializable"), (0, .class_ 4), (0, u "java/lang/Object")] 2

/-- java/io/Serializable -/
def k2 : Class := { plain "java/io/Serializable" (some 0) with
  accessFlags := 1537
  interfaces := #[]
  cf := some (fileOf pool2 1 #[] #[] 1537 3 #[] #[])
  fields := #[]
  methods := #[]
  instanceTypes := #[]
  staticTypes := #[]
  resolved := Array.replicate 7 none
  statics := none }

def pool3 : Array CpInfo := pool [(1, .class_ 2), (0, u "java/lang/Comparable"), (0, .class_ 4), (0, u "java/lang/Object")] 7

/-- java/lang/Comparable -/
def k3 : Class := { plain "java/lang/Comparable" (some 0) with
  accessFlags := 1537
  interfaces := #[]
  cf := some (fileOf pool3 1 #[] #[] 1537 3 #[] #[])
  fields := #[]
  methods := #[]
  instanceTypes := #[]
  staticTypes := #[]
  resolved := Array.replicate 12 none
  statics := none }

def pool4 : Array CpInfo := pool [(2, .class_ 4), (1, u "java/lang/CharSequence"), (42, .class_ 48), (0, u "java/lang/CharSequence$1CodePointIterator"), (10, .class_ 60), (0, u "java/lang/CharSequence$1CharIterator"), (5, .class_ 67), (0, u "java/lang/Object")] 63

/-- java/lang/CharSequence -/
def k4 : Class := { plain "java/lang/CharSequence" (some 0) with
  accessFlags := 1537
  interfaces := #[]
  cf := some (fileOf pool4 2 #[.nestMembers #[47, 59]] #[] 1537 66 #[] #[])
  fields := #[]
  methods := #[]
  instanceTypes := #[]
  staticTypes := #[]
  resolved := Array.replicate 131 none
  statics := none }

def pool5 : Array CpInfo := pool [(1, .class_ 2), (0, u "java/lang/constant/Constable"), (0, .class_ 4), (0, u "java/lang/Object")] 6

/-- java/lang/constant/Constable -/
def k5 : Class := { plain "java/lang/constant/Constable" (some 0) with
  accessFlags := 1537
  interfaces := #[]
  cf := some (fileOf pool5 1 #[] #[] 1537 3 #[] #[])
  fields := #[]
  methods := #[]
  instanceTypes := #[]
  staticTypes := #[]
  resolved := Array.replicate 11 none
  statics := none }

def pool6 : Array CpInfo := pool [(1, .class_ 2), (0, u "java/lang/constant/ConstantDesc"), (0, .class_ 4), (0, u "java/lang/Object")] 32

/-- java/lang/constant/ConstantDesc -/
def k6 : Class := { plain "java/lang/constant/ConstantDesc" (some 0) with
  accessFlags := 1537
  interfaces := #[]
  cf := some (fileOf pool6 1 #[] #[] 1537 3 #[] #[])
  fields := #[]
  methods := #[]
  instanceTypes := #[]
  staticTypes := #[]
  resolved := Array.replicate 37 none
  statics := none }

def pool7 : Array CpInfo := pool [(1, .methodref 2 3), (0, .class_ 4), (0, .nameAndType 5 6), (0, u "java/lang/Object"), (0, u "<init>"), (0, u "()V"), (0, .string 8), (0, u ""), (0, .fieldref 10 11), (0, .class_ 12), (0, .nameAndType 13 14), (0, u "java/lang/String"), (0, u "value"), (0, u "[B"), (0, .fieldref 10 16), (0, .nameAndType 17 18), (0, u "coder"), (0, u "B"), (2, u "hash"), (0, u "I"), (2, u "hashIsZero"), (0, u "Z"), (0, .methodref 10 28), (0, .nameAndType 5 29), (0, u "([CIILjava/lang/Void;)V"), (8, .fieldref 10 39), (0, .nameAndType 40 26), (0, u "COMPACT_STRINGS"), (1, .class_ 44), (1, u "java/lang/StringUTF16"), (0, u "compress"), (1, .methodref 42 48), (0, .nameAndType 49 50), (0, u "coderFromArrayLen"), (0, u "([BI)B"), (56, .class_ 109), (1, u "java/lang/StringLatin1"), (67, .methodref 42 178), (0, .nameAndType 45 179), (0, u "([CII)[B"), (361, .methodref 107 542), (0, .nameAndType 543 544), (0, u "equals"), (0, u "([B[B)Z"), (28, u "(Ljava/lang/Object;)Z"), (1, .class_ 576), (0, u "java/lang/CharSequence"), (22, u "CASE_INSENSITIVE_ORDER"), (0, u "Ljava/util/Comparator;"), (409, u "([C)V"), (90, u "serialPersistentFields"), (0, u "[Ljava/io/ObjectStreamField;"), (0, .class_ 1104), (0, u "java/lang/String$CaseInsensitiveComparator"), (1, .class_ 1107), (0, u "java/io/Serializable"), (0, .class_ 1109), (0, u "java/lang/Comparable"), (0, .class_ 1111), (0, u "java/lang/constant/Constable"), (0, .class_ 1113), (0, u "java/lang/constant/ConstantDesc"), (2, u "serialVersionUID"), (0, u "J"), (3, u "REPL"), (0, u "C"), (2, u "LATIN1"), (1, u "UTF16")] 323

def k7m0 : Method := { name := "<init>", desc := "()V", sig := { parameters := [], returnType := none }, accessFlags := 1, code := none }
def k7c1 : Code := { maxStack := 5, maxLocals := 2, code := jdk_42_method_3_code, exceptionTable := #[], attributes := #[] }
def k7m1 : Method := { name := "<init>", desc := "([C)V", sig := { parameters := [(.array .char)], returnType := none }, accessFlags := 1, code := some k7c1 }
def k7c2 : Code := { maxStack := 2, maxLocals := 3, code := jdk_42_method_66_code, exceptionTable := #[], attributes := #[] }
def k7m2 : Method := { name := "equals", desc := "(Ljava/lang/Object;)Z", sig := { parameters := [(.object "java/lang/Object")], returnType := some .boolean }, accessFlags := 1, code := some k7c2 }
def k7c3 : Code := { maxStack := 4, maxLocals := 6, code := jdk_42_method_149_code, exceptionTable := #[], attributes := #[] }
def k7m3 : Method := { name := "<init>", desc := "([CIILjava/lang/Void;)V", sig := { parameters := [(.array .char), .int, .int, (.object "java/lang/Void")], returnType := none }, accessFlags := 2, code := some k7c3 }
/-- java/lang/String -/
def k7 : Class := { plain "java/lang/String" (some 0) with
  accessFlags := 49
  interfaces := #[2, 3, 4, 5, 6]
  cf := some (fileOf pool7 10 #[.nestMembers #[1103]] #[{ accessFlags := 1, nameIndex := 5, descriptorIndex := 6, attributes := #[] }, { accessFlags := 1, nameIndex := 5, descriptorIndex := 1010, attributes := #[] }, { accessFlags := 1, nameIndex := 543, descriptorIndex := 573, attributes := #[] }, { accessFlags := 2, nameIndex := 5, descriptorIndex := 29, attributes := #[] }] 49 2 #[1106, 1108, 575, 1110, 1112] #[{ accessFlags := 18, nameIndex := 13, descriptorIndex := 14, attributes := #[] }, { accessFlags := 18, nameIndex := 17, descriptorIndex := 18, attributes := #[] }, { accessFlags := 2, nameIndex := 21, descriptorIndex := 22, attributes := #[] }, { accessFlags := 2, nameIndex := 25, descriptorIndex := 26, attributes := #[] }, { accessFlags := 26, nameIndex := 1116, descriptorIndex := 1117, attributes := #[] }, { accessFlags := 24, nameIndex := 40, descriptorIndex := 26, attributes := #[] }, { accessFlags := 26, nameIndex := 1101, descriptorIndex := 1102, attributes := #[] }, { accessFlags := 26, nameIndex := 1121, descriptorIndex := 1122, attributes := #[] }, { accessFlags := 25, nameIndex := 599, descriptorIndex := 600, attributes := #[] }, { accessFlags := 24, nameIndex := 1125, descriptorIndex := 18, attributes := #[] }, { accessFlags := 24, nameIndex := 1127, descriptorIndex := 18, attributes := #[] }])
  fields := #[{ name := "value", type := (.array .byte), accessFlags := 18, slot := 0, constantValue := 0 }, { name := "coder", type := .byte, accessFlags := 18, slot := 1, constantValue := 0 }, { name := "hash", type := .int, accessFlags := 2, slot := 2, constantValue := 0 }, { name := "hashIsZero", type := .boolean, accessFlags := 2, slot := 3, constantValue := 0 }, { name := "serialVersionUID", type := .long, accessFlags := 26, slot := 0, constantValue := 0 }, { name := "COMPACT_STRINGS", type := .boolean, accessFlags := 24, slot := 1, constantValue := 0 }, { name := "serialPersistentFields", type := (.array (.object "java/io/ObjectStreamField")), accessFlags := 26, slot := 2, constantValue := 0 }, { name := "REPL", type := .char, accessFlags := 26, slot := 3, constantValue := 0 }, { name := "CASE_INSENSITIVE_ORDER", type := (.object "java/util/Comparator"), accessFlags := 25, slot := 4, constantValue := 0 }, { name := "LATIN1", type := .byte, accessFlags := 24, slot := 5, constantValue := 0 }, { name := "UTF16", type := .byte, accessFlags := 24, slot := 6, constantValue := 0 }]
  methods := #[k7m0, k7m1, k7m2, k7m3]
  instanceTypes := #[(.array .byte), .byte, .int, .boolean]
  staticTypes := #[.long, .boolean, (.array (.object "java/io/ObjectStreamField")), .char, (.object "java/util/Comparator"), .byte, .byte]
  resolved := Array.replicate 1451 none
  statics := some 0 }

def pool8 : Array CpInfo := pool [(6, .class_ 8), (1, u "java/lang/Object"), (0, u "<init>"), (0, u "()V"), (1, .class_ 14), (1, u "java/lang/StringUTF16"), (31, u "$assertionsDisabled"), (0, u "Z"), (13, u "HI_BYTE_SHIFT"), (0, u "I"), (2, u "LO_BYTE_SHIFT"), (49, .methodref 12 116), (0, .nameAndType 117 118), (0, u "compress"), (0, u "([CI[BII)I"), (3, u "([CII)[B"), (138, u "coderFromArrayLen"), (0, u "([BI)B"), (106, .class_ 371), (1, u "java/lang/StringUTF16$LinesSpliterator"), (58, u "MAX_LENGTH"), (196, .class_ 628), (0, u "java/lang/StringUTF16$CodePointsSpliterator"), (0, .class_ 630), (0, u "java/lang/StringUTF16$CharsSpliterator")] 4

def k8m0 : Method := { name := "<init>", desc := "()V", sig := { parameters := [], returnType := none }, accessFlags := 0, code := none }
def k8c1 : Code := { maxStack := 2, maxLocals := 2, code := jdk_52_method_15_code, exceptionTable := #[], attributes := #[] }
def k8m1 : Method := { name := "coderFromArrayLen", desc := "([BI)B", sig := { parameters := [(.array .byte), .int], returnType := some .byte }, accessFlags := 8, code := some k8c1 }
def k8c2 : Code := { maxStack := 5, maxLocals := 6, code := jdk_52_method_16_code, exceptionTable := #[], attributes := #[] }
def k8m2 : Method := { name := "compress", desc := "([CII)[B", sig := { parameters := [(.array .char), .int, .int], returnType := some (.array .byte) }, accessFlags := 9, code := some k8c2 }
def k8c3 : Code := { maxStack := 3, maxLocals := 7, code := jdk_52_method_21_code, exceptionTable := #[], attributes := #[] }
def k8m3 : Method := { name := "compress", desc := "([CI[BII)I", sig := { parameters := [(.array .char), .int, (.array .byte), .int, .int], returnType := some .int }, accessFlags := 9, code := some k8c3 }
/-- java/lang/StringUTF16 -/
def k8 : Class := { plain "java/lang/StringUTF16" (some 0) with
  accessFlags := 48
  interfaces := #[]
  cf := some (fileOf pool8 12 #[.nestMembers #[627, 629, 369]] #[{ accessFlags := 0, nameIndex := 9, descriptorIndex := 10, attributes := #[] }, { accessFlags := 8, nameIndex := 261, descriptorIndex := 262, attributes := #[] }, { accessFlags := 9, nameIndex := 117, descriptorIndex := 122, attributes := #[] }, { accessFlags := 9, nameIndex := 117, descriptorIndex := 118, attributes := #[] }] 48 6 #[] #[{ accessFlags := 26, nameIndex := 61, descriptorIndex := 62, attributes := #[] }, { accessFlags := 26, nameIndex := 65, descriptorIndex := 62, attributes := #[] }, { accessFlags := 24, nameIndex := 430, descriptorIndex := 62, attributes := #[] }, { accessFlags := 4120, nameIndex := 46, descriptorIndex := 47, attributes := #[] }])
  fields := #[{ name := "HI_BYTE_SHIFT", type := .int, accessFlags := 26, slot := 0, constantValue := 0 }, { name := "LO_BYTE_SHIFT", type := .int, accessFlags := 26, slot := 1, constantValue := 0 }, { name := "MAX_LENGTH", type := .int, accessFlags := 24, slot := 2, constantValue := 0 }, { name := "$assertionsDisabled", type := .boolean, accessFlags := 4120, slot := 3, constantValue := 0 }]
  methods := #[k8m0, k8m1, k8m2, k8m3]
  instanceTypes := #[]
  staticTypes := #[.int, .int, .int, .boolean]
  resolved := Array.replicate 635 none
  statics := none }

def pool9 : Array CpInfo := pool [(2, .class_ 4), (1, u "java/lang/Enum"), (0, u "name"), (0, u "Ljava/lang/String;"), (2, u "ordinal"), (0, u "I"), (1, .class_ 14), (1, u "java/lang/Object"), (4, u "hash"), (86, .class_ 108), (1, u "java/lang/Enum$EnumDesc"), (2, .class_ 112), (0, u "java/lang/constant/Constable"), (0, .class_ 114), (0, u "java/lang/Comparable"), (0, .class_ 116), (0, u "java/io/Serializable")] 87

/-- java/lang/Enum -/
def k9 : Class := { plain "java/lang/Enum" (some 0) with
  accessFlags := 1057
  interfaces := #[5, 3, 2]
  cf := some (fileOf pool9 2 #[.nestMembers #[106]] #[] 1057 12 #[111, 113, 115] #[{ accessFlags := 18, nameIndex := 5, descriptorIndex := 6, attributes := #[] }, { accessFlags := 18, nameIndex := 9, descriptorIndex := 10, attributes := #[] }, { accessFlags := 2, nameIndex := 19, descriptorIndex := 10, attributes := #[] }])
  fields := #[{ name := "name", type := (.object "java/lang/String"), accessFlags := 18, slot := 0, constantValue := 0 }, { name := "ordinal", type := .int, accessFlags := 18, slot := 1, constantValue := 0 }, { name := "hash", type := .int, accessFlags := 2, slot := 2, constantValue := 0 }]
  methods := #[]
  instanceTypes := #[(.object "java/lang/String"), .int, .int]
  staticTypes := #[]
  resolved := Array.replicate 204 none
  statics := none }

def pool10 : Array CpInfo := pool [(1, .class_ 2), (0, u "com/example/writd/writd/model/GrantType"), (2, u "AUTHORIZATION_CODE"), (0, u "Lcom/example/writd/writd/model/GrantType;"), (2, u "CLIENT_CREDENTIALS"), (0, .fieldref 1 11), (0, .nameAndType 12 13), (0, u "$VALUES"), (0, u "[Lcom/example/writd/writd/model/GrantType;"), (0, .methodref 15 16), (0, .class_ 13), (0, .nameAndType 17 18), (0, u "clone"), (0, u "()Ljava/lang/Object;"), (1, .class_ 22), (1, u "java/lang/Enum"), (6, .fieldref 1 30), (0, .nameAndType 31 32), (0, u "value"), (0, u "Ljava/lang/String;"), (2, u "responseType"), (2, u "forPublicClients"), (0, u "Z"), (0, .methodref 1 41), (0, .nameAndType 42 43), (0, u "values"), (0, u "()[Lcom/example/writd/writd/model/GrantType;"), (0, .methodref 45 46), (0, .class_ 47), (0, .nameAndType 48 49), (0, u "java/lang/String"), (0, u "equals"), (0, u "(Ljava/lang/Object;)Z"), (23, u "fromValue"), (0, u "(Ljava/lang/String;)Lcom/example/writd/writd/model/GrantType;")] 110

def k10c0 : Code := { maxStack := 1, maxLocals := 0, code := prog_16_method_1_code, exceptionTable := #[], attributes := #[] }
def k10m0 : Method := { name := "values", desc := "()[Lcom/example/writd/writd/model/GrantType;", sig := { parameters := [], returnType := some (.array (.object "com/example/writd/writd/model/GrantType")) }, accessFlags := 9, code := some k10c0 }
def k10c1 : Code := { maxStack := 2, maxLocals := 5, code := prog_16_method_5_code, exceptionTable := #[], attributes := #[] }
def k10m1 : Method := { name := "fromValue", desc := "(Ljava/lang/String;)Lcom/example/writd/writd/model/GrantType;", sig := { parameters := [(.object "java/lang/String")], returnType := some (.object "com/example/writd/writd/model/GrantType") }, accessFlags := 9, code := some k10c1 }
/-- com/example/writd/writd/model/GrantType -/
def k10 : Class := { plain "com/example/writd/writd/model/GrantType" (some 9) with
  accessFlags := 16433
  interfaces := #[]
  cf := some (fileOf pool10 1 #[] #[{ accessFlags := 9, nameIndex := 42, descriptorIndex := 43, attributes := #[] }, { accessFlags := 9, nameIndex := 73, descriptorIndex := 74, attributes := #[] }] 16433 20 #[] #[{ accessFlags := 16409, nameIndex := 5, descriptorIndex := 6, attributes := #[] }, { accessFlags := 16409, nameIndex := 9, descriptorIndex := 6, attributes := #[] }, { accessFlags := 18, nameIndex := 31, descriptorIndex := 32, attributes := #[] }, { accessFlags := 18, nameIndex := 35, descriptorIndex := 32, attributes := #[] }, { accessFlags := 18, nameIndex := 38, descriptorIndex := 39, attributes := #[] }, { accessFlags := 4122, nameIndex := 12, descriptorIndex := 13, attributes := #[] }])
  fields := #[{ name := "AUTHORIZATION_CODE", type := (.object "com/example/writd/writd/model/GrantType"), accessFlags := 16409, slot := 0, constantValue := 0 }, { name := "CLIENT_CREDENTIALS", type := (.object "com/example/writd/writd/model/GrantType"), accessFlags := 16409, slot := 1, constantValue := 0 }, { name := "value", type := (.object "java/lang/String"), accessFlags := 18, slot := 3, constantValue := 0 }, { name := "responseType", type := (.object "java/lang/String"), accessFlags := 18, slot := 4, constantValue := 0 }, { name := "forPublicClients", type := .boolean, accessFlags := 18, slot := 5, constantValue := 0 }, { name := "$VALUES", type := (.array (.object "com/example/writd/writd/model/GrantType")), accessFlags := 4122, slot := 2, constantValue := 0 }]
  methods := #[k10m0, k10m1]
  instanceTypes := #[(.object "java/lang/String"), .int, .int, (.object "java/lang/String"), (.object "java/lang/String"), .boolean]
  staticTypes := #[(.object "com/example/writd/writd/model/GrantType"), (.object "com/example/writd/writd/model/GrantType"), (.array (.object "com/example/writd/writd/model/GrantType"))]
  resolved := Array.replicate 185 none
  statics := some 1 }

def pool11 : Array CpInfo := pool [(1, .class_ 2), (0, u "java/lang/Cloneable"), (0, .class_ 4), (0, u "java/lang/Object")] 2

/-- java/lang/Cloneable -/
def k11 : Class := { plain "java/lang/Cloneable" (some 0) with
  accessFlags := 1537
  interfaces := #[]
  cf := some (fileOf pool11 1 #[] #[] 1537 3 #[] #[])
  fields := #[]
  methods := #[]
  instanceTypes := #[]
  staticTypes := #[]
  resolved := Array.replicate 7 none
  statics := none }

def pool12 : Array CpInfo := pool [(4, .class_ 6), (1, u "java/lang/Object"), (0, u "<init>"), (0, u "()V"), (5, .class_ 16), (1, u "java/lang/StringLatin1"), (104, u "$assertionsDisabled"), (0, u "Z"), (98, .class_ 223), (1, u "java/lang/StringLatin1$LinesSpliterator"), (57, u "equals"), (0, u "([B[B)Z"), (107, .class_ 391), (0, u "java/lang/StringLatin1$CharsSpliterator")] 3

def k12m0 : Method := { name := "<init>", desc := "()V", sig := { parameters := [], returnType := none }, accessFlags := 0, code := none }
def k12c1 : Code := { maxStack := 3, maxLocals := 3, code := jdk_43_method_13_code, exceptionTable := #[], attributes := #[] }
def k12m1 : Method := { name := "equals", desc := "([B[B)Z", sig := { parameters := [(.array .byte), (.array .byte)], returnType := some .boolean }, accessFlags := 9, code := some k12c1 }
/-- java/lang/StringLatin1 -/
def k12 : Class := { plain "java/lang/StringLatin1" (some 0) with
  accessFlags := 48
  interfaces := #[]
  cf := some (fileOf pool12 14 #[.nestMembers #[390, 221]] #[{ accessFlags := 0, nameIndex := 7, descriptorIndex := 8, attributes := #[] }, { accessFlags := 9, nameIndex := 281, descriptorIndex := 282, attributes := #[] }] 48 4 #[] #[{ accessFlags := 4120, nameIndex := 121, descriptorIndex := 122, attributes := #[] }])
  fields := #[{ name := "$assertionsDisabled", type := .boolean, accessFlags := 4120, slot := 0, constantValue := 0 }]
  methods := #[k12m0, k12m1]
  instanceTypes := #[]
  staticTypes := #[.boolean]
  resolved := Array.replicate 395 none
  statics := none }

def pool13 : Array CpInfo := pool [(2, .class_ 4), (1, u "java/lang/Object"), (0, u "<init>"), (0, u "()V"), (17, .class_ 26), (1, u "jdk/internal/util/Preconditions"), (28, .class_ 56), (0, u "jdk/internal/util/Preconditions$4"), (57, .class_ 115), (0, u "jdk/internal/util/Preconditions$1"), (7, u "SIOOBE_FORMATTER"), (0, u "Ljava/util/function/BiFunction;"), (0, .class_ 126), (0, u "jdk/internal/util/Preconditions$2"), (3, u "AIOOBE_FORMATTER"), (0, .class_ 132), (0, u "jdk/internal/util/Preconditions$3"), (3, u "IOOBE_FORMATTER")] 57

def k13m0 : Method := { name := "<init>", desc := "()V", sig := { parameters := [], returnType := none }, accessFlags := 1, code := none }
/-- jdk/internal/util/Preconditions -/
def k13 : Class := { plain "jdk/internal/util/Preconditions" (some 0) with
  accessFlags := 33
  interfaces := #[]
  cf := some (fileOf pool13 24 #[.nestMembers #[55, 131, 125, 114]] #[{ accessFlags := 1, nameIndex := 5, descriptorIndex := 6, attributes := #[] }] 33 2 #[] #[{ accessFlags := 25, nameIndex := 123, descriptorIndex := 124, attributes := #[] }, { accessFlags := 25, nameIndex := 130, descriptorIndex := 124, attributes := #[] }, { accessFlags := 25, nameIndex := 136, descriptorIndex := 124, attributes := #[] }])
  fields := #[{ name := "SIOOBE_FORMATTER", type := (.object "java/util/function/BiFunction"), accessFlags := 25, slot := 0, constantValue := 0 }, { name := "AIOOBE_FORMATTER", type := (.object "java/util/function/BiFunction"), accessFlags := 25, slot := 1, constantValue := 0 }, { name := "IOOBE_FORMATTER", type := (.object "java/util/function/BiFunction"), accessFlags := 25, slot := 2, constantValue := 0 }]
  methods := #[k13m0]
  instanceTypes := #[]
  staticTypes := #[(.object "java/util/function/BiFunction"), (.object "java/util/function/BiFunction"), (.object "java/util/function/BiFunction")]
  resolved := Array.replicate 194 none
  statics := some 2 }

def pool14 : Array CpInfo := pool [(9, u "<init>"), (6, .class_ 18), (1, u "java/lang/Object"), (0, u "()V"), (1, .class_ 23), (1, u "jdk/internal/util/ArraysSupport"), (0, u "LOG2_ARRAY_LONG_INDEX_SCALE"), (0, u "I"), (2, u "U"), (0, u "Ljdk/internal/misc/Unsafe;"), (8, u "BIG_ENDIAN"), (0, u "Z"), (8, u "LOG2_BYTE_BIT_SIZE"), (4, u "LOG2_ARRAY_INT_INDEX_SCALE"), (54, u "JLA"), (0, u "Ljdk/internal/access/JavaLangAccess;"), (11, u "LOG2_ARRAY_BOOLEAN_INDEX_SCALE"), (9, u "LOG2_ARRAY_BYTE_INDEX_SCALE"), (5, u "LOG2_ARRAY_CHAR_INDEX_SCALE"), (5, u "LOG2_ARRAY_SHORT_INDEX_SCALE"), (18, u "LOG2_ARRAY_FLOAT_INDEX_SCALE"), (24, u "LOG2_ARRAY_DOUBLE_INDEX_SCALE"), (89, u "T_BOOLEAN"), (2, u "T_CHAR"), (1, u "T_FLOAT"), (1, u "T_DOUBLE"), (1, u "T_BYTE"), (1, u "T_SHORT"), (1, u "T_INT"), (1, u "T_LONG"), (1, u "SOFT_MAX_ARRAY_LENGTH")] 83

def k14m0 : Method := { name := "<init>", desc := "()V", sig := { parameters := [], returnType := none }, accessFlags := 2, code := none }
/-- jdk/internal/util/ArraysSupport -/
def k14 : Class := { plain "jdk/internal/util/ArraysSupport" (some 0) with
  accessFlags := 33
  interfaces := #[]
  cf := some (fileOf pool14 21 #[] #[{ accessFlags := 2, nameIndex := 9, descriptorIndex := 19, attributes := #[] }] 33 16 #[] #[{ accessFlags := 24, nameIndex := 28, descriptorIndex := 29, attributes := #[] }, { accessFlags := 26, nameIndex := 38, descriptorIndex := 39, attributes := #[] }, { accessFlags := 25, nameIndex := 121, descriptorIndex := 25, attributes := #[] }, { accessFlags := 25, nameIndex := 131, descriptorIndex := 25, attributes := #[] }, { accessFlags := 25, nameIndex := 137, descriptorIndex := 25, attributes := #[] }, { accessFlags := 25, nameIndex := 143, descriptorIndex := 25, attributes := #[] }, { accessFlags := 25, nameIndex := 53, descriptorIndex := 25, attributes := #[] }, { accessFlags := 25, nameIndex := 24, descriptorIndex := 25, attributes := #[] }, { accessFlags := 25, nameIndex := 162, descriptorIndex := 25, attributes := #[] }, { accessFlags := 25, nameIndex := 187, descriptorIndex := 25, attributes := #[] }, { accessFlags := 26, nameIndex := 48, descriptorIndex := 25, attributes := #[] }, { accessFlags := 25, nameIndex := 277, descriptorIndex := 25, attributes := #[] }, { accessFlags := 25, nameIndex := 280, descriptorIndex := 25, attributes := #[] }, { accessFlags := 25, nameIndex := 282, descriptorIndex := 25, attributes := #[] }, { accessFlags := 25, nameIndex := 284, descriptorIndex := 25, attributes := #[] }, { accessFlags := 25, nameIndex := 286, descriptorIndex := 25, attributes := #[] }, { accessFlags := 25, nameIndex := 288, descriptorIndex := 25, attributes := #[] }, { accessFlags := 25, nameIndex := 290, descriptorIndex := 25, attributes := #[] }, { accessFlags := 25, nameIndex := 292, descriptorIndex := 25, attributes := #[] }, { accessFlags := 26, nameIndex := 108, descriptorIndex := 109, attributes := #[] }, { accessFlags := 25, nameIndex := 294, descriptorIndex := 25, attributes := #[] }])
  fields := #[{ name := "U", type := (.object "jdk/internal/misc/Unsafe"), accessFlags := 24, slot := 0, constantValue := 0 }, { name := "BIG_ENDIAN", type := .boolean, accessFlags := 26, slot := 1, constantValue := 0 }, { name := "LOG2_ARRAY_BOOLEAN_INDEX_SCALE", type := .int, accessFlags := 25, slot := 2, constantValue := 0 }, { name := "LOG2_ARRAY_BYTE_INDEX_SCALE", type := .int, accessFlags := 25, slot := 3, constantValue := 0 }, { name := "LOG2_ARRAY_CHAR_INDEX_SCALE", type := .int, accessFlags := 25, slot := 4, constantValue := 0 }, { name := "LOG2_ARRAY_SHORT_INDEX_SCALE", type := .int, accessFlags := 25, slot := 5, constantValue := 0 }, { name := "LOG2_ARRAY_INT_INDEX_SCALE", type := .int, accessFlags := 25, slot := 6, constantValue := 0 }, { name := "LOG2_ARRAY_LONG_INDEX_SCALE", type := .int, accessFlags := 25, slot := 7, constantValue := 0 }, { name := "LOG2_ARRAY_FLOAT_INDEX_SCALE", type := .int, accessFlags := 25, slot := 8, constantValue := 0 }, { name := "LOG2_ARRAY_DOUBLE_INDEX_SCALE", type := .int, accessFlags := 25, slot := 9, constantValue := 0 }, { name := "LOG2_BYTE_BIT_SIZE", type := .int, accessFlags := 26, slot := 10, constantValue := 0 }, { name := "T_BOOLEAN", type := .int, accessFlags := 25, slot := 11, constantValue := 0 }, { name := "T_CHAR", type := .int, accessFlags := 25, slot := 12, constantValue := 0 }, { name := "T_FLOAT", type := .int, accessFlags := 25, slot := 13, constantValue := 0 }, { name := "T_DOUBLE", type := .int, accessFlags := 25, slot := 14, constantValue := 0 }, { name := "T_BYTE", type := .int, accessFlags := 25, slot := 15, constantValue := 0 }, { name := "T_SHORT", type := .int, accessFlags := 25, slot := 16, constantValue := 0 }, { name := "T_INT", type := .int, accessFlags := 25, slot := 17, constantValue := 0 }, { name := "T_LONG", type := .int, accessFlags := 25, slot := 18, constantValue := 0 }, { name := "JLA", type := (.object "jdk/internal/access/JavaLangAccess"), accessFlags := 26, slot := 19, constantValue := 0 }, { name := "SOFT_MAX_ARRAY_LENGTH", type := .int, accessFlags := 25, slot := 20, constantValue := 0 }]
  methods := #[k14m0]
  instanceTypes := #[]
  staticTypes := #[(.object "jdk/internal/misc/Unsafe"), .boolean, .int, .int, .int, .int, .int, .int, .int, .int, .int, .int, .int, .int, .int, .int, .int, .int, .int, (.object "jdk/internal/access/JavaLangAccess"), .int]
  resolved := Array.replicate 378 none
  statics := none }

/-- the primitive byte -/
def k15 : Class := { plain "byte" none with kind := .primitive 'B', accessFlags := 0x411 }
/-- [B -/
def k16 : Class := { plain "[B" (some 0) with kind := .array 15 .byte, interfaces := #[11, 2], accessFlags := 1041 }

/-- the primitive char -/
def k17 : Class := { plain "char" none with kind := .primitive 'C', accessFlags := 0x411 }
/-- [C -/
def k18 : Class := { plain "[C" (some 0) with kind := .array 17 .char, interfaces := #[11, 2], accessFlags := 1041 }

/-- the primitive int -/
def k19 : Class := { plain "int" none with kind := .primitive 'I', accessFlags := 0x411 }
/-- [I -/
def k20 : Class := { plain "[I" (some 0) with kind := .array 19 .int, interfaces := #[11, 2], accessFlags := 1041 }

/-- [Lcom/example/writd/writd/model/GrantType; -/
def k21 : Class := { plain "[Lcom/example/writd/writd/model/GrantType;" (some 0) with kind := .array 10 (.object "com/example/writd/writd/model/GrantType"), interfaces := #[11, 2], accessFlags := 1041 }

def heap : Heap := #[{ cls := 7, slots := #[.long 0, .int 1, .null, .int 0, .null, .int 0, .int 0], vm := .statics 7 },
  { cls := 10, slots := #[.ref 4, .ref 5, .ref 3], vm := .statics 10 },
  { cls := 13, slots := #[.null, .null, .null], vm := .statics 13 },
  { cls := 21, slots := #[.ref 4, .ref 5], vm := .none },
  { cls := 10, slots := #[.null, .int 0, .int 0, .ref 6, .null, .int 0], vm := .none },
  { cls := 10, slots := #[.null, .int 1, .int 0, .ref 7, .null, .int 0], vm := .none },
  { cls := 7, slots := #[.ref 8, .int 0, .int 0, .int 0], vm := .none },
  { cls := 7, slots := #[.ref 9, .int 0, .int 0, .int 0], vm := .none },
  { cls := 16, slots := #[.int 97, .int 117, .int 116, .int 104, .int 111, .int 114, .int 105, .int 122, .int 97, .int 116, .int 105, .int 111, .int 110, .int 95, .int 99, .int 111, .int 100, .int 101], vm := .none },
  { cls := 16, slots := #[.int 99, .int 108, .int 105, .int 101, .int 110, .int 116, .int 95, .int 99, .int 114, .int 101, .int 100, .int 101, .int 110, .int 116, .int 105, .int 97, .int 108, .int 115], vm := .none }]
def classes : Array Class := #[k0, k1, k2, k3, k4, k5, k6, k7, k8, k9, k10, k11, k12, k13, k14, k15, k16, k17, k18, k19, k20, k21]
def interned : List (Array UInt16 × Addr) := []
def slotsUsed : Nat := 71
def theMethod : MethodId := ⟨1, 1⟩
def args0 : Array Value := #[.int 5, .int 6, .int 7, .int 8, .int 9]
def aboutOver (below : List Frame) : State where
  vm := { classes := classes, interned := interned.toArray }
  heap := heap
  slotsUsed := slotsUsed
  threads := #[{ frames := .invoking theMethod args0 :: below }]
def below0 : List Frame := [.native { method := ⟨0, 0⟩, args := #[] }]
def about1 : State := aboutOver below0
def p0 : Program := .bare "" "" ""
def e0 : Env := launch0.env 0 0 0
theorem w_frames : about1.frames = Frame.invoking theMethod args0 :: below0 := rfl
set_option maxRecDepth 65536 in
theorem w_args : argsFit about1.vm theMethod args0 = true := by decide +kernel
set_option maxRecDepth 65536 in
theorem w_heap : heapFits about1 = true := by decide +kernel
set_option maxRecDepth 65536 in
theorem w_runnable : about1.curStatus? = some .runnable := by decide +kernel
set_option maxRecDepth 65536 in
theorem w_alone : about1.alone = true := by decide +kernel
set_option maxRecDepth 65536 in
theorem w_named : about1.methodNamed? x = some theMethod := by decide +kernel
set_option maxRecDepth 65536 in
theorem w_hears : about1.hears theMethod below0 = true := by decide +kernel
set_option maxRecDepth 65536 in
theorem w_ripe : about1.ripe theMethod args0 below0 = true := by decide +kernel
theorem w_running : about1.status = .running := rfl
set_option maxRecDepth 65536 in
theorem w_room : about1.hasRoom e0.platform room_1 = true :=
  launch0.hasRoom_least _ room_1 (by decide +kernel) (by decide +kernel) (by decide +kernel) (by decide +kernel) (by decide +kernel) (by decide +kernel)
theorem allAtoms_all (ts : List Jvm.Cond) (a : Array Jvm.Value) (st : Jvm.State) : (allAtoms ts).before a st = ts.all (fun c => c.before a st) := by
  induction ts with
  | nil => rfl
  | cons c t ih =>
    show (Jvm.Cond.and c (allAtoms t)).before a st = _
    rw [Jvm.Cond.before_and, ih, List.all_cons]
def words1 : List Jvm.Cond := Jvm.Cond.code x code maxLocals ret :: tables_1
/-- a 'code' word, met by the world's own term for the bytes: nothing is compared byte by byte -/
theorem code_word {y : MethodName} {bytes : ByteArray} {mx : Nat} {rt : Option FieldType} {a : Array Value} {s : State} {m : MethodId} {meth : Method} {c : Code} (h1 : s.methodNamed? y = some m) (h2 : s.vm.method? m = some meth) (h3 : meth.code = some c) (h4 : c.code = bytes)
    (h5 : (c.maxLocals == mx && c.exceptionTable.isEmpty && decide (c.maxStack ≤ mostOperands) && decide (meth.sig.returnType = rt) && !meth.locks && decide (parseMethodDescriptor y.desc = some meth.sig)) = true) : (Jvm.Cond.code y bytes mx rt).before a s = true := by
  simp only [Bool.and_eq_true, beq_iff_eq, Bool.not_eq_true', decide_eq_true_eq] at h5
  obtain ⟨⟨⟨⟨⟨g1, g2⟩, g3⟩, g4⟩, g5⟩, g6⟩ := h5
  simp [Cond.before, Cond.holds, Cond.value, h1, h2, h3, h4, g1, g2, g3, g4, g5, g6]
def isCode : Jvm.Cond → Bool
  | .code _ _ _ _ => true
  | _ => false
theorem all_split {L : List Jvm.Cond} {P : Jvm.Cond → Bool} (h1 : L.all (fun c => isCode c || P c) = true) (h2 : ∀ c ∈ L.filter isCode, P c = true) : L.all P = true := by
  refine List.all_eq_true.mpr fun c hc => ?_
  have h := List.all_eq_true.mp h1 c hc
  rcases Bool.eq_false_or_eq_true (isCode c) with hi | hi
  · exact h2 c (List.mem_filter.mpr ⟨hc, hi⟩)
  · simpa [hi] using h
set_option maxRecDepth 65536 in
theorem w_c0 : (Jvm.Cond.code x code maxLocals ret).before args0 about1 = true := code_word (m := ⟨1, 1⟩) (meth := k1m1) (c := k1c1) (by decide +kernel) rfl rfl rfl (by decide +kernel)
set_option maxRecDepth 65536 in
theorem w_c1 : (Jvm.Cond.code ({ cls := "com/example/writd/writd/model/GrantTypeFromValuePinLaw", name := "name18", desc := "(I)[C" } : Jvm.MethodName) method_3_code (1 : Nat) (Option.some (Jvm.ClassFile.FieldType.array Jvm.ClassFile.FieldType.char))).before args0 about1 = true := code_word (m := ⟨1, 2⟩) (meth := k1m2) (c := k1c2) (by decide +kernel) rfl rfl rfl (by decide +kernel)
set_option maxRecDepth 65536 in
theorem w_c2 : (Jvm.Cond.code ({ cls := "java/lang/String", name := "<init>", desc := "([C)V" } : Jvm.MethodName) jdk_42_method_3_code (2 : Nat) (Option.none : Option Jvm.ClassFile.FieldType)).before args0 about1 = true := code_word (m := ⟨7, 1⟩) (meth := k7m1) (c := k7c1) (by decide +kernel) rfl rfl rfl (by decide +kernel)
set_option maxRecDepth 65536 in
theorem w_c3 : (Jvm.Cond.code ({ cls := "java/lang/String", name := "<init>", desc := "([CIILjava/lang/Void;)V" } : Jvm.MethodName) jdk_42_method_149_code (6 : Nat) (Option.none : Option Jvm.ClassFile.FieldType)).before args0 about1 = true := code_word (m := ⟨7, 3⟩) (meth := k7m3) (c := k7c3) (by decide +kernel) rfl rfl rfl (by decide +kernel)
set_option maxRecDepth 65536 in
theorem w_c4 : (Jvm.Cond.code ({ cls := "java/lang/Object", name := "<init>", desc := "()V" } : Jvm.MethodName) object_method_1_code (1 : Nat) (Option.none : Option Jvm.ClassFile.FieldType)).before args0 about1 = true := code_word (m := ⟨0, 0⟩) (meth := k0m0) (c := k0c0) (by decide +kernel) rfl rfl rfl (by decide +kernel)
set_option maxRecDepth 65536 in
theorem w_c5 : (Jvm.Cond.code ({ cls := "java/lang/StringUTF16", name := "compress", desc := "([CII)[B" } : Jvm.MethodName) jdk_52_method_16_code (6 : Nat) (Option.some (Jvm.ClassFile.FieldType.array Jvm.ClassFile.FieldType.byte))).before args0 about1 = true := code_word (m := ⟨8, 2⟩) (meth := k8m2) (c := k8c2) (by decide +kernel) rfl rfl rfl (by decide +kernel)
set_option maxRecDepth 65536 in
theorem w_c6 : (Jvm.Cond.code ({ cls := "java/lang/StringUTF16", name := "compress", desc := "([CI[BII)I" } : Jvm.MethodName) jdk_52_method_21_code (7 : Nat) (Option.some Jvm.ClassFile.FieldType.int)).before args0 about1 = true := code_word (m := ⟨8, 3⟩) (meth := k8m3) (c := k8c3) (by decide +kernel) rfl rfl rfl (by decide +kernel)
set_option maxRecDepth 65536 in
theorem w_c7 : (Jvm.Cond.code ({ cls := "java/lang/StringUTF16", name := "coderFromArrayLen", desc := "([BI)B" } : Jvm.MethodName) jdk_52_method_15_code (2 : Nat) (Option.some Jvm.ClassFile.FieldType.byte)).before args0 about1 = true := code_word (m := ⟨8, 1⟩) (meth := k8m1) (c := k8c1) (by decide +kernel) rfl rfl rfl (by decide +kernel)
set_option maxRecDepth 65536 in
theorem w_c8 : (Jvm.Cond.code ({ cls := "com/example/writd/writd/model/GrantType", name := "fromValue", desc := "(Ljava/lang/String;)Lcom/example/writd/writd/model/GrantType;" } : Jvm.MethodName) prog_16_method_5_code (5 : Nat) (Option.some (Jvm.ClassFile.FieldType.object "com/example/writd/writd/model/GrantType"))).before args0 about1 = true := code_word (m := ⟨10, 1⟩) (meth := k10m1) (c := k10c1) (by decide +kernel) rfl rfl rfl (by decide +kernel)
set_option maxRecDepth 65536 in
theorem w_c9 : (Jvm.Cond.code ({ cls := "com/example/writd/writd/model/GrantType", name := "values", desc := "()[Lcom/example/writd/writd/model/GrantType;" } : Jvm.MethodName) prog_16_method_1_code (0 : Nat) (Option.some (Jvm.ClassFile.FieldType.array (Jvm.ClassFile.FieldType.object "com/example/writd/writd/model/GrantType")))).before args0 about1 = true := code_word (m := ⟨10, 0⟩) (meth := k10m0) (c := k10c0) (by decide +kernel) rfl rfl rfl (by decide +kernel)
set_option maxRecDepth 65536 in
theorem w_c10 : (Jvm.Cond.code ({ cls := "java/lang/String", name := "equals", desc := "(Ljava/lang/Object;)Z" } : Jvm.MethodName) jdk_42_method_66_code (3 : Nat) (Option.some Jvm.ClassFile.FieldType.boolean)).before args0 about1 = true := code_word (m := ⟨7, 2⟩) (meth := k7m2) (c := k7c2) (by decide +kernel) rfl rfl rfl (by decide +kernel)
set_option maxRecDepth 65536 in
theorem w_c11 : (Jvm.Cond.code ({ cls := "java/lang/StringLatin1", name := "equals", desc := "([B[B)Z" } : Jvm.MethodName) jdk_43_method_13_code (3 : Nat) (Option.some Jvm.ClassFile.FieldType.boolean)).before args0 about1 = true := code_word (m := ⟨12, 1⟩) (meth := k12m1) (c := k12c1) (by decide +kernel) rfl rfl rfl (by decide +kernel)
set_option maxRecDepth 65536 in
theorem w_c12 : (Jvm.Cond.code ({ cls := "com/example/writd/writd/model/GrantTypeFromValuePinLaw", name := "name19", desc := "(IC)[C" } : Jvm.MethodName) method_5_code (2 : Nat) (Option.some (Jvm.ClassFile.FieldType.array Jvm.ClassFile.FieldType.char))).before args0 about1 = true := code_word (m := ⟨1, 4⟩) (meth := k1m4) (c := k1c4) (by decide +kernel) rfl rfl rfl (by decide +kernel)
set_option maxRecDepth 65536 in
theorem w_c13 : (Jvm.Cond.code ({ cls := "com/example/writd/writd/model/GrantTypeFromValuePinLaw", name := "name17", desc := "(I)[C" } : Jvm.MethodName) method_4_code (1 : Nat) (Option.some (Jvm.ClassFile.FieldType.array Jvm.ClassFile.FieldType.char))).before args0 about1 = true := code_word (m := ⟨1, 3⟩) (meth := k1m3) (c := k1c3) (by decide +kernel) rfl rfl rfl (by decide +kernel)
def codes1 : List Jvm.Cond := [Jvm.Cond.code x code maxLocals ret, Jvm.Cond.code ({ cls := "com/example/writd/writd/model/GrantTypeFromValuePinLaw", name := "name18", desc := "(I)[C" } : Jvm.MethodName) method_3_code (1 : Nat) (Option.some (Jvm.ClassFile.FieldType.array Jvm.ClassFile.FieldType.char)), Jvm.Cond.code ({ cls := "java/lang/String", name := "<init>", desc := "([C)V" } : Jvm.MethodName) jdk_42_method_3_code (2 : Nat) (Option.none : Option Jvm.ClassFile.FieldType), Jvm.Cond.code ({ cls := "java/lang/String", name := "<init>", desc := "([CIILjava/lang/Void;)V" } : Jvm.MethodName) jdk_42_method_149_code (6 : Nat) (Option.none : Option Jvm.ClassFile.FieldType), Jvm.Cond.code ({ cls := "java/lang/Object", name := "<init>", desc := "()V" } : Jvm.MethodName) object_method_1_code (1 : Nat) (Option.none : Option Jvm.ClassFile.FieldType), Jvm.Cond.code ({ cls := "java/lang/StringUTF16", name := "compress", desc := "([CII)[B" } : Jvm.MethodName) jdk_52_method_16_code (6 : Nat) (Option.some (Jvm.ClassFile.FieldType.array Jvm.ClassFile.FieldType.byte)), Jvm.Cond.code ({ cls := "java/lang/StringUTF16", name := "compress", desc := "([CI[BII)I" } : Jvm.MethodName) jdk_52_method_21_code (7 : Nat) (Option.some Jvm.ClassFile.FieldType.int), Jvm.Cond.code ({ cls := "java/lang/StringUTF16", name := "coderFromArrayLen", desc := "([BI)B" } : Jvm.MethodName) jdk_52_method_15_code (2 : Nat) (Option.some Jvm.ClassFile.FieldType.byte), Jvm.Cond.code ({ cls := "com/example/writd/writd/model/GrantType", name := "fromValue", desc := "(Ljava/lang/String;)Lcom/example/writd/writd/model/GrantType;" } : Jvm.MethodName) prog_16_method_5_code (5 : Nat) (Option.some (Jvm.ClassFile.FieldType.object "com/example/writd/writd/model/GrantType")), Jvm.Cond.code ({ cls := "com/example/writd/writd/model/GrantType", name := "values", desc := "()[Lcom/example/writd/writd/model/GrantType;" } : Jvm.MethodName) prog_16_method_1_code (0 : Nat) (Option.some (Jvm.ClassFile.FieldType.array (Jvm.ClassFile.FieldType.object "com/example/writd/writd/model/GrantType"))), Jvm.Cond.code ({ cls := "java/lang/String", name := "equals", desc := "(Ljava/lang/Object;)Z" } : Jvm.MethodName) jdk_42_method_66_code (3 : Nat) (Option.some Jvm.ClassFile.FieldType.boolean), Jvm.Cond.code ({ cls := "java/lang/StringLatin1", name := "equals", desc := "([B[B)Z" } : Jvm.MethodName) jdk_43_method_13_code (3 : Nat) (Option.some Jvm.ClassFile.FieldType.boolean), Jvm.Cond.code ({ cls := "com/example/writd/writd/model/GrantTypeFromValuePinLaw", name := "name19", desc := "(IC)[C" } : Jvm.MethodName) method_5_code (2 : Nat) (Option.some (Jvm.ClassFile.FieldType.array Jvm.ClassFile.FieldType.char)), Jvm.Cond.code ({ cls := "com/example/writd/writd/model/GrantTypeFromValuePinLaw", name := "name17", desc := "(I)[C" } : Jvm.MethodName) method_4_code (1 : Nat) (Option.some (Jvm.ClassFile.FieldType.array Jvm.ClassFile.FieldType.char))]
set_option maxRecDepth 65536 in
theorem codes_eq : words1.filter isCode = codes1 := rfl
theorem w_codes : ∀ c ∈ words1.filter isCode, c.before args0 about1 = true := by
  rw [codes_eq]
  intro c hc
  simp only [codes1, List.mem_cons, List.not_mem_nil, or_false] at hc
  rcases hc with rfl | rfl | rfl | rfl | rfl | rfl | rfl | rfl | rfl | rfl | rfl | rfl | rfl | rfl
  · exact w_c0
  · exact w_c1
  · exact w_c2
  · exact w_c3
  · exact w_c4
  · exact w_c5
  · exact w_c6
  · exact w_c7
  · exact w_c8
  · exact w_c9
  · exact w_c10
  · exact w_c11
  · exact w_c12
  · exact w_c13
set_option maxRecDepth 65536 in
theorem w_t1 : (words1.take 24).all (fun c => isCode c || c.before args0 about1) = true := by decide +kernel
set_option maxRecDepth 65536 in
theorem w_t2 : ((words1.drop 24).take 24).all (fun c => isCode c || c.before args0 about1) = true := by decide +kernel
set_option maxRecDepth 65536 in
theorem w_t3 : (((words1.drop 24).drop 24).take 24).all (fun c => isCode c || c.before args0 about1) = true := by decide +kernel
set_option maxRecDepth 65536 in
theorem w_t4 : (((words1.drop 24).drop 24).drop 24).all (fun c => isCode c || c.before args0 about1) = true := by decide +kernel
theorem w_tables : (allAtoms (Jvm.Cond.code x code maxLocals ret :: tables_1)).before args0 about1 = true := by
  rw [allAtoms_all]
  show words1.all (fun c => c.before args0 about1) = true
  refine all_split ?_ w_codes
  rw [← List.take_append_drop 24 words1, List.all_append, w_t1, ← List.take_append_drop 24 (words1.drop 24), List.all_append, w_t2, ← List.take_append_drop 24 ((words1.drop 24).drop 24), List.all_append, w_t3, w_t4]
  rfl
set_option maxRecDepth 65536 in
theorem w_rest : rest_1_c.before args0 about1 = true := by decide +kernel
set_option maxRecDepth 65536 in
theorem w_case : (Jvm.Cond.and given_1 narrow_1).before args0 about1 = true := by decide +kernel
set_option maxRecDepth 65536 in
theorem w_consts : constsHeld consts_1 about1 := Jvm.Lit.constsHeldB_iff.mp (by decide +kernel)
theorem w_applies : (headSpec (Jvm.Cond.code x code maxLocals ret :: tables_1) room_1).applies x e0.platform about1 = true :=
  (Spec.applies_iff w_frames).mpr ⟨w_running, w_runnable, w_alone, w_named, w_hears, w_ripe, w_room, w_tables⟩
theorem atStart : AtStart classFile x code maxLocals ret World_1 tables_1 room_1 Calls_1 rest_1 Pre_1 launch0 p0 e0 about1 theMethod args0 below0 :=
  ⟨lists_1, trivial, launch0.admits_env _ _ _, launch0.least_env, fairChoices_fair.cas, fairChoices_fair.clock, w_frames, w_args, w_heap, w_applies, ⟨w_consts, trivial⟩, w_rest, w_case⟩
end start1
theorem witness_1 : WitnessClaimed_1 := ⟨start1.p0, start1.e0, start1.about1, start1.theMethod, start1.args0, start1.below0, start1.atStart⟩
end Jvm.Pilot.@@N@@
