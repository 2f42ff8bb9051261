import JvmDerived
import JvmDerived.Pilot.@@N@@Statement
import JvmDerived.Pilot.@@N@@Code
set_option linter.unusedVariables false
set_option linter.unusedSimpArgs false
namespace Jvm.RoadKit
open Sem ClassFile Op Lib Jvm.Stand Jvm.Free Jvm.LawKit
section New
variable {p : Program} {l : Launch} {e : Env} {R : Room} {s : State} {m : MethodId} {args : Array Value} {below : List Frame} {meth : Method} {c : Code} {T : State} {locs : List Loc} {cells slots : Nat}
theorem retI (X : Stand p l e R s m args below meth c T locs cells slots) (hx : p.tables.exec = Jvm.exec) {pc : Nat} {Ls : Array Slot} {z : Int32} {rest : List Value} (hret : meth.sig.returnType = some .int) (hd : decode c.code pc = .ok (.ireturn, 1)) {fs : List Frame}
    (hl : ∀ (f : JFrame) (acts : List Action), f.method = m → f.locked = none → f.entered = [] → (doReturn e (T.setTop f) acts (some (.int z))).1 = T.setFrames fs) : Steps p.tables e below (T.setTop (mkF m pc Ls (.int z :: rest))) (T.setFrames fs) := by
  have hm' : T.vm.method? m = some meth := X.method'
  have hn : narrow .int (.int z) = .int z := rfl
  show Steps p.tables e below (T.setTop { method := m, pc := pc, locals := Ls, stack := _ :: rest, locked := none }) _
  jvm_step X.here [X.here.top, hx, hd, hm', hret, hn]
  first | (intro acts; rw [hl _ acts rfl rfl rfl]) | rw [hl _ _ rfl rfl rfl]
  exact Steps.refl _
end New
end Jvm.RoadKit
/- laws to paste: Road.backV, Road.lenW, Road.codOf (cut by pick.py; bodies as the Statement names them) -/
namespace Jvm.Pilot.@@N@@
namespace StrChars
open Jvm Sem ClassFile Op Lib Jvm.Stand Jvm.Free.XT Jvm.Free.ALB Jvm.Free.JM Jvm.Free
open Jvm.Lib.Cold (StaticIs)
/-- a char array whose places are chars -/
def Ch (a : Addr) (A : Cell) (U : State) : Prop := Arr .char a A U ∧ Typed .char A
theorem Ch.mv {a : Addr} {A : Cell} {U U' : State} (h : Ch a A U) (hal : U.vm.Alike U'.vm) (hh : U'.heap = U.heap) : Ch a A U' := ⟨h.1.mv hal hh, h.2⟩
theorem Ch.keep {a : Addr} {A : Cell} {U U' : State} (h : Ch a A U) (hal : U.vm.Alike U'.vm) (hk : U'.heap[a]? = some A) : Ch a A U' := ⟨h.1.keep hal hk, h.2⟩
/-- what place i of a char[]'s cell holds -/
def cv (A : Cell) (i : Nat) : Int32 := match A.slots[i]? with | some (.int x) => x | _ => 0
theorem Ch.get {a : Addr} {A : Cell} {U : State} (h : Ch a A U) {i : Nat} (hi : i < A.slots.size) : A.slots[i]? = some (.int (cv A i)) := by
  have e := Array.getElem?_eq_getElem hi
  have f := h.2 i _ e
  unfold cv; rw [e]
  generalize A.slots[i] = v at f
  cases v <;> simp [fits] at f ⊢
/-- the byte that i2b leaves of a char -/
def lo8 (x : Int32) : Int32 := x.toInt8.toInt32
theorem fits_lo8 (y : Int32) : fits .byte (.int (lo8 y)) = true := by
  have h1 := y.toInt8.le_toInt
  have h2 := y.toInt8.toInt_lt
  simp only [lo8, fits, Bool.and_eq_true, decide_eq_true_eq, Int32.le_iff_toInt_le, Int8.toInt_toInt32, show (-128 : Int32).toInt = -128 from by decide, show (127 : Int32).toInt = 127 from by decide]
  omega
/-- A' is A but that each place j of lo .. hi - 1 holds f j -/
def Laid (A A' : Cell) (lo hi : Nat) (f : Nat → Value) : Prop := A'.cls = A.cls ∧ A'.vm = A.vm ∧ A'.slots.size = A.slots.size ∧ ∀ i, A'.slots[i]? = if lo ≤ i ∧ i < hi then some (f i) else A.slots[i]?
theorem Laid.zero (A : Cell) (lo : Nat) (f : Nat → Value) : Laid A A lo (lo + 0) f := ⟨rfl, rfl, rfl, fun i => by rw [if_neg (by omega)]⟩
theorem Laid.step {A Ak : Cell} {lo k : Nat} {f : Nat → Value} {v : Value} (h : Laid A Ak lo k f) (hlo : lo ≤ k) (hk : k < Ak.slots.size) (hv : v = f k) : Laid A (Ak.setSlot k v) lo (k + 1) f := by
  refine ⟨h.1, h.2.1, by simpa [Cell.setSlot] using h.2.2.1, fun i => ?_⟩
  by_cases e : k = i
  · subst e; rw [Cell.slots_setSlot_self v hk, if_pos (by omega), hv]
  · rw [Cell.slots_setSlot_ne v e, h.2.2.2 i]
    by_cases q : lo ≤ i ∧ i < k
    · rw [if_pos q, if_pos (by omega)]
    · rw [if_neg q, if_neg (by omega)]
def U16 : String := "java/lang/StringUTF16"
namespace Cmp5
def yN : MethodName := ⟨"java/lang/StringUTF16", "compress", "([CI[BII)I"⟩
abbrev yB : ByteArray := jdk_52_method_21_code
theorem d0 : decode yB 0 = .ok (.iconst 0, 1) := by decide +kernel
theorem d1 : decode yB 1 = .ok (.istore 5, 2) := by decide +kernel
theorem d3 : decode yB 3 = .ok (.iload 5, 2) := by decide +kernel
theorem d5 : decode yB 5 = .ok (.iload 4, 2) := by decide +kernel
theorem d7 : decode yB 7 = .ok (.if_icmp (.ge) 37, 3) := by decide +kernel
theorem d10 : decode yB 10 = .ok (.aload_n 0, 1) := by decide +kernel
theorem d11 : decode yB 11 = .ok (.iload_n 1, 1) := by decide +kernel
theorem d12 : decode yB 12 = .ok (.caload, 1) := by decide +kernel
theorem d13 : decode yB 13 = .ok (.istore 6, 2) := by decide +kernel
theorem d15 : decode yB 15 = .ok (.iload 6, 2) := by decide +kernel
theorem d17 : decode yB 17 = .ok (.sipush 255, 3) := by decide +kernel
theorem d20 : decode yB 20 = .ok (.if_icmp (.le) 6, 3) := by decide +kernel
theorem d26 : decode yB 26 = .ok (.aload_n 2, 1) := by decide +kernel
theorem d27 : decode yB 27 = .ok (.iload_n 3, 1) := by decide +kernel
theorem d28 : decode yB 28 = .ok (.iload 6, 2) := by decide +kernel
theorem d30 : decode yB 30 = .ok (.i2b, 1) := by decide +kernel
theorem d31 : decode yB 31 = .ok (.bastore, 1) := by decide +kernel
theorem d32 : decode yB 32 = .ok (.iinc 1 1, 3) := by decide +kernel
theorem d35 : decode yB 35 = .ok (.iinc 3 1, 3) := by decide +kernel
theorem d38 : decode yB 38 = .ok (.iinc 5 1, 3) := by decide +kernel
theorem d41 : decode yB 41 = .ok (.goto (-38), 3) := by decide +kernel
theorem d44 : decode yB 44 = .ok (.iload 4, 2) := by decide +kernel
theorem d46 : decode yB 46 = .ok (.ireturn, 1) := by decide +kernel
def site : List Cond := []
def tab : Cond := tabOf yN yB 7 (some .int) site
def P (b : Addr) (A : Cell) (d : Addr) (B : Cell) (o q len : Nat) (args : Array Value) (s : State) : Prop := args = #[.ref b, .int (Int32.ofNat o), .ref d, .int (Int32.ofNat q), .int (Int32.ofNat len)] ∧ Ch b A s ∧ Arr .byte d B s ∧ b ≠ d ∧ o + len ≤ A.slots.size ∧ q + len ≤ B.slots.size ∧ ∀ i, i < len → ¬ 255 < cv A (o + i)
def E (b : Addr) (A : Cell) (d : Addr) (B : Cell) (o q len : Nat) (r : Option Value) (s u : State) : Prop := r = some (.int (Int32.ofNat len)) ∧ ∃ B', Put d B' s u ∧ Laid B B' q (q + len) (fun j => Value.int (lo8 (cv A (o + (j - q)))))
/-- no char of the range above 255: len; the places written hold each char's low byte -/
theorem law (l : Launch) (b : Addr) (A : Cell) (d : Addr) (B : Cell) (o q len : Nat) : Law l yN 5 5 0 0 yB 7 (some .int) site (P b A d B o q len) (E b A d B o q len) (copyLocs d q len) 0 0 := by
  refine Law.of_walk (plainFor_of_name (by decide +kernel)) (by decide +kernel) (by decide +kernel) (by decide) (fun _ _ h => by rw [h.1]; rfl) (fun _ U U' hal hh h => ⟨h.1, h.2.1.mv hal hh, h.2.2.1.mv hal hh, h.2.2.2⟩) (fun r U U' V V' h1 hal h2 h => ⟨h.1, h.2.elim fun B' q => ⟨B', q.1.mv h1 h2, q.2⟩⟩) ?_
  intro p e s m args below meth c s₁ X0 hexec hbytes hml hret hlk hnm hown hh0 W hP
  obtain ⟨rfl, hA, hB, hne, l1, l2, hp⟩ := hP
  have c1 : Steps p.tables e below (s₁.setTop (entryFrame m #[.ref b, .int (Int32.ofNat o), .ref d, .int (Int32.ofNat q), .int (Int32.ofNat len)] 7)) (s₁.setTop (mkF m 0 #[.val (.ref b), .val (.int (Int32.ofNat o)), .val (.ref d), .val (.int (Int32.ofNat q)), .val (.int (Int32.ofNat len)), .unset, .unset] [])) := entry rfl
  have hA0 := hA.1.mv X0.warmed.alike hh0
  have hB0 := hB.mv X0.warmed.alike hh0
  have a31 := hA.1.2.2.2
  have c2 : Steps p.tables e below (s₁.setTop (entryFrame m #[.ref b, .int (Int32.ofNat o), .ref d, .int (Int32.ofNat q), .int (Int32.ofNat len)] 7)) (s₁.setTop (mkF m 3 #[.val (.ref b), .val (.int (Int32.ofNat o)), .val (.ref d), .val (.int (Int32.ofNat q)), .val (.int (Int32.ofNat len)), .val (.int 0), .unset] [])) := c1.trans (by
    refine iconstV X0.here hexec rfl 0 (hb hbytes d0) (by decide) ?_
    refine XS.istore X0.here hexec rfl (hb hbytes d1) rfl rfl ?_
    exact Steps.refl _)
  have loop : ∀ (r i : Nat), i + r = len → ∀ (z : Slot), (z = .unset ∨ ∃ w, z = .val w ∧ w.category = 1) → ∀ (Tl : State) (Bk : Cell), Stand p l e { frames := 0, locals := 0, cells := 0, slots := 0 } s m #[.ref b, .int (Int32.ofNat o), .ref d, .int (Int32.ofNat q), .int (Int32.ofNat len)] below meth c Tl ([] ++ copyLocs d q i) 0 0 → Put d Bk s₁ Tl → Laid B Bk q (q + i) (fun j => Value.int (lo8 (cv A (o + (j - q))))) →
      Steps p.tables e below (s₁.setTop (entryFrame m #[.ref b, .int (Int32.ofNat o), .ref d, .int (Int32.ofNat q), .int (Int32.ofNat len)] 7)) (Tl.setTop (mkF m 3 #[.val (.ref b), .val (.int (Int32.ofNat (o + i))), .val (.ref d), .val (.int (Int32.ofNat (q + i))), .val (.int (Int32.ofNat len)), .val (.int (Int32.ofNat i)), z] [])) → ∃ (T' : State) (B' : Cell) (z' : Slot), Stand p l e { frames := 0, locals := 0, cells := 0, slots := 0 } s m #[.ref b, .int (Int32.ofNat o), .ref d, .int (Int32.ofNat q), .int (Int32.ofNat len)] below meth c T' ([] ++ copyLocs d q len) 0 0 ∧ Put d B' s₁ T' ∧ Laid B B' q (q + len) (fun j => Value.int (lo8 (cv A (o + (j - q))))) ∧
      Steps p.tables e below (s₁.setTop (entryFrame m #[.ref b, .int (Int32.ofNat o), .ref d, .int (Int32.ofNat q), .int (Int32.ofNat len)] 7)) (T'.setTop (mkF m 3 #[.val (.ref b), .val (.int (Int32.ofNat (o + len))), .val (.ref d), .val (.int (Int32.ofNat (q + len))), .val (.int (Int32.ofNat len)), .val (.int (Int32.ofNat len)), z'] [])) := by
    intro r
    induction r with
    | zero =>
      intro i hi z hz Tl Bk Xl pl fl cl
      have hil : i = len := by omega
      rw [hil] at Xl fl cl
      exact ⟨Tl, Bk, z, Xl, pl, fl, cl⟩
    | succ r ih =>
      intro i hi z hz Tl Bk Xl pl fl cl
      have all := X0.warmed.alike.symm.trans Xl.warmed.alike
      have hAl := hA0.keep all (pl.other hne hA0.1)
      have hBk := hB0.like all pl.1 fl.1 fl.2.1 fl.2.2.1
      have hlt : q + i < Bk.slots.size := by rw [fl.2.2.1]; omega
      have c3 : Steps p.tables e below (s₁.setTop (entryFrame m #[.ref b, .int (Int32.ofNat o), .ref d, .int (Int32.ofNat q), .int (Int32.ofNat len)] 7)) (Tl.setTop (mkF m 12 #[.val (.ref b), .val (.int (Int32.ofNat (o + i))), .val (.ref d), .val (.int (Int32.ofNat (q + i))), .val (.int (Int32.ofNat len)), .val (.int (Int32.ofNat i)), z] [.int (Int32.ofNat (o + i)), .ref b])) := cl.trans (by
        refine XS.iload Xl.here hexec rfl (hb hbytes d3) rfl ?_
        refine XS.iload Xl.here hexec rfl (hb hbytes d5) rfl ?_
        refine XS.icmpNo Xl.here hexec rfl (hb hbytes d7) rfl (ii_ge_f (lt32 (by omega) (by omega))) ?_
        refine XS.aloadN Xl.here hexec rfl (hb hbytes d10) rfl rfl ?_
        refine XS.iloadN Xl.here hexec rfl (hb hbytes d11) rfl ?_
        exact Steps.refl _)
      have c4 : Steps p.tables e below (s₁.setTop (entryFrame m #[.ref b, .int (Int32.ofNat o), .ref d, .int (Int32.ofNat q), .int (Int32.ofNat len)] 7)) (Tl.setTop (mkF m 13 #[.val (.ref b), .val (.int (Int32.ofNat (o + i))), .val (.ref d), .val (.int (Int32.ofNat (q + i))), .val (.int (Int32.ofNat len)), .val (.int (Int32.ofNat i)), z] [.int (cv A (o + i))])) := c3.trans (by
        refine Xl.aget hexec hAl rfl (hA.get (i := o + i) (by omega)) rfl rfl (hb hbytes d12) ?_
        exact Steps.refl _)
      have c5 : Steps p.tables e below (s₁.setTop (entryFrame m #[.ref b, .int (Int32.ofNat o), .ref d, .int (Int32.ofNat q), .int (Int32.ofNat len)] 7)) (Tl.setTop (mkF m 15 #[.val (.ref b), .val (.int (Int32.ofNat (o + i))), .val (.ref d), .val (.int (Int32.ofNat (q + i))), .val (.int (Int32.ofNat len)), .val (.int (Int32.ofNat i)), .val (.int (cv A (o + i)))] [])) := c4.trans (by
        refine XS.istoreS Xl.here hexec rfl (hb hbytes d13) rfl rfl hz ?_
        exact Steps.refl _)
      have c6 : Steps p.tables e below (s₁.setTop (entryFrame m #[.ref b, .int (Int32.ofNat o), .ref d, .int (Int32.ofNat q), .int (Int32.ofNat len)] 7)) (Tl.setTop (mkF m 31 #[.val (.ref b), .val (.int (Int32.ofNat (o + i))), .val (.ref d), .val (.int (Int32.ofNat (q + i))), .val (.int (Int32.ofNat len)), .val (.int (Int32.ofNat i)), .val (.int (cv A (o + i)))] [.int (lo8 (cv A (o + i))), .int (Int32.ofNat (q + i)), .ref d])) := c5.trans (by
        refine XS.iload Xl.here hexec rfl (hb hbytes d15) rfl ?_
        refine sipushV Xl.here hexec rfl 255 (hb hbytes d17) (by decide) ?_
        refine XS.icmpYes Xl.here hexec rfl (pc0 := 20) rfl (hb hbytes d20) rfl (ii_le_t (hp i (by omega))) (by decide) rfl ?_
        refine XS.aloadN Xl.here hexec rfl (hb hbytes d26) rfl rfl ?_
        refine XS.iloadN Xl.here hexec rfl (hb hbytes d27) rfl ?_
        refine XS.iload Xl.here hexec rfl (hb hbytes d28) rfl ?_
        refine i2b Xl.here hexec rfl (hb hbytes d30) rfl ?_
        exact Steps.refl _)
      obtain ⟨T7, X7, p7, st7⟩ := Xl.aput hexec hBk rfl hlt rfl (fits_lo8 (cv A (o + i))) (g := (mkF m 31 #[.val (.ref b), .val (.int (Int32.ofNat (o + i))), .val (.ref d), .val (.int (Int32.ofNat (q + i))), .val (.int (Int32.ofNat len)), .val (.int (Int32.ofNat i)), .val (.int (cv A (o + i)))] [.int (lo8 (cv A (o + i))), .int (Int32.ofNat (q + i)), .ref d])) rfl (rest := []) rfl (hb hbytes d31)
      have c8 : Steps p.tables e below (s₁.setTop (entryFrame m #[.ref b, .int (Int32.ofNat o), .ref d, .int (Int32.ofNat q), .int (Int32.ofNat len)] 7)) (T7.setTop (mkF m 32 #[.val (.ref b), .val (.int (Int32.ofNat (o + i))), .val (.ref d), .val (.int (Int32.ofNat (q + i))), .val (.int (Int32.ofNat len)), .val (.int (Int32.ofNat i)), .val (.int (cv A (o + i)))] [])) := c6.trans (st7 _ (Steps.refl _))
      have c9 : Steps p.tables e below (s₁.setTop (entryFrame m #[.ref b, .int (Int32.ofNat o), .ref d, .int (Int32.ofNat q), .int (Int32.ofNat len)] 7)) (T7.setTop (mkF m 3 #[.val (.ref b), .val (.int (Int32.ofNat (o + i) + 1)), .val (.ref d), .val (.int (Int32.ofNat (q + i) + 1)), .val (.int (Int32.ofNat len)), .val (.int (Int32.ofNat i + 1)), .val (.int (cv A (o + i)))] [])) := c8.trans (by
        refine iincV X7.here hexec rfl 1 (hb hbytes d32) (by decide) rfl rfl ?_
        refine iincV X7.here hexec rfl 1 (hb hbytes d35) (by decide) rfl rfl ?_
        refine iincV X7.here hexec rfl 1 (hb hbytes d38) (by decide) rfl rfl ?_
        refine XS.goto X7.here hexec rfl (pc0 := 41) rfl (hb hbytes d41) (by decide) rfl ?_
        exact Steps.refl _)
      have c10 : Steps p.tables e below (s₁.setTop (entryFrame m #[.ref b, .int (Int32.ofNat o), .ref d, .int (Int32.ofNat q), .int (Int32.ofNat len)] 7)) (T7.setTop (mkF m 3 #[.val (.ref b), .val (.int (Int32.ofNat (o + (i + 1)))), .val (.ref d), .val (.int (Int32.ofNat (q + (i + 1)))), .val (.int (Int32.ofNat len)), .val (.int (Int32.ofNat (i + 1))), .val (.int (cv A (o + i)))] [])) := by
        have := c9
        rw [succ32, succ32, succ32] at this
        exact this
      exact ih (i + 1) (by omega) _ (Or.inr ⟨_, rfl, rfl⟩) T7 _ (by rw [copyLocs_step, ← List.append_assoc]; exact X7) (pl.trans p7) (fl.step (by omega) hlt (by simp)) c10
  obtain ⟨T9, B9, z9, X9, p9, f9, g9⟩ := loop len 0 (by omega) .unset (Or.inl rfl) s₁ B (by simpa [copyLocs] using X0) ⟨hB0.1, fun _ _ => rfl, rfl⟩ (Laid.zero _ _ _) c2
  have c11 : Steps p.tables e below (s₁.setTop (entryFrame m #[.ref b, .int (Int32.ofNat o), .ref d, .int (Int32.ofNat q), .int (Int32.ofNat len)] 7)) (T9.setTop (mkF m 46 #[.val (.ref b), .val (.int (Int32.ofNat (o + len))), .val (.ref d), .val (.int (Int32.ofNat (q + len))), .val (.int (Int32.ofNat len)), .val (.int (Int32.ofNat len)), z9] [.int (Int32.ofNat len)])) := g9.trans (by
    refine XS.iload X9.here hexec rfl (hb hbytes d3) rfl ?_
    refine XS.iload X9.here hexec rfl (hb hbytes d5) rfl ?_
    refine XS.icmpYes X9.here hexec rfl (pc0 := 7) rfl (hb hbytes d7) rfl (ii_ge_t (nlt32 (by omega) (Nat.le_refl _))) (by decide) rfl ?_
    refine XS.iload X9.here hexec rfl (hb hbytes d44) rfl ?_
    exact Steps.refl _)
  exact ⟨T9, some (.int (Int32.ofNat len)), _, _, _, X9, by simp, rfl, rfl, (fun h => by cases h), ⟨rfl, B9, p9.from hh0, f9⟩, fun fs hl => c11.trans (X9.ireturnOut hexec hret rfl (Or.inl rfl) (hb hbytes d46) hl)⟩
end Cmp5
namespace Cmp3
def yN : MethodName := ⟨"java/lang/StringUTF16", "compress", "([CII)[B"⟩
abbrev yB : ByteArray := jdk_52_method_16_code
theorem d0 : decode yB 0 = .ok (.iload_n 2, 1) := by decide +kernel
theorem d1 : decode yB 1 = .ok (.newarray .byte, 2) := by decide +kernel
theorem d3 : decode yB 3 = .ok (.astore_n 3, 1) := by decide +kernel
theorem d4 : decode yB 4 = .ok (.aload_n 0, 1) := by decide +kernel
theorem d5 : decode yB 5 = .ok (.iload_n 1, 1) := by decide +kernel
theorem d6 : decode yB 6 = .ok (.aload_n 3, 1) := by decide +kernel
theorem d7 : decode yB 7 = .ok (.iconst 0, 1) := by decide +kernel
theorem d8 : decode yB 8 = .ok (.iload_n 2, 1) := by decide +kernel
theorem d9 : decode yB 9 = .ok (.invokestatic 115, 3) := by decide +kernel
theorem d12 : decode yB 12 = .ok (.istore 4, 2) := by decide +kernel
theorem d14 : decode yB 14 = .ok (.iload 4, 2) := by decide +kernel
theorem d16 : decode yB 16 = .ok (.iload_n 2, 1) := by decide +kernel
theorem d17 : decode yB 17 = .ok (.if_icmp (.eq) 40, 3) := by decide +kernel
theorem d57 : decode yB 57 = .ok (.aload_n 3, 1) := by decide +kernel
theorem d58 : decode yB 58 = .ok (.areturn, 1) := by decide +kernel
def site : List Cond := [.arrayClass .byte, Cmp5.tab] ++ staticW U16 115 Cmp5.yN
def tab : Cond := tabOf yN yB 6 (some (.array .byte)) site
def P (b : Addr) (A : Cell) (o len : Nat) (args : Array Value) (s : State) : Prop := args = #[.ref b, .int (Int32.ofNat o), .int (Int32.ofNat len)] ∧ Ch b A s ∧ o + len ≤ A.slots.size ∧ len ≤ 536870912 ∧ ∀ i, i < len → ¬ 255 < cv A (o + i)
def E (b : Addr) (A : Cell) (o len : Nat) (r : Option Value) (s u : State) : Prop := NewArr .byte "[B" len (fun j => .int (lo8 (cv A (o + j)))) r s u ∧ u.heap.size = s.heap.size + 1
/-- no char of the range above 255: a new byte[] of their low bytes -/
theorem law (l : Launch) (b : Addr) (A : Cell) (o len : Nat) : Law l yN 3 3 1 18 yB 6 (some (.array .byte)) site (P b A o len) (E b A o len) [] 1 len := by
  refine Law.of_walk (plainFor_of_name (by decide +kernel)) (by decide +kernel) (by decide +kernel) (by decide) (fun _ _ h => by rw [h.1]; rfl) (fun _ U U' hal hh h => ⟨h.1, h.2.1.mv hal hh, h.2.2⟩) (fun r U U' V V' h1 hal h2 h => ⟨NewArr.mv r U U' V V' h1 hal h2 h.1, by rw [h1, h2]; exact h.2⟩) ?_
  intro p e s m args below meth c s₁ X0 hexec hbytes hml hret hlk hnm hown hh0 W hP
  obtain ⟨rfl, hA, l1, l2, hp⟩ := hP
  have a31 := hA.1.2.2.2
  have c1 : Steps p.tables e below (s₁.setTop (entryFrame m #[.ref b, .int (Int32.ofNat o), .int (Int32.ofNat len)] 6)) (s₁.setTop (mkF m 0 #[.val (.ref b), .val (.int (Int32.ofNat o)), .val (.int (Int32.ofNat len)), .unset, .unset, .unset] [])) := entry rfl
  have c2 : Steps p.tables e below (s₁.setTop (entryFrame m #[.ref b, .int (Int32.ofNat o), .int (Int32.ofNat len)] 6)) (s₁.setTop (mkF m 1 #[.val (.ref b), .val (.int (Int32.ofNat o)), .val (.int (Int32.ofNat len)), .unset, .unset, .unset] [.int (Int32.ofNat len)])) := c1.trans (by
    refine XS.iloadN X0.here hexec rfl (hb hbytes d0) rfl ?_
    exact Steps.refl _)
  obtain ⟨T3, B3, X3, ba3, bs3, bv3, bh3, bf3, st3⟩ := X0.anew hexec (atype := .byte) (wk W (.arrayClass .byte)) rfl (by show len * 1 ≤ _; omega) (by omega) (g := (mkF m 1 #[.val (.ref b), .val (.int (Int32.ofNat o)), .val (.int (Int32.ofNat len)), .unset, .unset, .unset] [.int (Int32.ofNat len)])) rfl (hb hbytes d1) (rest := []) rfl (Nat.le_refl _) (by show 0 + len ≤ len; omega)
  rw [hh0] at ba3 st3
  have kp3 : XT.Kept s T3 := (XT.Kept.of_eq hh0).push bh3
  have hA3 := hA.keep X3.warmed.alike (kp3 _ _ hA.1.1)
  have hne : b ≠ s.heap.size := hA.1.ne
  have c4 : Steps p.tables e below (s₁.setTop (entryFrame m #[.ref b, .int (Int32.ofNat o), .int (Int32.ofNat len)] 6)) (T3.setTop (mkF m 3 #[.val (.ref b), .val (.int (Int32.ofNat o)), .val (.int (Int32.ofNat len)), .unset, .unset, .unset] [.ref s.heap.size])) := c2.trans (st3 _ (Steps.refl _))
  have c5 : Steps p.tables e below (s₁.setTop (entryFrame m #[.ref b, .int (Int32.ofNat o), .int (Int32.ofNat len)] 6)) (T3.setTop (mkF m 9 #[.val (.ref b), .val (.int (Int32.ofNat o)), .val (.int (Int32.ofNat len)), .val (.ref s.heap.size), .unset, .unset] [.int (Int32.ofNat len), .int 0, .ref s.heap.size, .int (Int32.ofNat o), .ref b])) := c4.trans (by
    refine XS.astoreN X3.here hexec rfl (hb hbytes d3) rfl rfl rfl ?_
    refine XS.aloadN X3.here hexec rfl (hb hbytes d4) rfl rfl ?_
    refine XS.iloadN X3.here hexec rfl (hb hbytes d5) rfl ?_
    refine XS.aloadN X3.here hexec rfl (hb hbytes d6) rfl rfl ?_
    refine iconstV X3.here hexec rfl 0 (hb hbytes d7) (by decide) ?_
    refine XS.iloadN X3.here hexec rfl (hb hbytes d8) rfl ?_
    exact Steps.refl _)
  obtain ⟨v6, T6, X6, E6, g6⟩ := X3.callS hexec (Cmp5.law l b A s.heap.size B3 o 0 len) hown (wks W (staticW U16 115 Cmp5.yN)) (wk W Cmp5.tab) (W := 0) (Nat.le_of_ble_eq_true rfl) (Nat.le_of_ble_eq_true rfl) (Nat.le_refl _) (by show 0 + len + 0 ≤ len; omega) (g := (mkF m 9 #[.val (.ref b), .val (.int (Int32.ofNat o)), .val (.int (Int32.ofNat len)), .val (.ref s.heap.size), .unset, .unset] [.int (Int32.ofNat len), .int (Int32.ofNat 0), .ref s.heap.size, .int (Int32.ofNat o), .ref b])) rfl (by rw [hml]; rfl) c5 (argsL := [.ref b, .int (Int32.ofNat o), .ref s.heap.size, .int (Int32.ofNat 0), .int (Int32.ofNat len)]) (rest := []) rfl rfl (by show 2 * 0 + 0 ≤ _; decide) (hb hbytes d9) (⟨rfl, hA3, ba3, hne, l1, by rw [bs3]; simp, hp⟩)
  obtain ⟨rfl, B6, p6, f6⟩ := E6
  have c7 : Steps p.tables e below (s₁.setTop (entryFrame m #[.ref b, .int (Int32.ofNat o), .int (Int32.ofNat len)] 6)) (T6.setTop (mkF m 12 #[.val (.ref b), .val (.int (Int32.ofNat o)), .val (.int (Int32.ofNat len)), .val (.ref s.heap.size), .unset, .unset] [.int (Int32.ofNat len)])) := g6
  have c8 : Steps p.tables e below (s₁.setTop (entryFrame m #[.ref b, .int (Int32.ofNat o), .int (Int32.ofNat len)] 6)) (T6.setTop (mkF m 58 #[.val (.ref b), .val (.int (Int32.ofNat o)), .val (.int (Int32.ofNat len)), .val (.ref s.heap.size), .val (.int (Int32.ofNat len)), .unset] [.ref s.heap.size])) := c7.trans (by
    refine XS.istore X6.here hexec rfl (hb hbytes d12) rfl rfl ?_
    refine XS.iload X6.here hexec rfl (hb hbytes d14) rfl ?_
    refine XS.iloadN X6.here hexec rfl (hb hbytes d16) rfl ?_
    refine XS.icmpYes X6.here hexec rfl (pc0 := 17) rfl (hb hbytes d17) rfl (ii_eq_t rfl) (by decide) rfl ?_
    refine XS.aloadN X6.here hexec rfl (hb hbytes d57) rfl rfl ?_
    exact Steps.refl _)
  have X8 := X6.wide (L' := []) (cells' := 1) (slots' := len) (fun x hx hlt => by
    simp only [List.nil_append, copyLocs, List.mem_map, List.mem_range] at hx
    obtain ⟨i, -, rfl⟩ := hx
    exact absurd hlt (Nat.lt_irrefl _)) (Nat.le_refl _) (by omega)
  exact ⟨T6, some (.ref s.heap.size), _, _, _, X8, rfl, rfl, rfl, (fun h => by cases h), ⟨⟨rfl, B6, ba3.like (X3.warmed.alike.symm.trans X6.warmed.alike) p6.1 f6.1 f6.2.1 f6.2.2.1, f6.2.1.trans bv3, by rw [X6.warmed.alike.findClass, f6.1]; exact bf3, by rw [f6.2.2.1, bs3]; simp, fun j hj => by rw [f6.2.2.2 j, if_pos (by omega)]; rfl, kp3.put p6 (Nat.le_refl _)⟩, by rw [p6.2.2, bh3, hh0]; simp⟩, fun fs hl => c8.trans (X8.areturnOut hexec rfl hret rfl (hb hbytes d58) hl)⟩
end Cmp3
namespace CodL
def yN : MethodName := ⟨"java/lang/StringUTF16", "coderFromArrayLen", "([BI)B"⟩
abbrev yB : ByteArray := jdk_52_method_15_code
theorem d0 : decode yB 0 = .ok (.iload_n 1, 1) := by decide +kernel
theorem d1 : decode yB 1 = .ok (.aload_n 0, 1) := by decide +kernel
theorem d2 : decode yB 2 = .ok (.arraylength, 1) := by decide +kernel
theorem d3 : decode yB 3 = .ok (.isub, 1) := by decide +kernel
theorem d4 : decode yB 4 = .ok (.bipush 31, 2) := by decide +kernel
theorem d6 : decode yB 6 = .ok (.iushr, 1) := by decide +kernel
theorem d7 : decode yB 7 = .ok (.i2b, 1) := by decide +kernel
theorem d8 : decode yB 8 = .ok (.ireturn, 1) := by decide +kernel
def site : List Cond := []
def tab : Cond := tabOf yN yB 2 (some .byte) site
def P (d : Addr) (B : Cell) (args : Array Value) (s : State) : Prop := args = #[.ref d, .int (Int32.ofNat B.slots.size)] ∧ Arr .byte d B s
def E (r : Option Value) (s u : State) : Prop := XT.PureE (some (.int 0)) r s u
/-- an array as long as the number of chars: LATIN1 -/
theorem law (l : Launch) (d : Addr) (B : Cell) : Law l yN 2 2 0 0 yB 2 (some .byte) site (P d B) E [] 0 0 := by
  refine Law.of_walk (plainFor_of_name (by decide +kernel)) (by decide +kernel) (by decide +kernel) (by decide) (fun _ _ h => by rw [h.1]; rfl) (fun _ U U' hal hh h => ⟨h.1, h.2.mv hal hh⟩) (fun r U U' V V' h1 hal h2 h => XT.PureE.mv r U U' V V' h1 hal h2 h) ?_
  intro p e s m args below meth c s₁ X0 hexec hbytes hml hret hlk hnm hown hh0 W hP
  obtain ⟨rfl, hB⟩ := hP
  have hB0 := hB.mv X0.warmed.alike hh0
  have c1 : Steps p.tables e below (s₁.setTop (entryFrame m #[.ref d, .int (Int32.ofNat B.slots.size)] 2)) (s₁.setTop (mkF m 0 #[.val (.ref d), .val (.int (Int32.ofNat B.slots.size))] [])) := entry rfl
  have c2 : Steps p.tables e below (s₁.setTop (entryFrame m #[.ref d, .int (Int32.ofNat B.slots.size)] 2)) (s₁.setTop (mkF m 2 #[.val (.ref d), .val (.int (Int32.ofNat B.slots.size))] [.ref d, .int (Int32.ofNat B.slots.size)])) := c1.trans (by
    refine XS.iloadN X0.here hexec rfl (hb hbytes d0) rfl ?_
    refine XS.aloadN X0.here hexec rfl (hb hbytes d1) rfl rfl ?_
    exact Steps.refl _)
  have c3 : Steps p.tables e below (s₁.setTop (entryFrame m #[.ref d, .int (Int32.ofNat B.slots.size)] 2)) (s₁.setTop (mkF m 8 #[.val (.ref d), .val (.int (Int32.ofNat B.slots.size))] [.int (lo8 (ushr (Int32.ofNat B.slots.size - Int32.ofNat B.slots.size) 31))])) := c2.trans (by
    refine X0.alen hexec hB0 rfl rfl (hb hbytes d2) ?_
    refine XS.isub X0.here hexec rfl (hb hbytes d3) rfl ?_
    refine bipushV X0.here hexec rfl 31 (hb hbytes d4) (by decide) ?_
    refine iushr X0.here hexec rfl (hb hbytes d6) rfl ?_
    refine i2b X0.here hexec rfl (hb hbytes d7) rfl ?_
    exact Steps.refl _)
  have e0 : lo8 (ushr (Int32.ofNat B.slots.size - Int32.ofNat B.slots.size) 31) = 0 := by rw [Int32.sub_self]; decide
  rw [e0] at c3
  exact ⟨s₁, some (.int 0), _, _, _, X0, rfl, rfl, rfl, (fun h => by cases h), ⟨rfl, hh0⟩, fun fs hl => c3.trans (X0.ireturnOut hexec hret rfl (Or.inr (Or.inr (Or.inl rfl))) (hb hbytes d8) hl)⟩
end CodL
/-- the String at a is Latin-1 over a new byte[] (the heap's one new cell): the low bytes of the len chars of A from o on; every cell but a is kept -/
def Got (a : Addr) (D : Cell) (fV fC : Field) (A : Cell) (o len : Nat) (r : Option Value) (s u : State) : Prop := r = none ∧ ∃ D' V : Cell, Blank "java/lang/String" a D' u ∧ Same D D' [fV.slot, fC.slot] ∧ D'.slots[fV.slot]? = some (.ref s.heap.size) ∧ D'.slots[fC.slot]? = some (.int 0) ∧ Arr .byte s.heap.size V u ∧ V.vm = .none ∧ u.vm.findClass "[B" = some V.cls ∧ V.slots.size = len ∧ (∀ j, j < len → V.slots[j]? = some (.int (lo8 (cv A (o + j))))) ∧ (∀ (y : Addr) (c : Cell), y ≠ a → s.heap[y]? = some c → u.heap[y]? = some c) ∧ u.heap.size = s.heap.size + 1
theorem Got.mv {a : Addr} {D A : Cell} {fV fC : Field} {o len : Nat} : ∀ r (U U' V V' : State), U'.heap = U.heap → V.vm.Alike V'.vm → V'.heap = V.heap → Got a D fV fC A o len r U V → Got a D fV fC A o len r U' V' :=
  fun r U U' V V' h1 hal h2 ⟨e0, D', X, a1, a2, a3, a4, a5, a6, a7, a8, a9, a10, a11⟩ => ⟨e0, D', X, a1.mv hal h2, a2, by rw [h1]; exact a3, a4, by rw [h1]; exact a5.mv hal h2, a6, by rw [hal.findClass]; exact a7, a8, a9, by rw [h1, h2]; exact a10, by rw [h1, h2]; exact a11⟩
namespace New4
def yN : MethodName := ⟨"java/lang/String", "<init>", "([CIILjava/lang/Void;)V"⟩
abbrev yB : ByteArray := jdk_42_method_149_code
theorem d0 : decode yB 0 = .ok (.aload_n 0, 1) := by decide +kernel
theorem d1 : decode yB 1 = .ok (.invokespecial 1, 3) := by decide +kernel
theorem d4 : decode yB 4 = .ok (.iload_n 3, 1) := by decide +kernel
theorem d5 : decode yB 5 = .ok (.ifCond (.ne) 22, 3) := by decide +kernel
theorem d27 : decode yB 27 = .ok (.getstatic 38, 3) := by decide +kernel
theorem d30 : decode yB 30 = .ok (.ifCond (.eq) 28, 3) := by decide +kernel
theorem d33 : decode yB 33 = .ok (.aload_n 1, 1) := by decide +kernel
theorem d34 : decode yB 34 = .ok (.iload_n 2, 1) := by decide +kernel
theorem d35 : decode yB 35 = .ok (.iload_n 3, 1) := by decide +kernel
theorem d36 : decode yB 36 = .ok (.invokestatic 177, 3) := by decide +kernel
theorem d39 : decode yB 39 = .ok (.astore 5, 2) := by decide +kernel
theorem d41 : decode yB 41 = .ok (.aload_n 0, 1) := by decide +kernel
theorem d42 : decode yB 42 = .ok (.aload 5, 2) := by decide +kernel
theorem d44 : decode yB 44 = .ok (.iload_n 3, 1) := by decide +kernel
theorem d45 : decode yB 45 = .ok (.invokestatic 47, 3) := by decide +kernel
theorem d48 : decode yB 48 = .ok (.putfield 15, 3) := by decide +kernel
theorem d51 : decode yB 51 = .ok (.aload_n 0, 1) := by decide +kernel
theorem d52 : decode yB 52 = .ok (.aload 5, 2) := by decide +kernel
theorem d54 : decode yB 54 = .ok (.putfield 9, 3) := by decide +kernel
theorem d57 : decode yB 57 = .ok (.return_, 1) := by decide +kernel
def site : List Cond := [.fieldLink "java/lang/String" 38 "java/lang/String" "COMPACT_STRINGS" "Z", Cmp3.tab, CodL.tab, .laysFinal "java/lang/String" "java/lang/String" "value" "[B", .fieldLink "java/lang/String" 9 "java/lang/String" "value" "[B", .laysFinal "java/lang/String" "java/lang/String" "coder" "B", .fieldLink "java/lang/String" 15 "java/lang/String" "coder" "B"] ++ objW "java/lang/String" 1 ++ staticW "java/lang/String" 177 Cmp3.yN ++ staticW "java/lang/String" 47 CodL.yN
def tab : Cond := tabOf yN yB 6 none site
def P (a : Addr) (D : Cell) (fV fC : Field) (b : Addr) (A : Cell) (z : Int32) (o len : Nat) (args : Array Value) (s : State) : Prop := args = #[.ref a, .ref b, .int (Int32.ofNat o), .int (Int32.ofNat len), .null] ∧ Blank "java/lang/String" a D s ∧ Found "java/lang/String" "value" "[B" fV s ∧ Found "java/lang/String" "coder" "B" fC s ∧ Ch b A s ∧ StaticIs s "java/lang/String" "COMPACT_STRINGS" "Z" (.int z) ∧ ¬ z = 0 ∧ 0 < len ∧ o + len ≤ A.slots.size ∧ len ≤ 536870912 ∧ ∀ i, i < len → ¬ 255 < cv A (o + i)
def E (a : Addr) (D : Cell) (fV fC : Field) (A : Cell) (o len : Nat) (r : Option Value) (s u : State) : Prop := Got a D fV fC A o len r s u
/-- len > 0, no char of the range above 255: a Latin-1 String of their low bytes -/
theorem law (l : Launch) (a : Addr) (D : Cell) (fV fC : Field) (b : Addr) (A : Cell) (z : Int32) (o len : Nat) : Law l yN 5 4 2 35 yB 6 none site (P a D fV fC b A z o len) (E a D fV fC A o len) [⟨a, fC.slot⟩, ⟨a, fV.slot⟩] 1 len := by
  refine Law.of_walk (plainFor_of_name (by decide +kernel)) (by decide +kernel) (by decide +kernel) (by decide) (fun _ _ h => by rw [h.1]; rfl) (fun _ U U' hal hh h => ⟨h.1, h.2.1.mv hal hh, h.2.2.1.al hal, h.2.2.2.1.al hal, h.2.2.2.2.1.mv hal hh, h.2.2.2.2.2.1.there hal hh, h.2.2.2.2.2.2⟩) (fun r U U' V V' h1 hal h2 h => Got.mv r U U' V V' h1 hal h2 h) ?_
  intro p e s m args below meth c s₁ X0 hexec hbytes hml hret hlk hnm hown hh0 W hP
  obtain ⟨rfl, hB, f1, f2, hA, s1, hz, l0, l1, l2, hp⟩ := hP
  have a31 := hA.1.2.2.2
  have c1 : Steps p.tables e below (s₁.setTop (entryFrame m #[.ref a, .ref b, .int (Int32.ofNat o), .int (Int32.ofNat len), .null] 6)) (s₁.setTop (mkF m 0 #[.val (.ref a), .val (.ref b), .val (.int (Int32.ofNat o)), .val (.int (Int32.ofNat len)), .val .null, .unset] [])) := entry rfl
  have c2 : Steps p.tables e below (s₁.setTop (entryFrame m #[.ref a, .ref b, .int (Int32.ofNat o), .int (Int32.ofNat len), .null] 6)) (s₁.setTop (mkF m 1 #[.val (.ref a), .val (.ref b), .val (.int (Int32.ofNat o)), .val (.int (Int32.ofNat len)), .val .null, .unset] [.ref a])) := c1.trans (by
    refine XS.aloadN X0.here hexec rfl (hb hbytes d0) rfl rfl ?_
    exact Steps.refl _)
  obtain ⟨T3, X3, q3, st3⟩ := X0.oinit hexec hown (wks W (objW "java/lang/String" 1)) (g := (mkF m 1 #[.val (.ref a), .val (.ref b), .val (.int (Int32.ofNat o)), .val (.int (Int32.ofNat len)), .val .null, .unset] [.ref a])) rfl (by rw [hml]; rfl) (rest := []) rfl (hb hbytes d1) (W := 0) (by show 2 * 0 + 0 ≤ _; decide) (Nat.le_of_ble_eq_true rfl) (Nat.le_of_ble_eq_true rfl)
  have hh3 := q3.trans hh0
  have c4 : Steps p.tables e below (s₁.setTop (entryFrame m #[.ref a, .ref b, .int (Int32.ofNat o), .int (Int32.ofNat len), .null] 6)) (T3.setTop (mkF m 27 #[.val (.ref a), .val (.ref b), .val (.int (Int32.ofNat o)), .val (.int (Int32.ofNat len)), .val .null, .unset] [])) := (c2.trans (st3 _ (Steps.refl _))).trans (by
    refine XS.iloadN X3.here hexec rfl (hb hbytes d4) rfl ?_
    refine XS.ifYes X3.here hexec rfl (pc0 := 5) rfl (hb hbytes d5) rfl (i0_ne_t (nz32 (by omega) l0)) (by decide) rfl ?_
    exact Steps.refl _)
  obtain ⟨T5, X5, q5, st5⟩ := X3.sget hexec hown (wk W (.fieldLink "java/lang/String" 38 "java/lang/String" "COMPACT_STRINGS" "Z")) s1 (fun _ _ h => by rw [hh3]; exact h) (g := (mkF m 27 #[.val (.ref a), .val (.ref b), .val (.int (Int32.ofNat o)), .val (.int (Int32.ofNat len)), .val .null, .unset] [])) rfl (hb hbytes d27)
  have hh5 := q5.trans hh3
  have c6 : Steps p.tables e below (s₁.setTop (entryFrame m #[.ref a, .ref b, .int (Int32.ofNat o), .int (Int32.ofNat len), .null] 6)) (T5.setTop (mkF m 30 #[.val (.ref a), .val (.ref b), .val (.int (Int32.ofNat o)), .val (.int (Int32.ofNat len)), .val .null, .unset] [.int z])) := c4.trans (st5 _ (Steps.refl _))
  have c7 : Steps p.tables e below (s₁.setTop (entryFrame m #[.ref a, .ref b, .int (Int32.ofNat o), .int (Int32.ofNat len), .null] 6)) (T5.setTop (mkF m 36 #[.val (.ref a), .val (.ref b), .val (.int (Int32.ofNat o)), .val (.int (Int32.ofNat len)), .val .null, .unset] [.int (Int32.ofNat len), .int (Int32.ofNat o), .ref b])) := c6.trans (by
    refine XS.ifNo X5.here hexec rfl (hb hbytes d30) rfl (i0_eq_f hz) ?_
    refine XS.aloadN X5.here hexec rfl (hb hbytes d33) rfl rfl ?_
    refine XS.iloadN X5.here hexec rfl (hb hbytes d34) rfl ?_
    refine XS.iloadN X5.here hexec rfl (hb hbytes d35) rfl ?_
    exact Steps.refl _)
  obtain ⟨v8, T8, X8, E8, g8⟩ := X5.callS hexec (Cmp3.law l b A o len) hown (wks W (staticW "java/lang/String" 177 Cmp3.yN)) (wk W Cmp3.tab) (W := 0) (Nat.le_of_ble_eq_true rfl) (Nat.le_of_ble_eq_true rfl) (Nat.le_refl _) (by show 0 + len ≤ len; omega) (g := (mkF m 36 #[.val (.ref a), .val (.ref b), .val (.int (Int32.ofNat o)), .val (.int (Int32.ofNat len)), .val .null, .unset] [.int (Int32.ofNat len), .int (Int32.ofNat o), .ref b])) rfl (by rw [hml]; rfl) c7 (argsL := [.ref b, .int (Int32.ofNat o), .int (Int32.ofNat len)]) (rest := []) rfl rfl (by show 2 * 0 + 0 ≤ _; decide) (hb hbytes d36) (⟨rfl, hA.mv X5.warmed.alike hh5, l1, l2, hp⟩)
  obtain ⟨e8, z8⟩ := E8
  obtain ⟨rfl, N, n1, n2, n3, n4, n5, n6⟩ := NewArr.mv _ T5 s _ _ hh5.symm (Vm.Alike.refl _) rfl e8
  rw [hh5] at z8
  have hB1 := hB.keep X8.warmed.alike (n6 _ _ hB.1)
  have hne : s.heap.size ≠ a := (Nat.ne_of_lt (Array.getElem?_eq_some_iff.mp hB.1).1).symm
  have c9 : Steps p.tables e below (s₁.setTop (entryFrame m #[.ref a, .ref b, .int (Int32.ofNat o), .int (Int32.ofNat len), .null] 6)) (T8.setTop (mkF m 39 #[.val (.ref a), .val (.ref b), .val (.int (Int32.ofNat o)), .val (.int (Int32.ofNat len)), .val .null, .unset] [.ref s.heap.size])) := g8
  have c10 : Steps p.tables e below (s₁.setTop (entryFrame m #[.ref a, .ref b, .int (Int32.ofNat o), .int (Int32.ofNat len), .null] 6)) (T8.setTop (mkF m 45 #[.val (.ref a), .val (.ref b), .val (.int (Int32.ofNat o)), .val (.int (Int32.ofNat len)), .val .null, .val (.ref s.heap.size)] [.int (Int32.ofNat N.slots.size), .ref s.heap.size, .ref a])) := by
    have hc : Steps p.tables e below (s₁.setTop (entryFrame m #[.ref a, .ref b, .int (Int32.ofNat o), .int (Int32.ofNat len), .null] 6)) (T8.setTop (mkF m 45 #[.val (.ref a), .val (.ref b), .val (.int (Int32.ofNat o)), .val (.int (Int32.ofNat len)), .val .null, .val (.ref s.heap.size)] [.int (Int32.ofNat len), .ref s.heap.size, .ref a])) := c9.trans (by
      refine XS.astore X8.here hexec rfl (hb hbytes d39) rfl rfl rfl ?_
      refine XS.aloadN X8.here hexec rfl (hb hbytes d41) rfl rfl ?_
      refine XS.aload X8.here hexec rfl (hb hbytes d42) rfl rfl ?_
      refine XS.iloadN X8.here hexec rfl (hb hbytes d44) rfl ?_
      exact Steps.refl _)
    rw [n4]; exact hc
  obtain ⟨v11, T11, X11, E11, g11⟩ := X8.callS hexec (CodL.law l s.heap.size N) hown (wks W (staticW "java/lang/String" 47 CodL.yN)) (wk W CodL.tab) (W := 1) (Nat.le_of_ble_eq_true rfl) (Nat.le_of_ble_eq_true rfl) (Nat.le_refl _) (by show 0 + len + 0 ≤ len; omega) (g := (mkF m 45 #[.val (.ref a), .val (.ref b), .val (.int (Int32.ofNat o)), .val (.int (Int32.ofNat len)), .val .null, .val (.ref s.heap.size)] [.int (Int32.ofNat N.slots.size), .ref s.heap.size, .ref a])) rfl (by rw [hml]; rfl) c10 (argsL := [.ref s.heap.size, .int (Int32.ofNat N.slots.size)]) (rest := [.ref a]) rfl rfl (by show 2 * 0 + (1 + 0) ≤ _; decide) (hb hbytes d45) (⟨rfl, n1⟩)
  obtain ⟨rfl, q11⟩ := E11
  have hB11 := hB1.mv (X8.warmed.alike.symm.trans X11.warmed.alike) q11
  have c12 : Steps p.tables e below (s₁.setTop (entryFrame m #[.ref a, .ref b, .int (Int32.ofNat o), .int (Int32.ofNat len), .null] 6)) (T11.setTop (mkF m 48 #[.val (.ref a), .val (.ref b), .val (.int (Int32.ofNat o)), .val (.int (Int32.ofNat len)), .val .null, .val (.ref s.heap.size)] [.int 0, .ref a])) := g11
  obtain ⟨T13, X13, p13, bl13, sl13, st13⟩ := X11.finit hexec hown (wk W (.fieldLink "java/lang/String" 15 "java/lang/String" "coder" "B")) (Or.inr ⟨_, (wk W (.laysFinal "java/lang/String" "java/lang/String" "coder" "B"))⟩) (Or.inl ⟨rfl, hnm⟩) f2 (Or.inl rfl) hB11 (t := .byte) (by decide +kernel) rfl (g := (mkF m 48 #[.val (.ref a), .val (.ref b), .val (.int (Int32.ofNat o)), .val (.int (Int32.ofNat len)), .val .null, .val (.ref s.heap.size)] [.int 0, .ref a])) rfl (rest := []) rfl (hb hbytes d48)
  have c14 : Steps p.tables e below (s₁.setTop (entryFrame m #[.ref a, .ref b, .int (Int32.ofNat o), .int (Int32.ofNat len), .null] 6)) (T13.setTop (mkF m 54 #[.val (.ref a), .val (.ref b), .val (.int (Int32.ofNat o)), .val (.int (Int32.ofNat len)), .val .null, .val (.ref s.heap.size)] [.ref s.heap.size, .ref a])) := (c12.trans (st13 _ (Steps.refl _))).trans (by
    refine XS.aloadN X13.here hexec rfl (hb hbytes d51) rfl rfl ?_
    refine XS.aload X13.here hexec rfl (hb hbytes d52) rfl rfl ?_
    exact Steps.refl _)
  obtain ⟨T15, X15, p15, bl15, sl15, st15⟩ := X13.finit hexec hown (wk W (.fieldLink "java/lang/String" 9 "java/lang/String" "value" "[B")) (Or.inr ⟨_, (wk W (.laysFinal "java/lang/String" "java/lang/String" "value" "[B"))⟩) (Or.inl ⟨rfl, hnm⟩) f1 (Or.inl rfl) bl13 (t := (.array .byte)) (by decide +kernel) rfl (g := (mkF m 54 #[.val (.ref a), .val (.ref b), .val (.int (Int32.ofNat o)), .val (.int (Int32.ofNat len)), .val .null, .val (.ref s.heap.size)] [.ref s.heap.size, .ref a])) rfl (rest := []) rfl (hb hbytes d54)
  have c16 : Steps p.tables e below (s₁.setTop (entryFrame m #[.ref a, .ref b, .int (Int32.ofNat o), .int (Int32.ofNat len), .null] 6)) (T15.setTop (mkF m 57 #[.val (.ref a), .val (.ref b), .val (.int (Int32.ofNat o)), .val (.int (Int32.ofNat len)), .val .null, .val (.ref s.heap.size)] [])) := c14.trans (st15 _ (Steps.refl _))
  have ap := apart (Or.inr ⟨_, (wk W (.laysFinal "java/lang/String" "java/lang/String" "value" "[B"))⟩) (Or.inr ⟨_, (wk W (.laysFinal "java/lang/String" "java/lang/String" "coder" "B"))⟩) f1 f2 (t₁ := .array .byte) (t₂ := .byte) (by decide +kernel) (by decide +kernel) (by decide)
  have al := X8.warmed.alike.symm.trans X15.warmed.alike
  have n7 : T11.heap[s.heap.size]? = some N := by rw [q11]; exact n1.1
  exact ⟨T15, none, _, _, _, X15, by simp, rfl, by omega, (fun _ => rfl), ⟨rfl, _, N, bl15, ((Same.refl D _).set _ (by simp)).set _ (by simp), sl15, (Cell.slots_setSlot_ne _ ap).trans sl13, n1.keep al (p15.other hne (p13.other hne n7)), n2, by rw [al.findClass]; exact n3, n4, n5, fun y c h1 h2 => p15.other h1 (p13.other h1 (by rw [q11]; exact n6 y c h2)), by rw [p15.2.2, p13.2.2, q11]; exact z8⟩, fun fs hl => c16.trans (X15.returnOut hexec hret (hb hbytes d57) hl)⟩
end New4
namespace New1
def yN : MethodName := ⟨"java/lang/String", "<init>", "([C)V"⟩
abbrev yB : ByteArray := jdk_42_method_3_code
theorem d0 : decode yB 0 = .ok (.aload_n 0, 1) := by decide +kernel
theorem d1 : decode yB 1 = .ok (.aload_n 1, 1) := by decide +kernel
theorem d2 : decode yB 2 = .ok (.iconst 0, 1) := by decide +kernel
theorem d3 : decode yB 3 = .ok (.aload_n 1, 1) := by decide +kernel
theorem d4 : decode yB 4 = .ok (.arraylength, 1) := by decide +kernel
theorem d5 : decode yB 5 = .ok (.aconst_null, 1) := by decide +kernel
theorem d6 : decode yB 6 = .ok (.invokespecial 27, 3) := by decide +kernel
theorem d9 : decode yB 9 = .ok (.return_, 1) := by decide +kernel
def site : List Cond := [New4.tab] ++ initW "java/lang/String" 27 New4.yN
def tab : Cond := tabOf yN yB 2 none site
def P (a : Addr) (D : Cell) (fV fC : Field) (b : Addr) (A : Cell) (z : Int32) (args : Array Value) (s : State) : Prop := args = #[.ref a, .ref b] ∧ Blank "java/lang/String" a D s ∧ Found "java/lang/String" "value" "[B" fV s ∧ Found "java/lang/String" "coder" "B" fC s ∧ Ch b A s ∧ StaticIs s "java/lang/String" "COMPACT_STRINGS" "Z" (.int z) ∧ ¬ z = 0 ∧ 0 < A.slots.size ∧ A.slots.size ≤ 536870912 ∧ ∀ i, i < A.slots.size → ¬ 255 < cv A i
def E (a : Addr) (D : Cell) (fV fC : Field) (A : Cell) (r : Option Value) (s u : State) : Prop := Got a D fV fC A 0 A.slots.size r s u
/-- new String(chars), not empty, no char above 255: a Latin-1 String of their low bytes -/
theorem law (l : Launch) (a : Addr) (D : Cell) (fV fC : Field) (b : Addr) (A : Cell) (z : Int32) : Law l yN 2 1 3 52 yB 2 none site (P a D fV fC b A z) (E a D fV fC A) [⟨a, fC.slot⟩, ⟨a, fV.slot⟩] 1 A.slots.size := by
  refine Law.of_walk (plainFor_of_name (by decide +kernel)) (by decide +kernel) (by decide +kernel) (by decide) (fun _ _ h => by rw [h.1]; rfl) (fun _ U U' hal hh h => ⟨h.1, h.2.1.mv hal hh, h.2.2.1.al hal, h.2.2.2.1.al hal, h.2.2.2.2.1.mv hal hh, h.2.2.2.2.2.1.there hal hh, h.2.2.2.2.2.2⟩) (fun r U U' V V' h1 hal h2 h => Got.mv r U U' V V' h1 hal h2 h) ?_
  intro p e s m args below meth c s₁ X0 hexec hbytes hml hret hlk hnm hown hh0 W hP
  obtain ⟨rfl, hB, f1, f2, hA, s1, hz, l0, l2, hp⟩ := hP
  have c1 : Steps p.tables e below (s₁.setTop (entryFrame m #[.ref a, .ref b] 2)) (s₁.setTop (mkF m 0 #[.val (.ref a), .val (.ref b)] [])) := entry rfl
  have c2 : Steps p.tables e below (s₁.setTop (entryFrame m #[.ref a, .ref b] 2)) (s₁.setTop (mkF m 6 #[.val (.ref a), .val (.ref b)] [.null, .int (Int32.ofNat A.slots.size), .int 0, .ref b, .ref a])) := c1.trans (by
    refine XS.aloadN X0.here hexec rfl (hb hbytes d0) rfl rfl ?_
    refine XS.aloadN X0.here hexec rfl (hb hbytes d1) rfl rfl ?_
    refine iconstV X0.here hexec rfl 0 (hb hbytes d2) (by decide) ?_
    refine XS.aloadN X0.here hexec rfl (hb hbytes d3) rfl rfl ?_
    refine X0.alen hexec (hA.1.mv X0.warmed.alike hh0) rfl rfl (hb hbytes d4) ?_
    refine XS.aconstNull X0.here hexec rfl (hb hbytes d5) ?_
    exact Steps.refl _)
  obtain ⟨v3, T3, X3, E3, g3⟩ := X0.callN hexec (New4.law l a D fV fC b A z 0 A.slots.size) rfl hown (wks W (initW "java/lang/String" 27 New4.yN)) (W New4.tab (by simp only [site, List.mem_cons, List.mem_append, true_or, or_true])) (W := 0) (Nat.le_of_ble_eq_true rfl) (Nat.le_of_ble_eq_true rfl) (Nat.le_refl _) (by show 0 + A.slots.size ≤ A.slots.size; omega) (g := (mkF m 6 #[.val (.ref a), .val (.ref b)] [.null, .int (Int32.ofNat A.slots.size), .int (Int32.ofNat 0), .ref b, .ref a])) rfl (by rw [hml]; rfl) c2 (argsL := [.ref b, .int (Int32.ofNat 0), .int (Int32.ofNat A.slots.size), .null]) (rest := []) rfl rfl (by show 2 * 0 + 0 ≤ _; decide) (hb hbytes d6) (⟨rfl, hB.mv X0.warmed.alike hh0, f1.al X0.warmed.alike, f2.al X0.warmed.alike, hA.mv X0.warmed.alike hh0, s1.there X0.warmed.alike hh0, hz, l0, by omega, l2, fun i hi => by rw [Nat.zero_add]; exact hp i hi⟩)
  have e0 := Got.mv _ s₁ s _ _ hh0.symm (Vm.Alike.refl _) rfl E3
  obtain rfl := e0.1
  have c4 : Steps p.tables e below (s₁.setTop (entryFrame m #[.ref a, .ref b] 2)) (T3.setTop (mkF m 9 #[.val (.ref a), .val (.ref b)] [])) := g3
  exact ⟨T3, none, _, _, _, X3, by simp, rfl, by omega, (fun _ => rfl), e0, fun fs hl => c4.trans (X3.returnOut hexec hret (hb hbytes d9) hl)⟩
theorem pays {l : Launch} {R : Room} {p : Program} {e : Env} {below : List Frame} {s : State} {sargs : Array Value} {len W : Nat} (a : Addr) (D : Cell) (fV fC : Field) (b : Addr) (A : Cell) (z : Int32) (htab : tab.before sargs s = true) (hfr : 4 ≤ R.frames) (hlo : W + 65 ≤ R.locals) :
    Back l R p e below s sargs yN len W (fun A₁ a₁ => A₁.cells + 1 ≤ R.cells ∧ A₁.slots + A.slots.size ≤ R.slots ∧ P a D fV fC b A z a₁ A₁.U) (fun A₁ _ v₁ B₁ => E a D fV fC A v₁ A₁.U B₁.U ∧ B₁.locs = A₁.locs ++ [⟨a, fC.slot⟩, ⟨a, fV.slot⟩] ∧ B₁.cells = A₁.cells + 1 ∧ B₁.slots = A₁.slots + A.slots.size) :=
  (law l a D fV fC b A z).pays htab hfr (by omega)
end New1
end StrChars
namespace StrChars.Road
open Jvm Sem ClassFile Op Lib Jvm.Stand Jvm.Free Jvm.Free.XT
open Jvm.Lib.Cold (StaticIs)
abbrev ST : String := "java/lang/String"
/-- every table word that New1's law asks, flat -/
abbrev words : List Jvm.Cond := [.code New1.yN New1.yB 2 none, .initialized ST, .methodLink ST 27 New4.yN, .instanceMethod New4.yN,
  .code New4.yN New4.yB 6 none, .fieldLink ST 38 ST "COMPACT_STRINGS" "Z", .laysFinal ST ST "value" "[B", .fieldLink ST 9 ST "value" "[B", .laysFinal ST ST "coder" "B", .fieldLink ST 15 ST "coder" "B",
  .methodLink ST 1 Lib.objectInit, .instanceMethod Lib.objectInit, .code Lib.objectInit ⟨#[0xb1]⟩ 1 none, .methodLink ST 177 Cmp3.yN, .static Cmp3.yN, .methodLink ST 47 CodL.yN, .static CodL.yN,
  .code Cmp3.yN Cmp3.yB 6 (some (.array .byte)), .initialized U16, .arrayClass .byte, .methodLink U16 115 Cmp5.yN, .static Cmp5.yN, .code Cmp5.yN Cmp5.yB 7 (some .int), .code CodL.yN CodL.yB 2 (some .byte)]
theorem tab_of {a : Array Value} {s : State} (h : ∀ w ∈ words, w.before a s = true) : New1.tab.before a s = true := by
  have h5 : Cmp5.tab.before a s = true := unparts (wk h (.code Cmp5.yN Cmp5.yB 7 (some .int))) (wks h (.initialized Cmp5.yN.cls :: Cmp5.site))
  have hc : CodL.tab.before a s = true := unparts (wk h (.code CodL.yN CodL.yB 2 (some .byte))) (wks h (.initialized CodL.yN.cls :: CodL.site))
  have q5 : ∀ w ∈ Cmp5.tab :: words, w.before a s = true := fun w hw => (List.mem_cons.mp hw).elim (fun e => e ▸ h5) (h w)
  have h3 : Cmp3.tab.before a s = true := unparts (wk q5 (.code Cmp3.yN Cmp3.yB 6 (some (.array .byte)))) (wks q5 (.initialized Cmp3.yN.cls :: Cmp3.site))
  have q3 : ∀ w ∈ Cmp3.tab :: CodL.tab :: words, w.before a s = true := fun w hw => (List.mem_cons.mp hw).elim (fun e => e ▸ h3) fun hw => (List.mem_cons.mp hw).elim (fun e => e ▸ hc) (h w)
  have h4 : New4.tab.before a s = true := unparts (wk q3 (.code New4.yN New4.yB 6 none)) (wks q3 (.initialized New4.yN.cls :: New4.site))
  have q4 : ∀ w ∈ New4.tab :: words, w.before a s = true := fun w hw => (List.mem_cons.mp hw).elim (fun e => e ▸ h4) (h w)
  exact unparts (wk q4 (.code New1.yN New1.yB 2 none)) (wks q4 (.initialized New1.yN.cls :: New1.site))
/-- the words ride from the start Z to the walk's own state -/
theorem moved {Z s : State} {a0 args : Array Value} (hZ : Z.Warmed39 s.vm) (hw : ∀ d ∈ words, d.before a0 Z = true) : ∀ d ∈ words, d.before args s = true := fun d hd => by
  have q := hw d hd
  have t : ∀ d ∈ words, d = .arrayClass .byte ∨ (d.onTables && d.keepsFace) = true := by decide +kernel
  rcases t d hd with rfl | t
  · exact RoadKit.mvA hZ q
  · exact RoadKit.mv hZ q t
/-- WHAT COMES BACK, over the tables of the start Z: h the heap at the call, h' behind it -/
def Q (Z : State) (x : Addr) (A : Cell) (h : Heap) (v : Option Value) (h' : Heap) (L : List Loc) : Prop := v = none ∧ (∀ y ∈ L, y.base = x) ∧ RoadKit.Keep h h' [x] ∧ h'.size = h.size + 1 ∧ RoadKit.Exa Z h' x ST ∧ RoadKit.Fld Z h' x ST "value" "[B" (.ref h.size) ∧ RoadKit.Fld Z h' x ST "coder" "B" (.int 0) ∧
  (∃ V : Cell, RoadKit.Arr Z h' h.size V .byte ∧ V.vm = .none ∧ Z.vm.findClass "[B" = some V.cls ∧ V.slots.size = A.slots.size ∧ ∀ j, j < A.slots.size → V.slots[j]? = some (.int (lo8 (cv A j)))) ∧
  ∀ (O n d : String) (w : Value), RoadKit.Fld Z h x O n d w → RoadKit.slotOf Z O n d ≠ RoadKit.slotOf Z ST "value" "[B" → RoadKit.slotOf Z O n d ≠ RoadKit.slotOf Z ST "coder" "B" → RoadKit.Fld Z h' x O n d w
/-- **new String(chars) AT A CALL, IN THE ROAD'S FORM**: for specialBack behind newO: x the fresh String, b the char[] with the cell A -/
theorem back {p : Program} {l : Launch} {e : Env} {R : Room} {s : State} {args : Array Value} {below : List Frame} {len W : Nat} {Z : State} {a0 : Array Value} {h : Heap} (hZ : Z.Warmed39 s.vm) (hw : ∀ d ∈ words, d.before a0 Z = true) {kI : Nat} (wi : (Jvm.Cond.instantiable ST kI).before a0 Z = true)
    {x b : Addr} {A : Cell} {z : Int32} {v0 c0 : Value} (E : RoadKit.Exa Z h x ST) (V : RoadKit.Fld Z h x ST "value" "[B" v0) (C : RoadKit.Fld Z h x ST "coder" "B" c0) (K : RoadKit.Arr Z h b A .char) (hty : Typed .char A) (S : RoadKit.Sta Z h ST "COMPACT_STRINGS" "Z" (.int z)) (hz : ¬ z = 0)
    (l0 : 0 < A.slots.size) (l2 : A.slots.size ≤ 536870912) (hp : ∀ i, i < A.slots.size → ¬ 255 < cv A i) (hfr : 4 ≤ R.frames) (hlo : W + 65 ≤ R.locals) :
    Back l R p e below s args New1.yN len W (fun P a => a = #[.ref x, .ref b] ∧ P.U.heap = h ∧ P.cells + 1 ≤ R.cells ∧ P.slots + A.slots.size ≤ R.slots)
      (fun P _ v B => ∃ L, Q Z x A h v B.U.heap L ∧ B.locs = P.locs ++ L ∧ B.cells = P.cells + 1 ∧ B.slots = P.slots + A.slots.size) := by
  intro m meth c P g ig mk a X hg hsize hdg hW hn hp'
  obtain ⟨rfl, rfl, r1, r2⟩ := hp'
  have al : Z.vm.Alike P.U.vm := hZ.alike.trans X.warmed.alike
  obtain ⟨D, cfV, kV, iV, fV, hD, gV, stV, knV, obV, asV, slV⟩ := id V
  obtain ⟨D', cfC, kC, iC, fC, hD', gC, stC, -, -, asC, slC⟩ := id C
  cases hD.symm.trans hD'
  obtain ⟨D2, kD, e1, e2, e3, e4, e5⟩ := id E
  cases hD.symm.trans e1
  obtain ⟨c2, k2, i1, i2, i3, -⟩ := Cond.instantiable_spec wi
  cases e2.symm.trans i1
  cases e3.symm.trans i2
  obtain ⟨kU, u1, u2⟩ := al.2.2 _ _ e3
  have hB : Blank ST x D P.U := ⟨hD, ⟨knV, fun q hq => by rw [hq] at obV; cases obV⟩, by rw [al.findClass]; exact e2, kU, u1, by rw [u2]; exact i3, by rw [u2]; exact e5 i3⟩
  have F1 : Found ST "value" "[B" fV P.U := ⟨SBG.found_only al ⟨cfV, kV, iV, gV⟩, stV⟩
  have F2 : Found ST "coder" "B" fC P.U := ⟨SBG.found_only al ⟨cfC, kC, iC, gC⟩, stC⟩
  have hA : Ch b A P.U := ⟨⟨K.1, State.isArrayOf_alike al K.2.1, K.2.2, by omega⟩, hty⟩
  have hS : StaticIs P.U ST "COMPACT_STRINGS" "Z" (.int z) := by
    obtain ⟨cfS, iS, kS, fS, st, cS, t1, t2, t3, t4, t5, t6, t7⟩ := S
    exact StaticIs.there (s := { Z with heap := P.U.heap }) ⟨cfS, iS, kS, fS, st, cS, t1, t2, t3, t4, t5, (fun q => by rw [q] at t6; cases t6), t7⟩ al rfl
  obtain ⟨v, B, X', ⟨⟨hv, E', V', q1, q2, q3, q4, q5, q6, q7, q8, q9, q10, q11⟩, hl, hc, hs⟩, st⟩ := New1.pays x D fV fC b A z (tab_of (moved hZ hw)) hfr hlo m meth c P g ig mk _ X hg hsize hdg hW hn ⟨r1, r2, rfl, hB, F1, F2, hA, hS, hz, l0, l2, hp⟩
  have al' : Z.vm.Alike B.U.vm := hZ.alike.trans X'.warmed.alike
  have hsz : E'.slots.size = D.slots.size := by
    obtain ⟨-, -, -, kB, w1, w2, w3⟩ := q1
    obtain ⟨kB', y1, y2⟩ := al'.2.2 _ _ e3
    rw [q2.2.1] at w1
    cases w1.symm.trans y1
    rw [w3, e5 i3, y2]
  refine ⟨v, B, X', ⟨_, ⟨hv, ?_, ⟨by omega, fun y cy hy hn' => q10 y cy (by simpa using hn') hy, fun y cy hy => ?_⟩, q11, ⟨E', _, q1.1, by rw [q2.2.1]; exact e2, by rw [q2.2.1]; exact e3, by rw [q2.1]; exact obV, fun _ => by rw [hsz]; exact e5 i3⟩,
    ⟨E', cfV, kV, iV, fV, q1.1, gV, stV, by rw [q2.1]; exact knV, by rw [q2.1]; exact obV, by rw [q2.2.1]; exact asV, q3⟩, ⟨E', cfC, kC, iC, fC, q1.1, gC, stC, by rw [q2.1]; exact knV, by rw [q2.1]; exact obV, by rw [q2.2.1]; exact asC, q4⟩,
    ⟨V', ⟨q5.1, State.isArrayOf_alike al'.symm q5.2.1, q5.2.2.1⟩, q6, by rw [← al'.findClass]; exact q7, q8, fun j hj => by have := q9 j hj; rwa [Nat.zero_add] at this⟩, fun O n d w F n1 n2 => ?_⟩, hl, hc, hs⟩, st⟩
  · intro y hy
    simp only [List.mem_cons, List.not_mem_nil, or_false] at hy
    rcases hy with rfl | rfl <;> rfl
  · by_cases q : y = x
    · subst q
      cases hD.symm.trans hy
      exact ⟨E', q1.1, q2.2.1, q2.1, hsz⟩
    · exact ⟨cy, q10 y cy q hy, rfl, rfl, rfl⟩
  · obtain ⟨D3, cf, k, i, f, g1, g2, g3, g4, g5, g6, g7⟩ := F
    cases hD.symm.trans g1
    simp only [RoadKit.slotOf, g2, gV, gC, Option.map_some, Option.getD_some] at n1 n2
    exact ⟨E', cf, k, i, f, q1.1, g2, g3, by rw [q2.1]; exact g4, by rw [q2.1]; exact g5, by rw [q2.2.1]; exact g6, by rw [q2.2.2 f.slot (by simp [n1, n2])]; exact g7⟩
end StrChars.Road
namespace StrChars.Road
open Jvm Sem ClassFile Op Lib Jvm.Stand Jvm.Free Jvm.Free.XT
/-- WHAT COMES BACK, the byte[] as a list of values -/
def QA (Z : State) (x : Addr) (zn : Int32) (cs : List Int32) (h : Heap) (v : Option Value) (h' : Heap) (L : List Loc) : Prop := v = none ∧ (∀ y ∈ L, y.base = x) ∧ RoadKit.Keep h h' [x] ∧ h'.size = h.size + 1 ∧ RoadKit.Exa Z h' x ST ∧ RoadKit.Fld Z h' x ST "value" "[B" (.ref h.size) ∧ RoadKit.Fld Z h' x ST "coder" "B" (.int 0) ∧
  (∃ kb, Z.vm.findClass "[B" = some kb ∧ RoadKit.Arv Z h' h.size kb .byte zn (cs.map fun c => .int (lo8 c)) (.int 0)) ∧
  ∀ (O n d : String) (w : Value), RoadKit.Fld Z h x O n d w → RoadKit.slotOf Z O n d ≠ RoadKit.slotOf Z ST "value" "[B" → RoadKit.slotOf Z O n d ≠ RoadKit.slotOf Z ST "coder" "B" → RoadKit.Fld Z h' x O n d w
/-- **new String(chars) AT A CALL, THE ARRAYS AS LISTS**: the char[] at b holds cs, not empty, no char above 255 -/
theorem backArv {p : Program} {l : Launch} {e : Env} {R : Room} {s : State} {args : Array Value} {below : List Frame} {len W : Nat} {Z : State} {a0 : Array Value} {h : Heap} (hZ : Z.Warmed39 s.vm) (hw : ∀ d ∈ words, d.before a0 Z = true) {kI : Nat} (wi : (Jvm.Cond.instantiable ST kI).before a0 Z = true)
    {x b : Addr} {k : ClassId} {zn z : Int32} {cs : List Int32} {dv v0 c0 : Value} (E : RoadKit.Exa Z h x ST) (V : RoadKit.Fld Z h x ST "value" "[B" v0) (C : RoadKit.Fld Z h x ST "coder" "B" c0) (K : RoadKit.Arv Z h b k .char zn (cs.map Value.int) dv) (S : RoadKit.Sta Z h ST "COMPACT_STRINGS" "Z" (.int z)) (hz : ¬ z = 0)
    (hlen : zn.toNatClampNeg = cs.length) (h0 : 0 < cs.length) (hbig : cs.length ≤ 536870912) (hall : ∀ c ∈ cs, ¬ 255 < c) (hfr : 4 ≤ R.frames) (hlo : W + 65 ≤ R.locals) :
    Back l R p e below s args New1.yN len W (fun P a => a = #[.ref x, .ref b] ∧ P.U.heap = h ∧ P.cells + 1 ≤ R.cells ∧ P.slots + cs.length ≤ R.slots)
      (fun P _ v B => ∃ L, QA Z x zn cs h v B.U.heap L ∧ B.locs = P.locs ++ L ∧ B.cells = P.cells + 1 ∧ B.slots = P.slots + cs.length) := by
  obtain ⟨A, K1, K2, K3, K4, K5, K6⟩ := K
  have e : A.slots.size = cs.length := K3.trans hlen
  have hat : ∀ (i : Nat) (hi : i < cs.length), A.slots[i]? = some (.int cs[i]) := fun i hi => by rw [K5 i (by omega)]; simp [List.getD_eq_getElem?_getD, hi]
  have hcv : ∀ (i : Nat) (hi : i < cs.length), cv A i = cs[i] := fun i hi => by unfold cv; rw [hat i hi]
  have hty : Typed .char A := fun i v hv => by
    have hi : i < A.slots.size := (Array.getElem?_eq_some_iff.mp hv).1
    have q := K5 i hi
    rw [hv] at q
    rw [Option.some.inj q]
    exact K6 i hi
  refine Back.mono (back hZ hw wi E V C K1 hty S hz (by omega) (by omega) (fun i hi => by rw [hcv i (by omega)]; exact hall _ (List.getElem_mem _)) hfr hlo) (fun P a hp => ⟨hp.1, hp.2.1, hp.2.2.1, by rw [e]; exact hp.2.2.2⟩) (fun P a v B hp hq => ?_)
  obtain ⟨L, ⟨q1, q2, q3, q4, q5, q6, q7, ⟨V', v1, v2, v3, v4, v5⟩, q9⟩, hl, hc, hs⟩ := hq
  refine ⟨L, ⟨q1, q2, q3, q4, q5, q6, q7, ⟨V'.cls, v3, V', v1, rfl, by rw [v4, e, hlen], K4, fun i hi => ?_, fun i hi => ?_⟩, q9⟩, hl, hc, by rw [hs, e]⟩
  · have hi' : i < cs.length := by omega
    rw [v5 i (by omega), hcv i hi']; simp [List.getD_eq_getElem?_getD, hi']
  · have hi' : i < cs.length := by omega
    simp only [List.getD_eq_getElem?_getD, List.getElem?_map, List.getElem?_eq_getElem hi', Option.map_some, Option.getD_some]
    exact fits_lo8 _
end StrChars.Road
namespace StrChars.Road
open Jvm Sem ClassFile Op Lib Jvm.Stand Jvm.Free Jvm.Free.XT
/-- WHAT COMES BACK, in the writer's own shape -/
def QV (Z : State) (x : Addr) (N : Int32) (bs : List Int32) (h : Heap) (n0 : Nat) (v : Option Value) (h' : Heap) (L : List Loc) : Prop := v = none ∧ RoadKit.Fr n0 L ∧ RoadKit.Keep h h' [x] ∧ RoadKit.Exa Z h' x ST ∧ RoadKit.Fld Z h' x ST "coder" "B" (.int 0) ∧
  ∃ (t : Addr) (kb : ClassId), n0 ≤ t ∧ h.size ≤ t ∧ ¬ t = x ∧ RoadKit.Fld Z h' x ST "value" "[B" (.ref t) ∧ RoadKit.Arv Z h' t kb .byte N (bs.map Value.int) (.int 0)
/-- **new String(chars) AT A CALL, FOR THE WRITER**: a char[] of n known ints, each 0 to 255 -/
theorem backV {p : Program} {l : Launch} {e : Env} {R : Room} {s : State} {args : Array Value} {below : List Frame} {len W : Nat} {Z : State} {a0 : Array Value} {h : Heap} (hZ : Z.Warmed39 s.vm) (hw : ∀ d ∈ words, d.before a0 Z = true) {kI : Nat} (wi : (Jvm.Cond.instantiable ST kI).before a0 Z = true)
    {x b : Addr} {kC : ClassId} {cs bs : List Int32} {d v0 c0 : Value} {z N : Int32} {n n0 : Nat} (hx0 : n0 ≤ x) (hh0 : n0 ≤ h.size) (E : RoadKit.Exa Z h x ST) (V : RoadKit.Fld Z h x ST "value" "[B" v0) (C : RoadKit.Fld Z h x ST "coder" "B" c0) (K : RoadKit.Arv Z h b kC .char N (cs.map Value.int) d) (S : RoadKit.Sta Z h ST "COMPACT_STRINGS" "Z" (.int z)) (hz : ¬ z = 0)
    (hn : cs.length = n) (hN : N = Int32.ofNat n) (l0 : 0 < n) (l2 : n ≤ 4000) (hp : ∀ c ∈ cs, ¬ c < 0 ∧ ¬ (255 : Int32) < c) (hb : bs = cs.map (fun c => c.toInt8.toInt32)) (hfr : 4 ≤ R.frames) (hlo : W + 65 ≤ R.locals) :
    Back l R p e below s args (⟨"java/lang/String", "<init>", "([C)V"⟩ : MethodName) len W (fun P a => a = #[.ref x, .ref b] ∧ P.U.heap = h ∧ P.cells + 1 ≤ R.cells ∧ P.slots + n ≤ R.slots)
      (fun P _ v B => ∃ L, QV Z x N bs h n0 v B.U.heap L ∧ B.locs = P.locs ++ L ∧ B.cells = P.cells + 1 ∧ B.slots = P.slots + n) := by
  subst hn hN hb
  refine Back.mono (backArv hZ hw wi E V C K S hz (n32 (by omega)) l0 (by omega) (fun c hc => (hp c hc).2) hfr hlo) (fun P a hp => hp) (fun P a v B hp hq => ?_)
  obtain ⟨L, ⟨q1, q2, q3, q4, q5, q6, q7, ⟨kb, v1, v2⟩, q9⟩, hl, hc, hs⟩ := hq
  exact ⟨L, ⟨q1, fun y hy => by rw [q2 y hy]; exact hx0, q3, q5, q7, h.size, kb, hh0, Nat.le_refl _, Nat.ne_of_gt E.lt, q6, by rw [List.map_map]; exact v2⟩, hl, hc, hs⟩
end StrChars.Road
namespace StrChars
open Jvm Sem ClassFile Op Lib Jvm.Stand Jvm.Free.XT Jvm.Free.ALB Jvm.Free.JM Jvm.Free
open Jvm.Lib.Cold (StaticIs)
def hi8 (x : Int32) : Int32 := lo8 (x >>> ((8 : Int32) &&& 31))
theorem shr0 (c : Int32) : c >>> ((0 : Int32) &&& 31) = c := by
  have e : ((0 : Int32) &&& 31) = 0 := by decide
  rw [e]
  apply Int32.toBitVec_inj.mp
  rw [Int32.toBitVec_shiftRight]
  have e1 : ((0 : Int32).toBitVec.smod 32) = 0#32 := by decide
  rw [e1, BitVec.sshiftRight_eq']
  exact BitVec.sshiftRight_zero
end StrChars
namespace StrChars
open Jvm Sem ClassFile Op Lib Jvm.Stand Jvm.Free.XT Jvm.Free.ALB Jvm.Free.JM Jvm.Free
open Jvm.Lib.Cold (StaticIs)
theorem shr1 {n : Nat} (h : 2 * n < 2 ^ 31) : Int32.ofNat (2 * n) >>> ((1 : Int32) &&& 31) = Int32.ofNat n := by
  have e : ((1 : Int32) &&& 31) = 1 := by decide
  rw [e]
  apply Int32.toBitVec_inj.mp
  rw [Int32.toBitVec_shiftRight]
  have e1 : ((1 : Int32).toBitVec.smod 32) = 1#32 := by decide
  have hm : (BitVec.ofNat 32 (2 * n)).toNat = 2 * n := by rw [BitVec.toNat_ofNat, Nat.mod_eq_of_lt (by omega)]
  rw [e1, BitVec.sshiftRight_eq']
  apply BitVec.eq_of_toNat_eq
  show ((BitVec.ofNat 32 (2 * n)).sshiftRight 1).toNat = (BitVec.ofNat 32 n).toNat
  rw [BitVec.toNat_sshiftRight_of_msb_false (by rw [BitVec.msb_eq_false_iff_two_mul_lt, hm]; omega), hm, BitVec.toNat_ofNat, Nat.shiftRight_eq_div_pow]
  omega
/-- the array's cell V codes the n chars f 0 .. f (n - 1) by the coder cd, as the JDK does: coder 1 just where some char is above 255 -/
def Cod (cd : Int32) (n : Nat) (f : Nat → Int32) (V : Cell) : Prop := (cd = 0 ∧ V.slots.size = n ∧ ∀ j, j < n → V.slots[j]? = some (.int (lo8 (f j))) ∧ ¬ 255 < f j) ∨ (cd = 1 ∧ V.slots.size = 2 * n ∧ (∀ j, j < n → V.slots[2 * j]? = some (.int (lo8 (f j))) ∧ V.slots[2 * j + 1]? = some (.int (hi8 (f j)))) ∧ ∃ j, j < n ∧ 255 < f j)
theorem Cod.cd {cd : Int32} {n : Nat} {f : Nat → Int32} {V : Cell} (h : Cod cd n f V) : cd = 0 ∨ cd = 1 := h.imp (fun q => q.1) fun q => q.1
theorem Cod.len {cd : Int32} {n : Nat} {f : Nat → Int32} {V : Cell} (h : Cod cd n f V) (hs : V.slots.size < 2 ^ 31) : Int32.ofNat V.slots.size >>> (cd &&& 31) = Int32.ofNat n := by
  rcases h with ⟨rfl, h, -⟩ | ⟨rfl, h, -⟩
  · rw [shr0, h]
  · rw [h, shr1 (by omega)]
/-- **x is a String of the n chars f 0 .. f (n - 1)**, Latin-1 or UTF-16; its array at t has the cell V -/
def Txt (x t : Addr) (V : Cell) (cd : Int32) (n : Nat) (f : Nat → Int32) (U : State) : Prop := Exact "java/lang/String" x U ∧ Has x "java/lang/String" "value" "[B" (.ref t) U ∧ Has x "java/lang/String" "coder" "B" (.int cd) U ∧ XT.Arr .byte t V U ∧ Cod cd n f V ∧ ∀ j, j < n → ¬ f j < 0 ∧ ¬ 65535 < f j
theorem Txt.mv {x t : Addr} {V : Cell} {cd : Int32} {n : Nat} {f : Nat → Int32} {U U' : State} (h : Txt x t V cd n f U) (hal : U.vm.Alike U'.vm) (hh : U'.heap = U.heap) : Txt x t V cd n f U' := ⟨h.1.mv hal hh, h.2.1.mv hal hh, h.2.2.1.mv hal hh, h.2.2.2.1.mv hal hh, h.2.2.2.2⟩
namespace Cdr
def yN : MethodName := ⟨"java/lang/String", "coder", "()B"⟩
abbrev yB : ByteArray := jdk_42_method_152_code
theorem d0 : decode yB 0 = .ok (.getstatic 38, 3) := by decide +kernel
theorem d3 : decode yB 3 = .ok (.ifCond (.eq) 10, 3) := by decide +kernel
theorem d6 : decode yB 6 = .ok (.aload_n 0, 1) := by decide +kernel
theorem d7 : decode yB 7 = .ok (.getfield 15, 3) := by decide +kernel
theorem d10 : decode yB 10 = .ok (.goto 4, 3) := by decide +kernel
theorem d14 : decode yB 14 = .ok (.ireturn, 1) := by decide +kernel
def site : List Cond := [.fieldLink "java/lang/String" 38 "java/lang/String" "COMPACT_STRINGS" "Z", .fieldLink "java/lang/String" 15 "java/lang/String" "coder" "B"]
def tab : Cond := tabOf yN yB 1 (some .byte) site
def P (x : Addr) (cd z : Int32) (args : Array Value) (s : State) : Prop := args = #[.ref x] ∧ Has x "java/lang/String" "coder" "B" (.int cd) s ∧ (cd = 0 ∨ cd = 1) ∧ StaticIs s "java/lang/String" "COMPACT_STRINGS" "Z" (.int z) ∧ ¬ z = 0
def E (cd : Int32) (r : Option Value) (s u : State) : Prop := XT.PureE (some (.int cd)) r s u
theorem law (l : Launch) (x : Addr) (cd z : Int32) : Law l yN 1 0 0 0 yB 1 (some .byte) site (P x cd z) (E cd) [] 0 0 := by
  refine Law.of_walk (plainFor_of_name (by decide +kernel)) (by decide +kernel) (by decide +kernel) (by decide) (fun _ _ h => by rw [h.1]; rfl) (fun _ U U' hal hh h => ⟨h.1, h.2.1.mv hal hh, h.2.2.1, h.2.2.2.1.there hal hh, h.2.2.2.2⟩) (fun r U U' V V' h1 hal h2 h => XT.PureE.mv r U U' V V' h1 hal h2 h) ?_
  intro p e s m args below meth c s₁ X0 hexec hbytes hml hret hlk hnm hown hh0 W hP
  obtain ⟨rfl, hx, hc, s1, hz⟩ := hP
  have c1 : Steps p.tables e below (s₁.setTop (entryFrame m #[.ref x] 1)) (s₁.setTop (mkF m 0 #[.val (.ref x)] [])) := entry rfl
  obtain ⟨T2, X2, q2, st2⟩ := X0.sget hexec hown (wk W (.fieldLink "java/lang/String" 38 "java/lang/String" "COMPACT_STRINGS" "Z")) s1 (fun _ _ h => by rw [hh0]; exact h) (g := (mkF m 0 #[.val (.ref x)] [])) rfl (hb hbytes d0)
  have hh2 := q2.trans hh0
  have c3 : Steps p.tables e below (s₁.setTop (entryFrame m #[.ref x] 1)) (T2.setTop (mkF m 7 #[.val (.ref x)] [.ref x])) := (c1.trans (st2 _ (Steps.refl _))).trans (by
    refine XS.ifNo X2.here hexec rfl (hb hbytes d3) rfl (i0_eq_f hz) ?_
    refine XS.aloadN X2.here hexec rfl (hb hbytes d6) rfl rfl ?_
    exact Steps.refl _)
  obtain ⟨T4, X4, q4, st4⟩ := X2.hget hexec hown (wk W (.fieldLink "java/lang/String" 15 "java/lang/String" "coder" "B")) (hx.mv X2.warmed.alike hh2) (g := (mkF m 7 #[.val (.ref x)] [.ref x])) rfl (rest := []) rfl (hb hbytes d7)
  have c5 : Steps p.tables e below (s₁.setTop (entryFrame m #[.ref x] 1)) (T4.setTop (mkF m 14 #[.val (.ref x)] [.int cd])) := (c3.trans (st4 _ (Steps.refl _))).trans (by
    refine XS.goto X4.here hexec rfl (pc0 := 10) rfl (hb hbytes d10) (by decide) rfl ?_
    exact Steps.refl _)
  exact ⟨T4, some (.int cd), _, _, _, X4, rfl, rfl, rfl, (fun h => by cases h), ⟨rfl, q4.trans hh2⟩, fun fs hl => c5.trans (X4.ireturnOut hexec hret (by rcases hc with rfl | rfl <;> rfl) (Or.inr (Or.inr (Or.inl rfl))) (hb hbytes d14) hl)⟩
end Cdr
namespace Len
def yN : MethodName := ⟨"java/lang/String", "length", "()I"⟩
abbrev yB : ByteArray := jdk_42_method_54_code
theorem d0 : decode yB 0 = .ok (.aload_n 0, 1) := by decide +kernel
theorem d1 : decode yB 1 = .ok (.getfield 9, 3) := by decide +kernel
theorem d4 : decode yB 4 = .ok (.arraylength, 1) := by decide +kernel
theorem d5 : decode yB 5 = .ok (.aload_n 0, 1) := by decide +kernel
theorem d6 : decode yB 6 = .ok (.invokevirtual 335, 3) := by decide +kernel
theorem d9 : decode yB 9 = .ok (.ishr, 1) := by decide +kernel
theorem d10 : decode yB 10 = .ok (.ireturn, 1) := by decide +kernel
def site : List Cond := [.fieldLink "java/lang/String" 9 "java/lang/String" "value" "[B", Cdr.tab] ++ virtW "java/lang/String" 335 "java/lang/String" Cdr.yN Cdr.yN
def tab : Cond := tabOf yN yB 1 (some .int) site
def P (x t : Addr) (V : Cell) (cd : Int32) (n : Nat) (f : Nat → Int32) (z : Int32) (args : Array Value) (s : State) : Prop := args = #[.ref x] ∧ Txt x t V cd n f s ∧ StaticIs s "java/lang/String" "COMPACT_STRINGS" "Z" (.int z) ∧ ¬ z = 0
def E (n : Nat) (r : Option Value) (s u : State) : Prop := XT.PureE (some (.int (Int32.ofNat n))) r s u
/-- length() of a String of n chars, in either coding -/
theorem law (l : Launch) (x t : Addr) (V : Cell) (cd : Int32) (n : Nat) (f : Nat → Int32) (z : Int32) : Law l yN 1 0 1 13 yB 1 (some .int) site (P x t V cd n f z) (E n) [] 0 0 := by
  refine Law.of_walk (plainFor_of_name (by decide +kernel)) (by decide +kernel) (by decide +kernel) (by decide) (fun _ _ h => by rw [h.1]; rfl) (fun _ U U' hal hh h => ⟨h.1, h.2.1.mv hal hh, h.2.2.1.there hal hh, h.2.2.2⟩) (fun r U U' V V' h1 hal h2 h => XT.PureE.mv r U U' V V' h1 hal h2 h) ?_
  intro p e s m args below meth c s₁ X0 hexec hbytes hml hret hlk hnm hown hh0 W hP
  obtain ⟨rfl, hx, s1, hz⟩ := hP
  have v31 := hx.2.2.2.1.2.2.2
  have c1 : Steps p.tables e below (s₁.setTop (entryFrame m #[.ref x] 1)) (s₁.setTop (mkF m 1 #[.val (.ref x)] [.ref x])) := Steps.trans (entry rfl) (by
    show Steps p.tables e below (s₁.setTop (mkF m 0 #[.val (.ref x)] [])) _
    refine XS.aloadN X0.here hexec rfl (hb hbytes d0) rfl rfl ?_
    exact Steps.refl _)
  obtain ⟨T2, X2, q2, st2⟩ := X0.hget hexec hown (wk W (.fieldLink "java/lang/String" 9 "java/lang/String" "value" "[B")) (hx.mv X0.warmed.alike hh0).2.1 (g := (mkF m 1 #[.val (.ref x)] [.ref x])) rfl (rest := []) rfl (hb hbytes d1)
  have hh2 := q2.trans hh0
  have hx2 := hx.mv X2.warmed.alike hh2
  have c3 : Steps p.tables e below (s₁.setTop (entryFrame m #[.ref x] 1)) (T2.setTop (mkF m 6 #[.val (.ref x)] [.ref x, .int (Int32.ofNat V.slots.size)])) := (c1.trans (st2 _ (Steps.refl _))).trans (by
    refine X2.alen hexec hx2.2.2.2.1 rfl rfl (hb hbytes d4) ?_
    refine XS.aloadN X2.here hexec rfl (hb hbytes d5) rfl rfl ?_
    exact Steps.refl _)
  obtain ⟨v4, T4, X4, E4, g4⟩ := X2.callV hexec (Cdr.law l x cd z) hown (wks W (virtW "java/lang/String" 335 "java/lang/String" Cdr.yN Cdr.yN)) rfl (by decide) (wk W Cdr.tab) (W := 1) (Nat.le_of_ble_eq_true rfl) (Nat.le_of_ble_eq_true rfl) (Nat.le_refl _) (Nat.le_refl _) (hx2.1.fc X2.warmed.alike) hx2.1.is (g := (mkF m 6 #[.val (.ref x)] [.ref x, .int (Int32.ofNat V.slots.size)])) rfl (by rw [hml]; rfl) c3 (argsL := []) (rest := [.int (Int32.ofNat V.slots.size)]) rfl rfl (by show 2 * 0 + (1 + 0) ≤ _; decide) (hb hbytes d6) (⟨rfl, hx2.2.2.1, hx.2.2.2.2.1.cd, s1.there X2.warmed.alike hh2, hz⟩)
  obtain ⟨rfl, q4⟩ := E4
  have c5 : Steps p.tables e below (s₁.setTop (entryFrame m #[.ref x] 1)) (T4.setTop (mkF m 10 #[.val (.ref x)] [.int (Int32.ofNat V.slots.size >>> (cd &&& 31))])) := Steps.trans g4 (by
    refine ishr X4.here hexec rfl (hb hbytes d9) rfl ?_
    exact Steps.refl _)
  rw [hx.2.2.2.2.1.len v31] at c5
  exact ⟨T4, some (.int (Int32.ofNat n)), _, _, _, X4, rfl, rfl, rfl, (fun h => by cases h), ⟨rfl, q4.trans hh2⟩, fun fs hl => c5.trans (X4.ireturnOut hexec hret rfl (Or.inl rfl) (hb hbytes d10) hl)⟩
theorem pays {l : Launch} {R : Room} {p : Program} {e : Env} {below : List Frame} {s : State} {sargs : Array Value} {len W : Nat} (x t : Addr) (V : Cell) (cd : Int32) (n : Nat) (f : Nat → Int32) (z : Int32) (htab : tab.before sargs s = true) (hfr : 2 ≤ R.frames) (hlo : W + 25 ≤ R.locals) :
    Back l R p e below s sargs yN len W (fun A₁ a₁ => A₁.cells + 0 ≤ R.cells ∧ A₁.slots + 0 ≤ R.slots ∧ P x t V cd n f z a₁ A₁.U) (fun A₁ _ v₁ B₁ => E n v₁ A₁.U B₁.U ∧ B₁.locs = A₁.locs ++ [] ∧ B₁.cells = A₁.cells + 0 ∧ B₁.slots = A₁.slots + 0) :=
  (law l x t V cd n f z).pays htab hfr (by omega)
end Len
end StrChars
namespace StrChars.Road
open Jvm Sem ClassFile Op Lib Jvm.Stand Jvm.Free Jvm.Free.XT
open Jvm.Lib.Cold (StaticIs)
theorem consq {a : Array Value} {s : State} {c : Jvm.Cond} {L : List Jvm.Cond} (h0 : c.before a s = true) (h : ∀ w ∈ L, w.before a s = true) : ∀ w ∈ c :: L, w.before a s = true := fun w hw => (List.mem_cons.mp hw).elim (fun e => e ▸ h0) (h w)
/-- the words of String.length(), either coding -/
abbrev wordsLen : List Jvm.Cond := [.code Len.yN Len.yB 1 (some .int), .initialized ST, .fieldLink ST 9 ST "value" "[B", .fieldLink ST 38 ST "COMPACT_STRINGS" "Z", .fieldLink ST 15 ST "coder" "B", .code Cdr.yN Cdr.yB 1 (some .byte), .methodLink ST 335 Cdr.yN, .declares Cdr.yN, .selects ST Cdr.yN Cdr.yN, .instanceMethod Cdr.yN]
theorem tabLen_of {a : Array Value} {s : State} (h : ∀ w ∈ wordsLen, w.before a s = true) : Len.tab.before a s = true := by
  have hc : Cdr.tab.before a s = true := unparts (wk h (.code Cdr.yN Cdr.yB 1 (some .byte))) (wks h (.initialized Cdr.yN.cls :: Cdr.site))
  have q := consq hc h
  exact unparts (wk q (.code Len.yN Len.yB 1 (some .int))) (wks q (.initialized Len.yN.cls :: Len.site))
theorem movedLen {Z s : State} {a0 args : Array Value} (hZ : Z.Warmed39 s.vm) (hw : ∀ d ∈ wordsLen, d.before a0 Z = true) : ∀ d ∈ wordsLen, d.before args s = true := fun d hd => by
  have q := hw d hd
  have t : ∀ d ∈ wordsLen, d = .arrayClass .byte ∨ (d.onTables && d.keepsFace) = true := by decide +kernel
  rcases t d hd with rfl | t
  · exact RoadKit.mvA hZ q
  · exact RoadKit.mv hZ q t
/-- the bytes of the chars cs, low before high -/
def wideBytes : List Int32 → List Value
  | [] => []
  | c :: cs => .int (lo8 c) :: .int (hi8 c) :: wideBytes cs
theorem wide_lo (d : Value) : ∀ (cs : List Int32) (j : Nat), j < cs.length → (wideBytes cs).getD (2 * j) d = .int (lo8 (cs.getD j 0))
  | [], j, h => absurd h (Nat.not_lt_zero j)
  | c :: cs, 0, _ => rfl
  | c :: cs, j + 1, h => by
    have q := wide_lo d cs j (by simpa using h)
    rw [show 2 * (j + 1) = 2 * j + 1 + 1 from by omega]
    simpa [wideBytes] using q
theorem wide_hi (d : Value) : ∀ (cs : List Int32) (j : Nat), j < cs.length → (wideBytes cs).getD (2 * j + 1) d = .int (hi8 (cs.getD j 0))
  | [], j, h => absurd h (Nat.not_lt_zero j)
  | c :: cs, 0, _ => rfl
  | c :: cs, j + 1, h => by
    have q := wide_hi d cs j (by simpa using h)
    rw [show 2 * (j + 1) + 1 = 2 * j + 1 + 1 + 1 from by omega]
    simpa [wideBytes] using q
theorem low_at (d : Value) (cs : List Int32) (j : Nat) (h : j < cs.length) : (cs.map fun c => Value.int (lo8 c)).getD j d = .int (lo8 (cs.getD j 0)) := by
  simp [List.getD_eq_getElem?_getD, h]
/-- an array of N2 bytes vs codes the chars cs by the coder cd -/
def CodA (cs : List Int32) (cd N2 : Int32) (vs : List Value) : Prop := (cd = 0 ∧ N2 = Int32.ofNat cs.length ∧ vs = (cs.map fun c => Value.int (lo8 c)) ∧ ∀ c ∈ cs, ¬ 255 < c) ∨ (cd = 1 ∧ N2 = Int32.ofNat (2 * cs.length) ∧ vs = wideBytes cs ∧ ∃ c ∈ cs, 255 < c)
theorem CodA.cod {cs : List Int32} {cd N2 : Int32} {vs : List Value} {V : Cell} (h : CodA cs cd N2 vs) (hn : 2 * cs.length < 2 ^ 31) (hs : V.slots.size = N2.toNatClampNeg) (hv : RoadKit.Has V vs (.int 0)) : Cod cd cs.length (fun j => cs.getD j 0) V := by
  rcases h with ⟨rfl, rfl, rfl, h⟩ | ⟨rfl, rfl, rfl, c, hc, hw⟩
  · rw [n32 (by omega)] at hs
    exact Or.inl ⟨rfl, hs, fun j hj => ⟨by rw [hv j (by omega), low_at _ _ _ hj], by
      have e : cs.getD j 0 = cs[j] := by simp [List.getD_eq_getElem?_getD, hj]
      show ¬ 255 < cs.getD j 0
      rw [e]; exact h _ (List.getElem_mem _)⟩⟩
  · rw [n32 (by omega)] at hs
    obtain ⟨j, hj, rfl⟩ := List.getElem_of_mem hc
    exact Or.inr ⟨rfl, hs, fun j hj => ⟨by rw [hv _ (by omega), wide_lo _ _ _ hj], by rw [hv _ (by omega), wide_hi _ _ _ hj]⟩, j, hj, by
      have e : cs.getD j 0 = cs[j] := by simp [List.getD_eq_getElem?_getD, hj]
      show 255 < cs.getD j 0
      rw [e]; exact hw⟩
/-- an object of exactly java/lang/String, its two fields found: as the laws ask it -/
theorem strObj {Z U : State} {a0 : Array Value} {kI : Nat} (wi : (Jvm.Cond.instantiable ST kI).before a0 Z = true) (al : Z.vm.Alike U.vm) {x : Addr} {v0 c0 : Value} (E : RoadKit.Exa Z U.heap x ST) (V : RoadKit.Fld Z U.heap x ST "value" "[B" v0) (C : RoadKit.Fld Z U.heap x ST "coder" "B" c0) :
    ∃ (D : Cell) (fV fC : Field), Blank ST x D U ∧ Found ST "value" "[B" fV U ∧ Found ST "coder" "B" fC U ∧ D.slots[fV.slot]? = some v0 ∧ D.slots[fC.slot]? = some c0 ∧ RoadKit.slotOf Z ST "value" "[B" = fV.slot ∧ RoadKit.slotOf Z ST "coder" "B" = fC.slot := by
  obtain ⟨D, cfV, kV, iV, fV, hD, gV, stV, knV, obV, asV, slV⟩ := V
  obtain ⟨D', cfC, kC, iC, fC, hD', gC, stC, -, -, asC, slC⟩ := C
  cases hD.symm.trans hD'
  obtain ⟨D2, kD, e1, e2, e3, e4, e5⟩ := E
  cases hD.symm.trans e1
  obtain ⟨c2, k2, i1, i2, i3, -⟩ := Cond.instantiable_spec wi
  cases e2.symm.trans i1
  cases e3.symm.trans i2
  obtain ⟨kU, u1, u2⟩ := al.2.2 _ _ e3
  exact ⟨D, fV, fC, ⟨hD, ⟨knV, fun q hq => by rw [hq] at obV; cases obV⟩, by rw [al.findClass]; exact e2, kU, u1, by rw [u2]; exact i3, by rw [u2]; exact e5 i3⟩, ⟨SBG.found_only al ⟨cfV, kV, iV, gV⟩, stV⟩, ⟨SBG.found_only al ⟨cfC, kC, iC, gC⟩, stC⟩, slV, slC, by simp [RoadKit.slotOf, gV], by simp [RoadKit.slotOf, gC]⟩
theorem sta_is {Z U : State} (al : Z.vm.Alike U.vm) {C n d : String} {v : Value} (S : RoadKit.Sta Z U.heap C n d v) : StaticIs U C n d v := by
  obtain ⟨cfS, iS, kS, fS, st, cS, t1, t2, t3, t4, t5, t6, t7⟩ := S
  exact StaticIs.there (s := { Z with heap := U.heap }) ⟨cfS, iS, kS, fS, st, cS, t1, t2, t3, t4, t5, (fun q => by rw [q] at t6; cases t6), t7⟩ al rfl
/-- **length() OF SUCH A STRING** -/
theorem lenW {p : Program} {l : Launch} {e : Env} {R : Room} {s : State} {args : Array Value} {below : List Frame} {len W : Nat} {Z : State} {a0 : Array Value} {h : Heap} (hZ : Z.Warmed39 s.vm) (hw : ∀ d ∈ wordsLen, d.before a0 Z = true) {kI : Nat} (wi : (Jvm.Cond.instantiable ST kI).before a0 Z = true)
    {x t : Addr} {kb : ClassId} {cs : List Int32} {cd N2 z : Int32} {vs : List Value} (E : RoadKit.Exa Z h x ST) (V : RoadKit.Fld Z h x ST "value" "[B" (.ref t)) (C : RoadKit.Fld Z h x ST "coder" "B" (.int cd)) (K : RoadKit.Arv Z h t kb .byte N2 vs (.int 0)) (hc : CodA cs cd N2 vs) (hb : ∀ c ∈ cs, ¬ c < 0 ∧ ¬ (65535 : Int32) < c)
    (S : RoadKit.Sta Z h ST "COMPACT_STRINGS" "Z" (.int z)) (hz : ¬ z = 0) (l2 : cs.length ≤ 4000) (hfr : 2 ≤ R.frames) (hlo : W + 25 ≤ R.locals) :
    Back l R p e below s args (⟨"java/lang/String", "length", "()I"⟩ : MethodName) len W (fun P a => a = #[.ref x] ∧ P.U.heap = h ∧ P.cells + 0 ≤ R.cells ∧ P.slots + 0 ≤ R.slots)
      (fun P _ v B => ∃ L, (v = some (.int (Int32.ofNat cs.length)) ∧ L = [] ∧ B.U.heap = h) ∧ B.locs = P.locs ++ L ∧ B.cells = P.cells + 0 ∧ B.slots = P.slots + 0) := by
  obtain ⟨A, K1, K2, K3, K4, K5, K6⟩ := K
  have hcod := hc.cod (by omega) K3 K5
  intro m meth c P g ig mk a X hg hsize hdg hW hn hp'
  obtain ⟨rfl, rfl, r1, r2⟩ := hp'
  have al : Z.vm.Alike P.U.vm := hZ.alike.trans X.warmed.alike
  obtain ⟨D, fV, fC, hB, F1, F2, g1, g2, -, -⟩ := strObj wi al E V C
  have hx : Txt x t A cd cs.length (fun j => cs.getD j 0) P.U := ⟨⟨_, hB.2.2.1, D, hB.1, rfl, by cases q : D.vm <;> first | rfl | exact absurd q (hB.2.1.2 _)⟩, Has.of hB F1 g1, Has.of hB F2 g2, ⟨K1.1, State.isArrayOf_alike al K1.2.1, K1.2.2, by rcases hcod with ⟨-, q, -⟩ | ⟨-, q, -⟩ <;> omega⟩, hcod, fun j hj => by
    have e : cs.getD j 0 = cs[j] := by simp [List.getD_eq_getElem?_getD, hj]
    show ¬ cs.getD j 0 < 0 ∧ ¬ 65535 < cs.getD j 0
    rw [e]; exact hb _ (List.getElem_mem _)⟩
  obtain ⟨v, B, X', ⟨⟨hv, hh⟩, hl, hk, hs⟩, st⟩ := Len.pays x t A cd cs.length (fun j => cs.getD j 0) z (tabLen_of (movedLen hZ hw)) hfr hlo m meth c P g ig mk _ X hg hsize hdg hW hn ⟨r1, r2, rfl, hx, sta_is al S, hz⟩
  exact ⟨v, B, X', ⟨[], ⟨hv, rfl, hh⟩, hl, hk, hs⟩, st⟩
end StrChars.Road
namespace StrChars.Road
open Jvm Sem ClassFile Op Lib Jvm.Stand Jvm.Free Jvm.Free.XT
open Jvm.Lib.Cold (StaticIs)
/-- what backV says of its String, as the contracts of this text ask it: cs's low bytes, coder 0 -/
theorem codOf {cs : List Int32} {n : Nat} (hn : cs.length = n) (hb : ∀ c ∈ cs, ¬ 255 < c) : CodA cs 0 (Int32.ofNat n) ((cs.map lo8).map Value.int) := Or.inl ⟨rfl, by rw [hn], by simp [List.map_map, Function.comp_def], hb⟩
end StrChars.Road
end Jvm.Pilot.@@N@@

namespace Jvm.Pilot.@@N@@
open Jvm Jvm.ClassFile Sem Op Lib Jvm.Free Jvm.Stand Jvm.LawKit Jvm.RoadKit Bundle Jvm.Pilot.@@N@@.Jvm.D
/-- what is left of a walk: from the frame f of T the run comes to its end, where Qe holds -/
def own_Rest (p : Program) (e : Env) (below : List Frame) (Qe : Outcome → State → Prop) (T : State) (f : JFrame) : Prop :=
  ∃ s₂ o, Steps p.tables e below (T.setTop f) s₂ ∧ s₂.status = .running ∧ Ended s₂ below o ∧ Qe o s₂
abbrev own_S (p : Program) (e : Env) (below : List Frame) (T : State) (f : JFrame) (t : State) : Prop := Steps p.tables e below (T.setTop f) t
theorem own_by {p : Program} {e : Env} {below : List Frame} {Qe : Outcome → State → Prop} {T T' : State} {f f' : JFrame}
    (h : ∀ t, Steps p.tables e below (T'.setTop f') t → Steps p.tables e below (T.setTop f) t) (k : own_Rest p e below Qe T' f') : own_Rest p e below Qe T f := by
  obtain ⟨s₂, o, h1, h2⟩ := k
  exact ⟨s₂, o, h _ h1, h2⟩
theorem own_at {p : Program} {e : Env} {below : List Frame} {Qe : Outcome → State → Prop} {T : State} {f f' : JFrame}
    (h : ∀ {t}, Steps p.tables e below (T.setTop f') t → Steps p.tables e below (T.setTop f) t) (k : own_Rest p e below Qe T f') :
    ∃ s₂ o, Steps p.tables e below (T.setTop f) s₂ ∧ s₂.status = .running ∧ Ended s₂ below o ∧ Qe o s₂ := by
  obtain ⟨s₂, o, h1, h2⟩ := k
  exact ⟨s₂, o, h h1, h2⟩
theorem own_c255 (x : Int32) : ¬ (x &&& (255 : Int32)).toUInt32.toUInt16.toUInt32.toInt32 < 0 ∧ ¬ (255 : Int32) < (x &&& (255 : Int32)).toUInt32.toUInt16.toUInt32.toInt32 := by
  have h1 := c_mask x 255 8 (by decide) (by decide)
  have h2 := c_i2c (x &&& (255 : Int32))
  simp only [Int32.lt_iff_toInt_lt, Int32.reduceToInt]
  omega
theorem own_narc {z : Int32} (h : ¬ z < 0 ∧ ¬ (255 : Int32) < z) : nar .char z = z := by
  have h2 := c_i2c z
  obtain ⟨h3, h4⟩ := h
  simp only [Int32.lt_iff_toInt_lt, Int32.reduceToInt] at h3 h4
  have e : (nar .char z).toInt = z.toInt := by
    show z.toUInt32.toUInt16.toUInt32.toInt32.toInt = z.toInt
    omega
  exact Int32.toInt_inj.mp e
theorem own_nrb {z : Int32} (h : z = 0 ∨ z = 1) : narrow .boolean (.int z) = .int z := by rcases h with rfl | rfl <;> rfl
theorem own_ftb {z : Int32} (h : z = 0 ∨ z = 1) : fits .boolean (.int z) = true := by rcases h with rfl | rfl <;> rfl
theorem own_eqi {t : Term} {n : Int32} {args : Array Value} {Z : State} (h : (Jvm.Cond.eq t (.int n)).value args Z none Z [] = some true) : t.eval args Z none [] Z = some (.int n) := by
  obtain ⟨x, y, h1, h2, h3, -⟩ := cmp_v (Or.inl h)
  have e : y = .int n := (Option.some.inj h2).symm
  subst e
  cases x <;> simp [Kin, Value.isRef] at h3
  rename_i z
  have : z = n := by simpa [Cond.value, h1, Term.eval] using h
  rw [h1, this]
theorem own_fld {t : Term} {n : Int32} {args : Array Value} {Z : State} {a : Addr} {C f d : String} (ev : t.eval args Z none [] Z = some (.ref a)) (h : (Jvm.Cond.eq (.field t C f d) (.int n)).value args Z none Z [] = some true) : Fld Z Z.heap a C f d (.int n) :=
  Fld.start ((fld_at ev).symm.trans (own_eqi h))
theorem own_nb {z : Int32} (h : z = 0 ∨ z = 1) : nar .boolean z = z := by rcases h with rfl | rfl <;> rfl
abbrev own_ARIIIUU (x0 : Addr) (x1 : Int32) (x2 : Int32) (x3 : Int32) : Array Slot := #[.val (.ref x0), .val (.int x1), .val (.int x2), .val (.int x3), .unset, .unset]
abbrev own_ARIIIIU (x0 : Addr) (x1 : Int32) (x2 : Int32) (x3 : Int32) (x4 : Int32) : Array Slot := #[.val (.ref x0), .val (.int x1), .val (.int x2), .val (.int x3), .val (.int x4), .unset]
abbrev own_ARIIIII (x0 : Addr) (x1 : Int32) (x2 : Int32) (x3 : Int32) (x4 : Int32) (x5 : Int32) : Array Slot := #[.val (.ref x0), .val (.int x1), .val (.int x2), .val (.int x3), .val (.int x4), .val (.int x5)]
abbrev own_ARRIINU (x0 : Addr) (x1 : Addr) (x2 : Int32) (x3 : Int32) : Array Slot := #[.val (.ref x0), .val (.ref x1), .val (.int x2), .val (.int x3), .val .null, .unset]
abbrev own_AIIIIIUUUUUUU (x0 : Int32) (x1 : Int32) (x2 : Int32) (x3 : Int32) (x4 : Int32) : Array Slot := #[.val (.int x0), .val (.int x1), .val (.int x2), .val (.int x3), .val (.int x4), .unset, .unset, .unset, .unset, .unset, .unset, .unset]
abbrev own_AIIIIIIUUUUUU (x0 : Int32) (x1 : Int32) (x2 : Int32) (x3 : Int32) (x4 : Int32) (x5 : Int32) : Array Slot := #[.val (.int x0), .val (.int x1), .val (.int x2), .val (.int x3), .val (.int x4), .val (.int x5), .unset, .unset, .unset, .unset, .unset, .unset]
abbrev own_AIIIIIIIUUUUU (x0 : Int32) (x1 : Int32) (x2 : Int32) (x3 : Int32) (x4 : Int32) (x5 : Int32) (x6 : Int32) : Array Slot := #[.val (.int x0), .val (.int x1), .val (.int x2), .val (.int x3), .val (.int x4), .val (.int x5), .val (.int x6), .unset, .unset, .unset, .unset, .unset]
abbrev own_AIIIIIIIIUUUU (x0 : Int32) (x1 : Int32) (x2 : Int32) (x3 : Int32) (x4 : Int32) (x5 : Int32) (x6 : Int32) (x7 : Int32) : Array Slot := #[.val (.int x0), .val (.int x1), .val (.int x2), .val (.int x3), .val (.int x4), .val (.int x5), .val (.int x6), .val (.int x7), .unset, .unset, .unset, .unset]
abbrev own_AIIIIIIIIIUUU (x0 : Int32) (x1 : Int32) (x2 : Int32) (x3 : Int32) (x4 : Int32) (x5 : Int32) (x6 : Int32) (x7 : Int32) (x8 : Int32) : Array Slot := #[.val (.int x0), .val (.int x1), .val (.int x2), .val (.int x3), .val (.int x4), .val (.int x5), .val (.int x6), .val (.int x7), .val (.int x8), .unset, .unset, .unset]
abbrev own_AIIIIIIIIIIUU (x0 : Int32) (x1 : Int32) (x2 : Int32) (x3 : Int32) (x4 : Int32) (x5 : Int32) (x6 : Int32) (x7 : Int32) (x8 : Int32) (x9 : Int32) : Array Slot := #[.val (.int x0), .val (.int x1), .val (.int x2), .val (.int x3), .val (.int x4), .val (.int x5), .val (.int x6), .val (.int x7), .val (.int x8), .val (.int x9), .unset, .unset]
abbrev own_AIIIIIIIIIIRU (x0 : Int32) (x1 : Int32) (x2 : Int32) (x3 : Int32) (x4 : Int32) (x5 : Int32) (x6 : Int32) (x7 : Int32) (x8 : Int32) (x9 : Int32) (x10 : Addr) : Array Slot := #[.val (.int x0), .val (.int x1), .val (.int x2), .val (.int x3), .val (.int x4), .val (.int x5), .val (.int x6), .val (.int x7), .val (.int x8), .val (.int x9), .val (.ref x10), .unset]
abbrev own_AIIIIIIIIIIRI (x0 : Int32) (x1 : Int32) (x2 : Int32) (x3 : Int32) (x4 : Int32) (x5 : Int32) (x6 : Int32) (x7 : Int32) (x8 : Int32) (x9 : Int32) (x10 : Addr) (x11 : Int32) : Array Slot := #[.val (.int x0), .val (.int x1), .val (.int x2), .val (.int x3), .val (.int x4), .val (.int x5), .val (.int x6), .val (.int x7), .val (.int x8), .val (.int x9), .val (.ref x10), .val (.int x11)]
def own_Str (Z : State) (h : Heap) (a : Addr) (cs : List Int32) : Prop := ∃ (t : Addr) (kb : ClassId) (cd N : Int32) (vs : List Value), Exa Z h a "java/lang/String" ∧ Fld Z h a "java/lang/String" "value" "[B" (.ref t) ∧ Fld Z h a "java/lang/String" "coder" "B" (.int cd) ∧ Arv Z h t kb .byte N vs (.int 0) ∧ StrChars.Road.CodA cs cd N vs ∧ (∀ c ∈ cs, ¬ c < 0 ∧ ¬ (65535 : Int32) < c) ∧ cs.length ≤ 4000
theorem own_Str.ext {Z : State} {h h' : Heap} {a : Addr} {cs : List Int32} (F : own_Str Z h a cs) (E : Ext h h') : own_Str Z h' a cs := by
  obtain ⟨t, kb, cd, N, vs, h1, h2, h3, h4, r⟩ := F
  exact ⟨t, kb, cd, N, vs, h1.ext E, h2.ext E, h3.ext E, h4.ext E, r⟩
theorem own_Str.exa {Z : State} {h : Heap} {a : Addr} {cs : List Int32} (F : own_Str Z h a cs) : Exa Z h a "java/lang/String" := by obtain ⟨_, _, _, _, _, h1, -⟩ := F; exact h1
theorem own_Str.lt {Z : State} {h : Heap} {a : Addr} {cs : List Int32} (F : own_Str Z h a cs) : a < h.size := F.exa.lt
theorem own_kx {h h' : Heap} (K : Keep h h' []) : Ext h h' := ⟨K.1, fun x c q => K.2.1 x c q List.not_mem_nil⟩
theorem own_Str.keepX {Z : State} {h h' : Heap} {a x : Addr} {cs : List Int32} {C : String} {a0 : Array Value} {k : Nat} (F : own_Str Z h a cs) (K : Keep h h' [x]) (E : Exa Z h x C) (hC : C ≠ "java/lang/String") (wi : (Jvm.Cond.instantiable C k).before a0 Z = true) : own_Str Z h' a cs := by
  obtain ⟨t, kb, cd, N, vs, h1, h2, h3, h4, r⟩ := F
  have n1 : a ∉ [x] := fun q => (E.ne h1 hC) (List.mem_singleton.mp q).symm
  have n2 : t ∉ [x] := fun q => (E.neArv h4 wi) (List.mem_singleton.mp q).symm
  exact ⟨t, kb, cd, N, vs, h1.keep K, h2.keep K n1, h3.keep K n1, h4.keep K n2, r⟩
theorem own_Str.keepA {Z : State} {h h' : Heap} {a x : Addr} {cs : List Int32} {k : ClassId} {z : Int32} {us : List Value} {d : Value} {a0 : Array Value} {kI : Nat} (F : own_Str Z h a cs) (K : Keep h h' [x]) (A : Arv Z h x k .char z us d) (wi : (Jvm.Cond.instantiable "java/lang/String" kI).before a0 Z = true) : own_Str Z h' a cs := by
  obtain ⟨t, kb, cd, N, vs, h1, h2, h3, h4, r⟩ := F
  have n1 : a ∉ [x] := fun q => (h1.neArv A wi) (List.mem_singleton.mp q)
  have n2 : t ∉ [x] := fun q => by
    rw [List.mem_singleton.mp q] at h4
    obtain ⟨c, A1, -⟩ := A
    obtain ⟨c2, A2, -⟩ := h4
    cases A1.1.symm.trans A2.1
    obtain ⟨-, kA, hkA, comp, hkind⟩ := A1.2.1
    obtain ⟨-, kB, hkB, compB, hkindB⟩ := A2.2.1
    cases hkA.symm.trans hkB
    rw [hkind] at hkindB; cases hkindB
  exact ⟨t, kb, cd, N, vs, h1.keep K, h2.keep K n1, h3.keep K n1, h4.keep K n2, r⟩
theorem own_up (cs : List Int32) (h : ∀ c ∈ cs, ¬ c < 0 ∧ ¬ (255 : Int32) < c) : ∀ c ∈ cs, ¬ c < 0 ∧ ¬ (65535 : Int32) < c := fun c hc => ⟨(h c hc).1, fun q => (h c hc).2 (by rw [Int32.lt_iff_toInt_lt] at q ⊢; have e1 : (65535 : Int32).toInt = 65535 := rfl; have e2 : (255 : Int32).toInt = 255 := rfl; omega)⟩
theorem own_eqv {v : Option Value} {cs ds : List Int32} (h : (v = some (.int 1) ∧ cs = ds) ∨ (v = some (.int 0) ∧ ¬ cs = ds)) : v = some (.int (if cs = ds then (1 : Int32) else (0 : Int32))) := by
  rcases h with ⟨h, q⟩ | ⟨h, q⟩ <;> rw [h]
  · rw [if_pos q]
  · rw [if_neg q]
theorem own_if1 {P : Prop} [Decidable P] {c : Int32} (h : c = if P then (1 : Int32) else (0 : Int32)) (q : ¬ c = 0) : P := by
  by_cases p : P
  · exact p
  · rw [if_neg p] at h; exact absurd h q
theorem own_if0 {P : Prop} [Decidable P] {c : Int32} (h : c = if P then (1 : Int32) else (0 : Int32)) (q : c = 0) : ¬ P := by
  intro p; rw [if_pos p] at h; rw [h] at q; exact absurd q (by decide)
theorem own_safe0 {Z : State} {EL : List (String × Nat)} {vm : Vm} {h : Heap} {x : Addr} {a0 : Array Value} {k : Nat} (hal : Z.vm.Alike vm) (E : Exa Z h x "java/lang/String") (F : Fld Z h x "java/lang/String" "value" "[B" .null) (wi : (Jvm.Cond.instantiable "java/lang/String" k).before a0 Z = true) : Safe Z EL vm h x := fun B => by
  obtain ⟨p, -, u, a, -, q, -, G, rfl | rfl⟩ := B
  · obtain ⟨cell, cf, kk, i, f, e1, e2, e3, -, -, -, e7⟩ := F
    cases (show h[q.sa]? = some q.sC from G.ha).symm.trans e1
    obtain ⟨cS, ⟨⟨-, -, -, ⟨c1, k1, i1, f1, -⟩, -, -, -, v1, -⟩, -⟩, -⟩ := G
    obtain ⟨k3, w3, -⟩ := State.fieldFound?_setVm (s := Z) hal e2
    have w4 := (show (Wst Z vm h).fieldFound? _ _ _ = _ from w3).symm.trans f1
    simp only [Option.some.injEq, Prod.mk.injEq] at w4
    rw [← w4.2.2.2, e7] at v1
    cases v1
  · obtain ⟨cell, kk, e1, e2, e3, -, -⟩ := E
    cases (show h[q.sd]? = some q.SA from G.hd).symm.trans e1
    obtain ⟨cS, -, -, f, -⟩ := G
    rw [show (Wst Z vm h).vm = vm from rfl, hal.findClass] at f
    obtain ⟨k1, q1, q2⟩ := Vm.findClass_spec f
    obtain ⟨k2, q3, q4⟩ := Vm.findClass_spec e2
    cases q1.symm.trans q3
    exact absurd (q2.symm.trans q4) (by decide)
theorem own_cast {p : Program} {e : Env} {below : List Frame} {T : State} {f f' : JFrame} (h : f = f') : ∀ t, Steps p.tables e below (T.setTop f') t → Steps p.tables e below (T.setTop f) t := fun _ k => h ▸ k
theorem own_ofto {i : Nat} (h : i < 2147483648) : (Int32.ofNat i).toNatClampNeg = i := by
  simp only [Int32.toNatClampNeg, Int32.toInt_ofNat_small h]; omega
theorem own_oflt {i n : Nat} (h : i < n) (hn : n < 2147483648) : Int32.ofNat i < Int32.ofNat n := by
  rw [Int32.lt_iff_toInt_lt, Int32.toInt_ofNat_small (by omega), Int32.toInt_ofNat_small hn]; omega
theorem own_ofnn {i : Nat} (h : i < 2147483648) : ¬ Int32.ofNat i < 0 := by
  rw [Int32.lt_iff_toInt_lt, Int32.toInt_ofNat_small h]; simp only [Int32.reduceToInt]; omega
theorem own_ofsucc (i : Nat) : Int32.ofNat i + (1 : Int32) = Int32.ofNat (i + 1) := by
  rw [Int32.ofNat_add]; rfl
theorem own_getb (cs : List Int32) (i : Nat) (h : i < cs.length) : some (((cs.map (fun c => c.toInt8.toInt32)).map Value.int).getD i (.int 0)) = some (.int (cs.getD i 0).toInt8.toInt32) := by
  simp [List.getD_eq_getElem?_getD, h]
theorem own_b8 {x y : Int32} (hx : ¬ x < 0 ∧ ¬ (255 : Int32) < x) (hy : ¬ y < 0 ∧ ¬ (255 : Int32) < y) (h : x.toInt8.toInt32 = y.toInt8.toInt32) : x = y := by
  have a := c_i2b x; have b := c_i2b y
  have e := congrArg Int32.toInt h
  simp only [Int32.lt_iff_toInt_lt, Int32.reduceToInt] at hx hy
  exact Int32.toInt_inj.mp (by omega)
theorem own_none (cs : List Int32) (ch : Int32) (h : ∀ j, j < cs.length → ¬ cs.getD j 0 = ch) : (-1 : Int32) < 0 ↔ ¬ ch ∈ cs := by
  refine ⟨fun _ q => ?_, fun _ => by decide⟩
  obtain ⟨j, hj, e⟩ := List.getElem_of_mem q
  exact h j hj (by simp [List.getD_eq_getElem?_getD, hj, e])
theorem own_some (cs : List Int32) (ch : Int32) (i : Nat) (hi : i < cs.length) (hb : i < 2147483648) (hp : ∀ c ∈ cs, ¬ c < 0 ∧ ¬ (255 : Int32) < c) (hch : ¬ ch < 0 ∧ ¬ (255 : Int32) < ch) (h : (cs.getD i 0).toInt8.toInt32 = ch.toInt8.toInt32) : Int32.ofNat i < 0 ↔ ¬ ch ∈ cs := by
  refine ⟨fun q => absurd q (own_ofnn hb), fun q => absurd ?_ q⟩
  have m : cs.getD i 0 ∈ cs := by simp [List.getD_eq_getElem?_getD, hi]
  rw [← own_b8 (hp _ m) hch h]; exact m
theorem own_nil (cs : List Int32) (ch : Int32) (hle : cs.length ≤ 4000) (h : ¬ (0 : Int32) < Int32.ofNat cs.length) : (-1 : Int32) < 0 ↔ ¬ ch ∈ cs := by
  have : cs.length = 0 := by
    rw [Int32.lt_iff_toInt_lt, Int32.toInt_ofNat_small (by omega)] at h; simp only [Int32.reduceToInt] at h; omega
  have e : cs = [] := List.length_eq_zero_iff.mp this
  subst e
  exact ⟨fun _ q => (by cases q), fun _ => by decide⟩
theorem own_w1 {v c : Int32} (h : c = (if v = (42 : Int32) then (1 : Int32) else if v = (63 : Int32) then (1 : Int32) else (0 : Int32))) (q : ¬ c = 0) : v = 42 ∨ v = 63 := by
  by_cases a : v = 42
  · exact Or.inl a
  · by_cases b : v = 63
    · exact Or.inr b
    · rw [if_neg a, if_neg b] at h; exact absurd h q
theorem own_w0 {v c : Int32} (h : c = (if v = (42 : Int32) then (1 : Int32) else if v = (63 : Int32) then (1 : Int32) else (0 : Int32))) (q : c = 0) : ¬ v = 42 ∧ ¬ v = 63 := by
  refine ⟨fun a => ?_, fun b => ?_⟩
  · rw [if_pos a] at h; rw [h] at q; exact absurd q (by decide)
  · by_cases a : v = 42
    · rw [if_pos a] at h; rw [h] at q; exact absurd q (by decide)
    · rw [if_neg a, if_pos b] at h; rw [h] at q; exact absurd q (by decide)
theorem own_cod0 {cd N : Int32} {vs : List Value} (h : StrChars.Road.CodA [] cd N vs) : cd = 0 ∧ N = (0 : Int32) ∧ vs = [] := by
  rcases h with ⟨h1, h2, h3, -⟩ | ⟨-, -, -, c, hc, -⟩
  · exact ⟨h1, h2, h3⟩
  · cases hc
theorem own_m5 (x : Int32) : (x &&& 2147483647) % 5 = 0 ∨ (x &&& 2147483647) % 5 = 1 ∨ (x &&& 2147483647) % 5 = 2 ∨ (x &&& 2147483647) % 5 = 3 ∨ (x &&& 2147483647) % 5 = 4 := by
  have h := c_mask x 2147483647 31 (by decide) (by decide)
  have h2 := (c_irem (x &&& 2147483647) 5 5 (by decide)).1 (by omega)
  have q : ((x &&& 2147483647) % 5).toInt = (0 : Int32).toInt ∨ ((x &&& 2147483647) % 5).toInt = (1 : Int32).toInt ∨ ((x &&& 2147483647) % 5).toInt = (2 : Int32).toInt ∨ ((x &&& 2147483647) % 5).toInt = (3 : Int32).toInt ∨ ((x &&& 2147483647) % 5).toInt = (4 : Int32).toInt := by
    simp only [Int32.reduceToInt]; omega
  simpa only [Int32.toInt_inj] using q
theorem own_wd (v : Int32) : (if v = (42 : Int32) then (1 : Int32) else if v = (63 : Int32) then (1 : Int32) else (0 : Int32)) = (0 : Int32) ↔ ¬ (v = 42 ∨ v = 63) := by
  by_cases a : v = 42 <;> by_cases b : v = 63 <;> simp [a, b]
theorem own_law0  : (if (42 : Int32) ∈ ([] : List Int32) ∨ (63 : Int32) ∈ ([] : List Int32) then (1 : Int32) else (0 : Int32)) = (0 : Int32) := by
  rfl
theorem own_law1 (a : Int32) : (if (42 : Int32) ∈ ([a] : List Int32) ∨ (63 : Int32) ∈ ([a] : List Int32) then (1 : Int32) else (0 : Int32)) = (if (if a = (42 : Int32) then (1 : Int32) else if a = (63 : Int32) then (1 : Int32) else (0 : Int32)) = (0 : Int32) then (0 : Int32) else (1 : Int32)) := by
  simp only [own_wd, List.mem_cons, List.not_mem_nil, or_false]
  grind
theorem own_law2 (a b : Int32) : (if (42 : Int32) ∈ ([a, b] : List Int32) ∨ (63 : Int32) ∈ ([a, b] : List Int32) then (1 : Int32) else (0 : Int32)) = (if (if a = (42 : Int32) then (1 : Int32) else if a = (63 : Int32) then (1 : Int32) else (0 : Int32)) = (0 : Int32) then (if (if b = (42 : Int32) then (1 : Int32) else if b = (63 : Int32) then (1 : Int32) else (0 : Int32)) = (0 : Int32) then (0 : Int32) else (1 : Int32)) else (1 : Int32)) := by
  simp only [own_wd, List.mem_cons, List.not_mem_nil, or_false]
  grind
theorem own_law3 (a b c : Int32) : (if (42 : Int32) ∈ ([a, b, c] : List Int32) ∨ (63 : Int32) ∈ ([a, b, c] : List Int32) then (1 : Int32) else (0 : Int32)) = (if (if a = (42 : Int32) then (1 : Int32) else if a = (63 : Int32) then (1 : Int32) else (0 : Int32)) = (0 : Int32) then (if (if b = (42 : Int32) then (1 : Int32) else if b = (63 : Int32) then (1 : Int32) else (0 : Int32)) = (0 : Int32) then (if (if c = (42 : Int32) then (1 : Int32) else if c = (63 : Int32) then (1 : Int32) else (0 : Int32)) = (0 : Int32) then (0 : Int32) else (1 : Int32)) else (1 : Int32)) else (1 : Int32)) := by
  simp only [own_wd, List.mem_cons, List.not_mem_nil, or_false]
  grind
theorem own_law4 (a b c d : Int32) : (if (42 : Int32) ∈ ([a, b, c, d] : List Int32) ∨ (63 : Int32) ∈ ([a, b, c, d] : List Int32) then (1 : Int32) else (0 : Int32)) = (if (if a = (42 : Int32) then (1 : Int32) else if a = (63 : Int32) then (1 : Int32) else (0 : Int32)) = (0 : Int32) then (if (if b = (42 : Int32) then (1 : Int32) else if b = (63 : Int32) then (1 : Int32) else (0 : Int32)) = (0 : Int32) then (if (if c = (42 : Int32) then (1 : Int32) else if c = (63 : Int32) then (1 : Int32) else (0 : Int32)) = (0 : Int32) then (if (if d = (42 : Int32) then (1 : Int32) else if d = (63 : Int32) then (1 : Int32) else (0 : Int32)) = (0 : Int32) then (0 : Int32) else (1 : Int32)) else (1 : Int32)) else (1 : Int32)) else (1 : Int32)) := by
  simp only [own_wd, List.mem_cons, List.not_mem_nil, or_false]
  grind
theorem d7_0 : decode jdk_42_method_154_code 0 = .ok (.getstatic 38, 3) := by decide +kernel
theorem d7_3 : decode jdk_42_method_154_code 3 = .ok (.ifCond .eq 14, 3) := by decide +kernel
theorem d7_6 : decode jdk_42_method_154_code 6 = .ok (.aload_n 0, 1) := by decide +kernel
theorem d7_7 : decode jdk_42_method_154_code 7 = .ok (.getfield 15, 3) := by decide +kernel
theorem d7_10 : decode jdk_42_method_154_code 10 = .ok (.ifCond .ne 7, 3) := by decide +kernel
theorem d7_13 : decode jdk_42_method_154_code 13 = .ok (.iconst 1, 1) := by decide +kernel
theorem d7_14 : decode jdk_42_method_154_code 14 = .ok (.goto 4, 3) := by decide +kernel
theorem d7_18 : decode jdk_42_method_154_code 18 = .ok (.ireturn, 1) := by decide +kernel
theorem pn_7 : plainFor (⟨"java/lang/String", "isLatin1", "()Z"⟩ : MethodName) = true := by first | exact plainFor_of_name (by first | (simp [plainName, overriddenIn]; done) | decide +kernel) | decide +kernel | exact Jvm.Free.JP.mathPlain rfl (by decide +kernel)
theorem ef_7 (m : MethodId) (a1 : Addr) : entryFrame m #[(.ref a1)] 1 = mkF m 0 #[.val (.ref a1)] [] := by first | (simp [entryFrame, mkF, argsToLocals, Value.category]; done) | rfl
def Q7 (Z : State) (a1 : Addr) (tt : Addr) (gz : Int32) (h0 : Heap) (n0 : Nat) (v : Option Value) (h : Heap) (L : List Loc) : Prop := v = some (.int 1) ∧ Fr n0 L ∧ h = h0
set_option maxRecDepth 65536 in
set_option maxHeartbeats 40000000 in
theorem rm7 (l : Launch) (Z : State) (a0 : Array Value) (hw : ∀ d ∈ tables_1, d.before a0 Z = true) (ws : List Jvm.Cond) (a1 : Addr) (tt : Addr) (gz : Int32) (h0 : Heap) (n0 : Nat) (Z0 : n0 ≤ h0.size) (E : Exa Z h0 a1 "java/lang/String") (V : Fld Z h0 a1 "java/lang/String" "value" "[B" (.ref tt)) (Cc : Fld Z h0 a1 "java/lang/String" "coder" "B" (.int (0 : Int32))) (O2 : Sta Z h0 "java/lang/String" "COMPACT_STRINGS" "Z" (.int gz)) (P5 : ¬ (gz = (0 : Int32))) :
    MetFree l (⟨"java/lang/String", "isLatin1", "()Z"⟩ : MethodName) (head1 (Jvm.Cond.code (⟨"java/lang/String", "isLatin1", "()Z"⟩ : MethodName) jdk_42_method_154_code 1 (some .boolean) :: ws) ({ frames := 0, cells := 0, slots := 0, locals := 0 } : Room)) (fun a U => a = #[(.ref a1)] ∧ Z.Warmed39 U.vm ∧ U.heap = h0) (fun _ _ _ _ _ => True) (fun _ U o U' => ∃ v L, o = .returned v ∧ Q7 Z a1 tt gz h0 n0 v U'.heap L ∧ FrameEnd U o U' L ({ frames := 0, cells := 0, slots := 0, locals := 0 } : Room).cells ({ frames := 0, cells := 0, slots := 0, locals := 0 } : Room).slots) := by
  refine MetFree.of_bodySF pn_7 hisR ?_
  intro p e s m args below meth c s₁ Bd hml0 hP hK
  obtain ⟨rfl, hZ, hh⟩ := hP
  have hx := Bd.exec
  have hby := Bd.bytes
  have hml : c.maxLocals = 1 := hml0
  have hown : s.vm.findClass "java/lang/String" = some m.cls := findClass_of_methodNamed Bd.named
  have hnm := (name_of_methodNamed Bd.named Bd.method).1
  have X0 : Stand p l e ({ frames := 0, cells := 0, slots := 0, locals := 0 } : Room) s m #[(.ref a1)] below meth c s₁ [] 0 0 := Stand.of_body Bd
  have e0 : s₁.heap = h0 := by rw [← hh, Bd.state]; rfl
  have N0 := Fr.nil n0
  refine own_at (castTop (ef_7 m a1)) ?_
  obtain ⟨T00, X00, e00, st00⟩ := getS2 X0 hx hZ hown (host := "") (Or.inl (hw _ (List.mem_of_getElem? (i := 42) rfl))) Via.refl e0 O2 (g := (mkF m 0 #[.val (.ref a1)] [])) rfl (hb hby d7_0)
  refine own_by st00 ?_
  have sg7 : ∀ t, own_S p e below T00 (mkF m 7 #[.val (.ref a1)] [(.ref a1)]) t → own_S p e below T00 (mkF m 3 #[.val (.ref a1)] [(.int gz)]) t := by
    intro t k
    show own_S p e below T00 (mkF m 3 #[.val (.ref a1)] [(.int gz)]) _
    refine XS.ifNo X00.here hx rfl (hb hby d7_3) rfl ((if0 _ _).trans (feq P5).1) ?_
    show own_S p e below T00 (mkF m 6 #[.val (.ref a1)] []) _
    refine XS.aloadN X00.here hx rfl (hb hby d7_6) rfl rfl ?_
    exact k
  refine own_by sg7 ?_
  obtain ⟨T7, X7, e7, st7⟩ := getF X00 hx hZ hown (host := "") (Or.inl (hw _ (List.mem_of_getElem? (i := 22) rfl))) Via.refl e00 Cc (g := (mkF m 7 #[.val (.ref a1)] [(.ref a1)])) rfl rfl (hb hby d7_7)
  refine own_by st7 ?_
  have sg18 : ∀ t, own_S p e below T7 (mkF m 18 #[.val (.ref a1)] [(.int (1 : Int32))]) t → own_S p e below T7 (mkF m 10 #[.val (.ref a1)] [(.int (0 : Int32))]) t := by
    intro t k
    show own_S p e below T7 (mkF m 10 #[.val (.ref a1)] [(.int (0 : Int32))]) _
    refine XS.ifNo X7.here hx rfl (hb hby d7_10) rfl ((if0 _ _).trans (teq (by decide : (0 : Int32) = (0 : Int32))).2) ?_
    show own_S p e below T7 (mkF m 13 #[.val (.ref a1)] []) _
    refine XS.iconst X7.here hx rfl (hb hby d7_13) ?_
    show own_S p e below T7 (mkF m 14 #[.val (.ref a1)] [(.int (1 : Int32))]) _
    refine XS.goto X7.here hx rfl (pc0 := 14) (pc' := 18) rfl (hb hby d7_14) (by decide) (by decide) ?_
    exact k
  refine own_by sg18 ?_
  obtain ⟨fs, hr, hrun, hended, hW, hsame⟩ := X7.leave (v := some (.int (1 : Int32))) (fun h => by rw [Bd.returns] at h; cases h)
  refine ⟨_, _, ?_, hrun, hended, _, _, rfl, ?_, ⟨_, rfl⟩, hW, hsame.mono (by decide) (by decide)⟩
  · exact retN X7 hx (t := .boolean) Bd.returns (by simp) (hb hby d7_18) hr
  · show Q7 Z a1 tt gz h0 n0 _ T7.heap _
    rw [e7]
    exact ⟨rfl, N0, rfl⟩
theorem d11_0 : decode jdk_43_method_4_code 0 = .ok (.iload_n 0, 1) := by decide +kernel
theorem d11_1 : decode jdk_43_method_4_code 1 = .ok (.ifCond .lt 14, 3) := by decide +kernel
theorem d11_4 : decode jdk_43_method_4_code 4 = .ok (.iload_n 0, 1) := by decide +kernel
theorem d11_5 : decode jdk_43_method_4_code 5 = .ok (.sipush 255, 3) := by decide +kernel
theorem d11_8 : decode jdk_43_method_4_code 8 = .ok (.if_icmp .gt 7, 3) := by decide +kernel
theorem d11_11 : decode jdk_43_method_4_code 11 = .ok (.iconst 1, 1) := by decide +kernel
theorem d11_12 : decode jdk_43_method_4_code 12 = .ok (.goto 4, 3) := by decide +kernel
theorem d11_16 : decode jdk_43_method_4_code 16 = .ok (.ireturn, 1) := by decide +kernel
theorem pn_11 : plainFor (⟨"java/lang/StringLatin1", "canEncode", "(I)Z"⟩ : MethodName) = true := by first | exact plainFor_of_name (by first | (simp [plainName, overriddenIn]; done) | decide +kernel) | decide +kernel | exact Jvm.Free.JP.mathPlain rfl (by decide +kernel)
theorem ef_11 (m : MethodId) (p0 : Int32) : entryFrame m #[(.int p0)] 1 = mkF m 0 #[.val (.int p0)] [] := by first | (simp [entryFrame, mkF, argsToLocals, Value.category]; done) | rfl
def Q11 (Z : State) (p0 : Int32) (h0 : Heap) (n0 : Nat) (v : Option Value) (h : Heap) (L : List Loc) : Prop := v = some (.int 1) ∧ Fr n0 L ∧ h = h0
set_option maxRecDepth 65536 in
set_option maxHeartbeats 40000000 in
theorem rm11 (l : Launch) (Z : State) (a0 : Array Value) (hw : ∀ d ∈ tables_1, d.before a0 Z = true) (ws : List Jvm.Cond) (p0 : Int32) (h0 : Heap) (n0 : Nat) (Z0 : n0 ≤ h0.size) (hp : ¬ p0 < (0 : Int32) ∧ ¬ (255 : Int32) < p0) :
    MetFree l (⟨"java/lang/StringLatin1", "canEncode", "(I)Z"⟩ : MethodName) (head1 (Jvm.Cond.code (⟨"java/lang/StringLatin1", "canEncode", "(I)Z"⟩ : MethodName) jdk_43_method_4_code 1 (some .boolean) :: ws) ({ frames := 0, cells := 0, slots := 0, locals := 0 } : Room)) (fun a U => a = #[(.int p0)] ∧ Z.Warmed39 U.vm ∧ U.heap = h0) (fun _ _ _ _ _ => True) (fun _ U o U' => ∃ v L, o = .returned v ∧ Q11 Z p0 h0 n0 v U'.heap L ∧ FrameEnd U o U' L ({ frames := 0, cells := 0, slots := 0, locals := 0 } : Room).cells ({ frames := 0, cells := 0, slots := 0, locals := 0 } : Room).slots) := by
  refine MetFree.of_bodySF pn_11 hisR ?_
  intro p e s m args below meth c s₁ Bd hml0 hP hK
  obtain ⟨rfl, hZ, hh⟩ := hP
  have hx := Bd.exec
  have hby := Bd.bytes
  have hml : c.maxLocals = 1 := hml0
  have hown : s.vm.findClass "java/lang/StringLatin1" = some m.cls := findClass_of_methodNamed Bd.named
  have hnm := (name_of_methodNamed Bd.named Bd.method).1
  have X0 : Stand p l e ({ frames := 0, cells := 0, slots := 0, locals := 0 } : Room) s m #[(.int p0)] below meth c s₁ [] 0 0 := Stand.of_body Bd
  have e0 : s₁.heap = h0 := by rw [← hh, Bd.state]; rfl
  have N0 := Fr.nil n0
  refine own_at (castTop (ef_11 m p0)) ?_
  have sg16 : ∀ t, own_S p e below s₁ (mkF m 16 #[.val (.int p0)] [(.int (1 : Int32))]) t → own_S p e below s₁ (mkF m 0 #[.val (.int p0)] []) t := by
    intro t k
    show own_S p e below s₁ (mkF m 0 #[.val (.int p0)] []) _
    refine XS.iloadN X0.here hx rfl (hb hby d11_0) rfl ?_
    show own_S p e below s₁ (mkF m 1 #[.val (.int p0)] [(.int p0)]) _
    refine XS.ifNo X0.here hx rfl (hb hby d11_1) rfl ((if0 _ _).trans (flt hp.1).1) ?_
    show own_S p e below s₁ (mkF m 4 #[.val (.int p0)] []) _
    refine XS.iloadN X0.here hx rfl (hb hby d11_4) rfl ?_
    show own_S p e below s₁ (mkF m 5 #[.val (.int p0)] [(.int p0)]) _
    refine XS.sipush X0.here hx rfl (hb hby d11_5) ?_
    show own_S p e below s₁ (mkF m 8 #[.val (.int p0)] [(.int (255 : Int32)), (.int p0)]) _
    refine XS.icmpNo X0.here hx rfl (hb hby d11_8) rfl (flt hp.2).2.2.1 ?_
    show own_S p e below s₁ (mkF m 11 #[.val (.int p0)] []) _
    refine XS.iconst X0.here hx rfl (hb hby d11_11) ?_
    show own_S p e below s₁ (mkF m 12 #[.val (.int p0)] [(.int (1 : Int32))]) _
    refine XS.goto X0.here hx rfl (pc0 := 12) (pc' := 16) rfl (hb hby d11_12) (by decide) (by decide) ?_
    exact k
  refine own_by sg16 ?_
  obtain ⟨fs, hr, hrun, hended, hW, hsame⟩ := X0.leave (v := some (.int (1 : Int32))) (fun h => by rw [Bd.returns] at h; cases h)
  refine ⟨_, _, ?_, hrun, hended, _, _, rfl, ?_, ⟨_, rfl⟩, hW, hsame.mono (by decide) (by decide)⟩
  · exact retN X0 hx (t := .boolean) Bd.returns (by simp) (hb hby d11_16) hr
  · show Q11 Z p0 h0 n0 _ s₁.heap _
    rw [e0]
    exact ⟨rfl, N0, rfl⟩
theorem d12_0 : decode jdk_29_method_65_code 0 = .ok (.iload_n 0, 1) := by decide +kernel
theorem d12_1 : decode jdk_29_method_65_code 1 = .ok (.iload_n 1, 1) := by decide +kernel
theorem d12_2 : decode jdk_29_method_65_code 2 = .ok (.if_icmp .lt 7, 3) := by decide +kernel
theorem d12_5 : decode jdk_29_method_65_code 5 = .ok (.iload_n 0, 1) := by decide +kernel
theorem d12_6 : decode jdk_29_method_65_code 6 = .ok (.goto 4, 3) := by decide +kernel
theorem d12_10 : decode jdk_29_method_65_code 10 = .ok (.ireturn, 1) := by decide +kernel
theorem pn_12 : plainFor (⟨"java/lang/Math", "max", "(II)I"⟩ : MethodName) = true := by first | exact plainFor_of_name (by first | (simp [plainName, overriddenIn]; done) | decide +kernel) | decide +kernel | exact Jvm.Free.JP.mathPlain rfl (by decide +kernel)
theorem ef_12 (m : MethodId) (p0 : Int32) : entryFrame m #[(.int p0), (.int p0)] 2 = mkF m 0 #[.val (.int p0), .val (.int p0)] [] := by first | (simp [entryFrame, mkF, argsToLocals, Value.category]; done) | rfl
def Q12 (Z : State) (p0 : Int32) (h0 : Heap) (n0 : Nat) (v : Option Value) (h : Heap) (L : List Loc) : Prop := v = some (.int p0) ∧ Fr n0 L ∧ h = h0
set_option maxRecDepth 65536 in
set_option maxHeartbeats 40000000 in
theorem rm12 (l : Launch) (Z : State) (a0 : Array Value) (hw : ∀ d ∈ tables_1, d.before a0 Z = true) (ws : List Jvm.Cond) (p0 : Int32) (h0 : Heap) (n0 : Nat) (Z0 : n0 ≤ h0.size) :
    MetFree l (⟨"java/lang/Math", "max", "(II)I"⟩ : MethodName) (head1 (Jvm.Cond.code (⟨"java/lang/Math", "max", "(II)I"⟩ : MethodName) jdk_29_method_65_code 2 (some .int) :: ws) ({ frames := 0, cells := 0, slots := 0, locals := 0 } : Room)) (fun a U => a = #[(.int p0), (.int p0)] ∧ Z.Warmed39 U.vm ∧ U.heap = h0) (fun _ _ _ _ _ => True) (fun _ U o U' => ∃ v L, o = .returned v ∧ Q12 Z p0 h0 n0 v U'.heap L ∧ FrameEnd U o U' L ({ frames := 0, cells := 0, slots := 0, locals := 0 } : Room).cells ({ frames := 0, cells := 0, slots := 0, locals := 0 } : Room).slots) := by
  refine MetFree.of_bodySF pn_12 hisR ?_
  intro p e s m args below meth c s₁ Bd hml0 hP hK
  obtain ⟨rfl, hZ, hh⟩ := hP
  have hx := Bd.exec
  have hby := Bd.bytes
  have hml : c.maxLocals = 2 := hml0
  have hown : s.vm.findClass "java/lang/Math" = some m.cls := findClass_of_methodNamed Bd.named
  have hnm := (name_of_methodNamed Bd.named Bd.method).1
  have X0 : Stand p l e ({ frames := 0, cells := 0, slots := 0, locals := 0 } : Room) s m #[(.int p0), (.int p0)] below meth c s₁ [] 0 0 := Stand.of_body Bd
  have e0 : s₁.heap = h0 := by rw [← hh, Bd.state]; rfl
  have N0 := Fr.nil n0
  refine own_at (castTop (ef_12 m p0)) ?_
  have sg10 : ∀ t, own_S p e below s₁ (mkF m 10 #[.val (.int p0), .val (.int p0)] [(.int p0)]) t → own_S p e below s₁ (mkF m 0 #[.val (.int p0), .val (.int p0)] []) t := by
    intro t k
    show own_S p e below s₁ (mkF m 0 #[.val (.int p0), .val (.int p0)] []) _
    refine XS.iloadN X0.here hx rfl (hb hby d12_0) rfl ?_
    show own_S p e below s₁ (mkF m 1 #[.val (.int p0), .val (.int p0)] [(.int p0)]) _
    refine XS.iloadN X0.here hx rfl (hb hby d12_1) rfl ?_
    show own_S p e below s₁ (mkF m 2 #[.val (.int p0), .val (.int p0)] [(.int p0), (.int p0)]) _
    refine XS.icmpNo X0.here hx rfl (hb hby d12_2) rfl (flt Int32.lt_irrefl).1 ?_
    show own_S p e below s₁ (mkF m 5 #[.val (.int p0), .val (.int p0)] []) _
    refine XS.iloadN X0.here hx rfl (hb hby d12_5) rfl ?_
    show own_S p e below s₁ (mkF m 6 #[.val (.int p0), .val (.int p0)] [(.int p0)]) _
    refine XS.goto X0.here hx rfl (pc0 := 6) (pc' := 10) rfl (hb hby d12_6) (by decide) (by decide) ?_
    exact k
  refine own_by sg10 ?_
  obtain ⟨fs, hr, hrun, hended, hW, hsame⟩ := X0.leave (v := some (.int p0)) (fun h => by rw [Bd.returns] at h; cases h)
  refine ⟨_, _, ?_, hrun, hended, _, _, rfl, ?_, ⟨_, rfl⟩, hW, hsame.mono (by decide) (by decide)⟩
  · exact retI X0 hx Bd.returns (hb hby d12_10) hr
  · show Q12 Z p0 h0 n0 _ s₁.heap _
    rw [e0]
    exact ⟨rfl, N0, rfl⟩
theorem d13_0 : decode jdk_29_method_69_code 0 = .ok (.iload_n 0, 1) := by decide +kernel
theorem d13_1 : decode jdk_29_method_69_code 1 = .ok (.iload_n 1, 1) := by decide +kernel
theorem d13_2 : decode jdk_29_method_69_code 2 = .ok (.if_icmp .gt 7, 3) := by decide +kernel
theorem d13_5 : decode jdk_29_method_69_code 5 = .ok (.iload_n 0, 1) := by decide +kernel
theorem d13_6 : decode jdk_29_method_69_code 6 = .ok (.goto 4, 3) := by decide +kernel
theorem d13_10 : decode jdk_29_method_69_code 10 = .ok (.ireturn, 1) := by decide +kernel
theorem pn_13 : plainFor (⟨"java/lang/Math", "min", "(II)I"⟩ : MethodName) = true := by first | exact plainFor_of_name (by first | (simp [plainName, overriddenIn]; done) | decide +kernel) | decide +kernel | exact Jvm.Free.JP.mathPlain rfl (by decide +kernel)
theorem ef_13 (m : MethodId) (p0 : Int32) : entryFrame m #[(.int p0), (.int p0)] 2 = mkF m 0 #[.val (.int p0), .val (.int p0)] [] := by first | (simp [entryFrame, mkF, argsToLocals, Value.category]; done) | rfl
def Q13 (Z : State) (p0 : Int32) (h0 : Heap) (n0 : Nat) (v : Option Value) (h : Heap) (L : List Loc) : Prop := v = some (.int p0) ∧ Fr n0 L ∧ h = h0
set_option maxRecDepth 65536 in
set_option maxHeartbeats 40000000 in
theorem rm13 (l : Launch) (Z : State) (a0 : Array Value) (hw : ∀ d ∈ tables_1, d.before a0 Z = true) (ws : List Jvm.Cond) (p0 : Int32) (h0 : Heap) (n0 : Nat) (Z0 : n0 ≤ h0.size) :
    MetFree l (⟨"java/lang/Math", "min", "(II)I"⟩ : MethodName) (head1 (Jvm.Cond.code (⟨"java/lang/Math", "min", "(II)I"⟩ : MethodName) jdk_29_method_69_code 2 (some .int) :: ws) ({ frames := 0, cells := 0, slots := 0, locals := 0 } : Room)) (fun a U => a = #[(.int p0), (.int p0)] ∧ Z.Warmed39 U.vm ∧ U.heap = h0) (fun _ _ _ _ _ => True) (fun _ U o U' => ∃ v L, o = .returned v ∧ Q13 Z p0 h0 n0 v U'.heap L ∧ FrameEnd U o U' L ({ frames := 0, cells := 0, slots := 0, locals := 0 } : Room).cells ({ frames := 0, cells := 0, slots := 0, locals := 0 } : Room).slots) := by
  refine MetFree.of_bodySF pn_13 hisR ?_
  intro p e s m args below meth c s₁ Bd hml0 hP hK
  obtain ⟨rfl, hZ, hh⟩ := hP
  have hx := Bd.exec
  have hby := Bd.bytes
  have hml : c.maxLocals = 2 := hml0
  have hown : s.vm.findClass "java/lang/Math" = some m.cls := findClass_of_methodNamed Bd.named
  have hnm := (name_of_methodNamed Bd.named Bd.method).1
  have X0 : Stand p l e ({ frames := 0, cells := 0, slots := 0, locals := 0 } : Room) s m #[(.int p0), (.int p0)] below meth c s₁ [] 0 0 := Stand.of_body Bd
  have e0 : s₁.heap = h0 := by rw [← hh, Bd.state]; rfl
  have N0 := Fr.nil n0
  refine own_at (castTop (ef_13 m p0)) ?_
  have sg10 : ∀ t, own_S p e below s₁ (mkF m 10 #[.val (.int p0), .val (.int p0)] [(.int p0)]) t → own_S p e below s₁ (mkF m 0 #[.val (.int p0), .val (.int p0)] []) t := by
    intro t k
    show own_S p e below s₁ (mkF m 0 #[.val (.int p0), .val (.int p0)] []) _
    refine XS.iloadN X0.here hx rfl (hb hby d13_0) rfl ?_
    show own_S p e below s₁ (mkF m 1 #[.val (.int p0), .val (.int p0)] [(.int p0)]) _
    refine XS.iloadN X0.here hx rfl (hb hby d13_1) rfl ?_
    show own_S p e below s₁ (mkF m 2 #[.val (.int p0), .val (.int p0)] [(.int p0), (.int p0)]) _
    refine XS.icmpNo X0.here hx rfl (hb hby d13_2) rfl (flt Int32.lt_irrefl).2.2.1 ?_
    show own_S p e below s₁ (mkF m 5 #[.val (.int p0), .val (.int p0)] []) _
    refine XS.iloadN X0.here hx rfl (hb hby d13_5) rfl ?_
    show own_S p e below s₁ (mkF m 6 #[.val (.int p0), .val (.int p0)] [(.int p0)]) _
    refine XS.goto X0.here hx rfl (pc0 := 6) (pc' := 10) rfl (hb hby d13_6) (by decide) (by decide) ?_
    exact k
  refine own_by sg10 ?_
  obtain ⟨fs, hr, hrun, hended, hW, hsame⟩ := X0.leave (v := some (.int p0)) (fun h => by rw [Bd.returns] at h; cases h)
  refine ⟨_, _, ?_, hrun, hended, _, _, rfl, ?_, ⟨_, rfl⟩, hW, hsame.mono (by decide) (by decide)⟩
  · exact retI X0 hx Bd.returns (hb hby d13_10) hr
  · show Q13 Z p0 h0 n0 _ s₁.heap _
    rw [e0]
    exact ⟨rfl, N0, rfl⟩
theorem d18_0 : decode jdk_43_method_23_code 0 = .ok (.iload_n 1, 1) := by decide +kernel
theorem d18_1 : decode jdk_43_method_23_code 1 = .ok (.i2b, 1) := by decide +kernel
theorem d18_2 : decode jdk_43_method_23_code 2 = .ok (.istore 4, 2) := by decide +kernel
theorem d18_4 : decode jdk_43_method_23_code 4 = .ok (.iload_n 2, 1) := by decide +kernel
theorem d18_5 : decode jdk_43_method_23_code 5 = .ok (.istore 5, 2) := by decide +kernel
theorem d18_7 : decode jdk_43_method_23_code 7 = .ok (.iload 5, 2) := by decide +kernel
theorem d18_9 : decode jdk_43_method_23_code 9 = .ok (.iload_n 3, 1) := by decide +kernel
theorem d18_10 : decode jdk_43_method_23_code 10 = .ok (.if_icmp .ge 21, 3) := by decide +kernel
theorem d18_13 : decode jdk_43_method_23_code 13 = .ok (.aload_n 0, 1) := by decide +kernel
theorem d18_14 : decode jdk_43_method_23_code 14 = .ok (.iload 5, 2) := by decide +kernel
theorem d18_16 : decode jdk_43_method_23_code 16 = .ok (.baload, 1) := by decide +kernel
theorem d18_17 : decode jdk_43_method_23_code 17 = .ok (.iload 4, 2) := by decide +kernel
theorem d18_19 : decode jdk_43_method_23_code 19 = .ok (.if_icmp .ne 6, 3) := by decide +kernel
theorem d18_22 : decode jdk_43_method_23_code 22 = .ok (.iload 5, 2) := by decide +kernel
theorem d18_24 : decode jdk_43_method_23_code 24 = .ok (.ireturn, 1) := by decide +kernel
theorem d18_25 : decode jdk_43_method_23_code 25 = .ok (.iinc 5 1, 3) := by decide +kernel
theorem d18_28 : decode jdk_43_method_23_code 28 = .ok (.goto (-21), 3) := by decide +kernel
theorem d18_31 : decode jdk_43_method_23_code 31 = .ok (.iconst (-1), 1) := by decide +kernel
theorem d18_32 : decode jdk_43_method_23_code 32 = .ok (.ireturn, 1) := by decide +kernel
theorem pn_18 : plainFor (⟨"java/lang/StringLatin1", "indexOfChar", "([BIII)I"⟩ : MethodName) = true := by first | exact plainFor_of_name (by first | (simp [plainName, overriddenIn]; done) | decide +kernel) | decide +kernel | exact Jvm.Free.JP.mathPlain rfl (by decide +kernel)
theorem ef_18 (m : MethodId) (tt : Addr) (ch : Int32) (cs : List Int32) : entryFrame m #[(.ref tt), (.int ch), (.int (0 : Int32)), (.int (Int32.ofNat cs.length))] 6 = mkF m 0 #[.val (.ref tt), .val (.int ch), .val (.int (0 : Int32)), .val (.int (Int32.ofNat cs.length)), .unset, .unset] [] := by first | (simp [entryFrame, mkF, argsToLocals, Value.category]; done) | rfl
def Q18 (Z : State) (tt : Addr) (ch : Int32) (kb : ClassId) (cs : List Int32) (h0 : Heap) (n0 : Nat) (v : Option Value) (h : Heap) (L : List Loc) : Prop := ∃ r : Int32, v = some (.int r) ∧ (r < 0 ↔ ¬ ch ∈ cs) ∧ Fr n0 L ∧ h = h0
set_option maxRecDepth 65536 in
set_option maxHeartbeats 40000000 in
theorem rm18 (l : Launch) (Z : State) (a0 : Array Value) (hw : ∀ d ∈ tables_1, d.before a0 Z = true) (ws : List Jvm.Cond) (tt : Addr) (ch : Int32) (kb : ClassId) (cs : List Int32) (h0 : Heap) (n0 : Nat) (Z0 : n0 ≤ h0.size) (K : Arv Z h0 tt kb .byte (Int32.ofNat cs.length) ((cs.map (fun c => c.toInt8.toInt32)).map Value.int) (.int 0)) (hp : ∀ c ∈ cs, ¬ c < 0 ∧ ¬ (255 : Int32) < c) (hle : cs.length ≤ 4000) (hch : ¬ ch < 0 ∧ ¬ (255 : Int32) < ch) :
    MetFree l (⟨"java/lang/StringLatin1", "indexOfChar", "([BIII)I"⟩ : MethodName) (head1 (Jvm.Cond.code (⟨"java/lang/StringLatin1", "indexOfChar", "([BIII)I"⟩ : MethodName) jdk_43_method_23_code 6 (some .int) :: ws) ({ frames := 0, cells := 0, slots := 0, locals := 0 } : Room)) (fun a U => a = #[(.ref tt), (.int ch), (.int (0 : Int32)), (.int (Int32.ofNat cs.length))] ∧ Z.Warmed39 U.vm ∧ U.heap = h0) (fun _ _ _ _ _ => True) (fun _ U o U' => ∃ v L, o = .returned v ∧ Q18 Z tt ch kb cs h0 n0 v U'.heap L ∧ FrameEnd U o U' L ({ frames := 0, cells := 0, slots := 0, locals := 0 } : Room).cells ({ frames := 0, cells := 0, slots := 0, locals := 0 } : Room).slots) := by
  refine MetFree.of_bodySF pn_18 hisR ?_
  intro p e s m args below meth c s₁ Bd hml0 hP hK
  obtain ⟨rfl, hZ, hh⟩ := hP
  have hx := Bd.exec
  have hby := Bd.bytes
  have hml : c.maxLocals = 6 := hml0
  have hown : s.vm.findClass "java/lang/StringLatin1" = some m.cls := findClass_of_methodNamed Bd.named
  have hnm := (name_of_methodNamed Bd.named Bd.method).1
  have X0 : Stand p l e ({ frames := 0, cells := 0, slots := 0, locals := 0 } : Room) s m #[(.ref tt), (.int ch), (.int (0 : Int32)), (.int (Int32.ofNat cs.length))] below meth c s₁ [] 0 0 := Stand.of_body Bd
  have e0 : s₁.heap = h0 := by rw [← hh, Bd.state]; rfl
  have N0 := Fr.nil n0
  refine own_at (castTop (ef_18 m tt ch cs)) ?_
  have sg7 : ∀ t, own_S p e below s₁ (mkF m 7 (own_ARIIIII tt ch (0 : Int32) (Int32.ofNat cs.length) (ch.toInt8.toInt32) (0 : Int32)) []) t → own_S p e below s₁ (mkF m 0 (own_ARIIIUU tt ch (0 : Int32) (Int32.ofNat cs.length)) []) t := by
    intro t k
    show own_S p e below s₁ (mkF m 0 (own_ARIIIUU tt ch (0 : Int32) (Int32.ofNat cs.length)) []) _
    refine XS.iloadN X0.here hx rfl (hb hby d18_0) rfl ?_
    show own_S p e below s₁ (mkF m 1 (own_ARIIIUU tt ch (0 : Int32) (Int32.ofNat cs.length)) [(.int ch)]) _
    refine XS.i2b X0.here hx rfl (hb hby d18_1) rfl ?_
    show own_S p e below s₁ (mkF m 2 (own_ARIIIUU tt ch (0 : Int32) (Int32.ofNat cs.length)) [(.int (ch.toInt8.toInt32))]) _
    refine XS.istore X0.here hx rfl (hb hby d18_2) rfl (l' := (own_ARIIIIU tt ch (0 : Int32) (Int32.ofNat cs.length) (ch.toInt8.toInt32))) rfl ?_
    show own_S p e below s₁ (mkF m 4 (own_ARIIIIU tt ch (0 : Int32) (Int32.ofNat cs.length) (ch.toInt8.toInt32)) []) _
    refine XS.iloadN X0.here hx rfl (hb hby d18_4) rfl ?_
    show own_S p e below s₁ (mkF m 5 (own_ARIIIIU tt ch (0 : Int32) (Int32.ofNat cs.length) (ch.toInt8.toInt32)) [(.int (0 : Int32))]) _
    refine XS.istore X0.here hx rfl (hb hby d18_5) rfl (l' := (own_ARIIIII tt ch (0 : Int32) (Int32.ofNat cs.length) (ch.toInt8.toInt32) (0 : Int32))) rfl ?_
    exact k
  refine own_by sg7 ?_
  obtain ⟨cl, Ar, q1, Sz, Nz, Hz, Gz⟩ := K
  have loop : ∀ (k i : Nat), i + k = cs.length → (∀ j, j < i → ¬ cs.getD j 0 = ch) → own_Rest p e below (fun o U' => ∃ v L, o = .returned v ∧ Q18 Z tt ch kb cs h0 n0 v U'.heap L ∧ FrameEnd s o U' L ({ frames := 0, cells := 0, slots := 0, locals := 0 } : Room).cells ({ frames := 0, cells := 0, slots := 0, locals := 0 } : Room).slots) s₁ (mkF m 7 (own_ARIIIII tt ch (0 : Int32) (Int32.ofNat cs.length) (ch.toInt8.toInt32) (Int32.ofNat i)) []) := by
    intro k
    induction k with
    | zero =>
      intro i hi hno
      have ei : i = cs.length := by omega
      subst ei
      have sg32 : ∀ t, own_S p e below s₁ (mkF m 32 (own_ARIIIII tt ch (0 : Int32) (Int32.ofNat cs.length) (ch.toInt8.toInt32) (Int32.ofNat cs.length)) [(.int (-1 : Int32))]) t → own_S p e below s₁ (mkF m 7 (own_ARIIIII tt ch (0 : Int32) (Int32.ofNat cs.length) (ch.toInt8.toInt32) (Int32.ofNat cs.length)) []) t := by
        intro t k
        show own_S p e below s₁ (mkF m 7 (own_ARIIIII tt ch (0 : Int32) (Int32.ofNat cs.length) (ch.toInt8.toInt32) (Int32.ofNat cs.length)) []) _
        refine XS.iload X0.here hx rfl (hb hby d18_7) rfl ?_
        show own_S p e below s₁ (mkF m 9 (own_ARIIIII tt ch (0 : Int32) (Int32.ofNat cs.length) (ch.toInt8.toInt32) (Int32.ofNat cs.length)) [(.int (Int32.ofNat cs.length))]) _
        refine XS.iloadN X0.here hx rfl (hb hby d18_9) rfl ?_
        show own_S p e below s₁ (mkF m 10 (own_ARIIIII tt ch (0 : Int32) (Int32.ofNat cs.length) (ch.toInt8.toInt32) (Int32.ofNat cs.length)) [(.int (Int32.ofNat cs.length)), (.int (Int32.ofNat cs.length))]) _
        refine XS.icmpYes X0.here hx rfl (pc0 := 10) (pc' := 31) rfl (hb hby d18_10) rfl (flt Int32.lt_irrefl).2.1 (by decide) (by decide) ?_
        show own_S p e below s₁ (mkF m 31 (own_ARIIIII tt ch (0 : Int32) (Int32.ofNat cs.length) (ch.toInt8.toInt32) (Int32.ofNat cs.length)) []) _
        refine XS.iconst X0.here hx rfl (hb hby d18_31) ?_
        exact k
      refine own_by sg32 ?_
      obtain ⟨fs, hr, hrun, hended, hW, hsame⟩ := X0.leave (v := some (.int (-1 : Int32))) (fun h => by rw [Bd.returns] at h; cases h)
      refine ⟨_, _, ?_, hrun, hended, _, _, rfl, ?_, ⟨_, rfl⟩, hW, hsame.mono (by decide) (by decide)⟩
      · exact retI X0 hx Bd.returns (hb hby d18_32) hr
      · show Q18 Z tt ch kb cs h0 n0 _ s₁.heap _
        rw [e0]
        exact ⟨_, rfl, own_none cs ch hno, N0, rfl⟩
    | succ k ih =>
      intro i hi hno
      have hlt : i < cs.length := by omega
      have hil : Int32.ofNat i < Int32.ofNat cs.length := own_oflt hlt (by omega)
      have hin : ¬ ((Int32.ofNat i) < 0 ∨ cl.slots.size ≤ (Int32.ofNat i).toNatClampNeg) := inb_of Sz ⟨own_ofnn (by omega), hil⟩
      have hnat : (Int32.ofNat i).toNatClampNeg = i := own_ofto (by omega)
      have hat : cl.slots[(Int32.ofNat i).toNatClampNeg]? = some (.int (cs.getD i 0).toInt8.toInt32) := by
        rw [hnat, Hz i (by rw [Sz, own_ofto (by omega)]; exact hlt)]; exact own_getb cs i hlt
      have sg19 : ∀ t, own_S p e below s₁ (mkF m 19 (own_ARIIIII tt ch (0 : Int32) (Int32.ofNat cs.length) (ch.toInt8.toInt32) (Int32.ofNat i)) [(.int (ch.toInt8.toInt32)), (.int ((cs.getD i 0).toInt8.toInt32))]) t → own_S p e below s₁ (mkF m 7 (own_ARIIIII tt ch (0 : Int32) (Int32.ofNat cs.length) (ch.toInt8.toInt32) (Int32.ofNat i)) []) t := by
        intro t k
        show own_S p e below s₁ (mkF m 7 (own_ARIIIII tt ch (0 : Int32) (Int32.ofNat cs.length) (ch.toInt8.toInt32) (Int32.ofNat i)) []) _
        refine XS.iload X0.here hx rfl (hb hby d18_7) rfl ?_
        show own_S p e below s₁ (mkF m 9 (own_ARIIIII tt ch (0 : Int32) (Int32.ofNat cs.length) (ch.toInt8.toInt32) (Int32.ofNat i)) [(.int (Int32.ofNat i))]) _
        refine XS.iloadN X0.here hx rfl (hb hby d18_9) rfl ?_
        show own_S p e below s₁ (mkF m 10 (own_ARIIIII tt ch (0 : Int32) (Int32.ofNat cs.length) (ch.toInt8.toInt32) (Int32.ofNat i)) [(.int (Int32.ofNat cs.length)), (.int (Int32.ofNat i))]) _
        refine XS.icmpNo X0.here hx rfl (hb hby d18_10) rfl (tlt hil).2.1 ?_
        show own_S p e below s₁ (mkF m 13 (own_ARIIIII tt ch (0 : Int32) (Int32.ofNat cs.length) (ch.toInt8.toInt32) (Int32.ofNat i)) []) _
        refine XS.aloadN X0.here hx rfl (hb hby d18_13) rfl rfl ?_
        show own_S p e below s₁ (mkF m 14 (own_ARIIIII tt ch (0 : Int32) (Int32.ofNat cs.length) (ch.toInt8.toInt32) (Int32.ofNat i)) [(.ref tt)]) _
        refine XS.iload X0.here hx rfl (hb hby d18_14) rfl ?_
        show own_S p e below s₁ (mkF m 16 (own_ARIIIII tt ch (0 : Int32) (Int32.ofNat cs.length) (ch.toInt8.toInt32) (Int32.ofNat i)) [(.int (Int32.ofNat i)), (.ref tt)]) _
        refine X0.baloadBytes hx (j := (Int32.ofNat i)) (v := (.int (cs.getD i 0).toInt8.toInt32)) (by rw [e0]; exact Ar.1) (State.isArrayOf_alike hZ.alike Ar.2.1) Ar.2.2 hin hat (g := (mkF m 16 (own_ARIIIII tt ch (0 : Int32) (Int32.ofNat cs.length) (ch.toInt8.toInt32) (Int32.ofNat i)) [(.int (Int32.ofNat i)), (.ref tt)])) rfl rfl (hb hby d18_16) _ ?_
        show own_S p e below s₁ (mkF m 17 (own_ARIIIII tt ch (0 : Int32) (Int32.ofNat cs.length) (ch.toInt8.toInt32) (Int32.ofNat i)) [(.int ((cs.getD i 0).toInt8.toInt32))]) _
        refine XS.iload X0.here hx rfl (hb hby d18_17) rfl ?_
        exact k
      refine own_by sg19 ?_
      by_cases hc19 : ((cs.getD i 0).toInt8.toInt32) = (ch.toInt8.toInt32)
      · have sg24 : ∀ t, own_S p e below s₁ (mkF m 24 (own_ARIIIII tt ch (0 : Int32) (Int32.ofNat cs.length) (ch.toInt8.toInt32) (Int32.ofNat i)) [(.int (Int32.ofNat i))]) t → own_S p e below s₁ (mkF m 19 (own_ARIIIII tt ch (0 : Int32) (Int32.ofNat cs.length) (ch.toInt8.toInt32) (Int32.ofNat i)) [(.int (ch.toInt8.toInt32)), (.int ((cs.getD i 0).toInt8.toInt32))]) t := by
          intro t k
          show own_S p e below s₁ (mkF m 19 (own_ARIIIII tt ch (0 : Int32) (Int32.ofNat cs.length) (ch.toInt8.toInt32) (Int32.ofNat i)) [(.int (ch.toInt8.toInt32)), (.int ((cs.getD i 0).toInt8.toInt32))]) _
          refine XS.icmpNo X0.here hx rfl (hb hby d18_19) rfl (teq hc19).2 ?_
          show own_S p e below s₁ (mkF m 22 (own_ARIIIII tt ch (0 : Int32) (Int32.ofNat cs.length) (ch.toInt8.toInt32) (Int32.ofNat i)) []) _
          refine XS.iload X0.here hx rfl (hb hby d18_22) rfl ?_
          exact k
        refine own_by sg24 ?_
        obtain ⟨fs, hr, hrun, hended, hW, hsame⟩ := X0.leave (v := some (.int (Int32.ofNat i))) (fun h => by rw [Bd.returns] at h; cases h)
        refine ⟨_, _, ?_, hrun, hended, _, _, rfl, ?_, ⟨_, rfl⟩, hW, hsame.mono (by decide) (by decide)⟩
        · exact retI X0 hx Bd.returns (hb hby d18_24) hr
        · show Q18 Z tt ch kb cs h0 n0 _ s₁.heap _
          rw [e0]
          exact ⟨_, rfl, own_some cs ch i hlt (by omega) hp hch hc19, N0, rfl⟩
      · have sg7_2 : ∀ t, own_S p e below s₁ (mkF m 7 (own_ARIIIII tt ch (0 : Int32) (Int32.ofNat cs.length) (ch.toInt8.toInt32) ((Int32.ofNat i) + (1 : Int32))) []) t → own_S p e below s₁ (mkF m 19 (own_ARIIIII tt ch (0 : Int32) (Int32.ofNat cs.length) (ch.toInt8.toInt32) (Int32.ofNat i)) [(.int (ch.toInt8.toInt32)), (.int ((cs.getD i 0).toInt8.toInt32))]) t := by
          intro t k
          show own_S p e below s₁ (mkF m 19 (own_ARIIIII tt ch (0 : Int32) (Int32.ofNat cs.length) (ch.toInt8.toInt32) (Int32.ofNat i)) [(.int (ch.toInt8.toInt32)), (.int ((cs.getD i 0).toInt8.toInt32))]) _
          refine XS.icmpYes X0.here hx rfl (pc0 := 19) (pc' := 25) rfl (hb hby d18_19) rfl (feq hc19).2 (by decide) (by decide) ?_
          show own_S p e below s₁ (mkF m 25 (own_ARIIIII tt ch (0 : Int32) (Int32.ofNat cs.length) (ch.toInt8.toInt32) (Int32.ofNat i)) []) _
          refine XS.iinc X0.here hx rfl (hb hby d18_25) rfl (l' := (own_ARIIIII tt ch (0 : Int32) (Int32.ofNat cs.length) (ch.toInt8.toInt32) ((Int32.ofNat i) + (1 : Int32)))) rfl ?_
          show own_S p e below s₁ (mkF m 28 (own_ARIIIII tt ch (0 : Int32) (Int32.ofNat cs.length) (ch.toInt8.toInt32) ((Int32.ofNat i) + (1 : Int32))) []) _
          refine XS.goto X0.here hx rfl (pc0 := 28) (pc' := 7) rfl (hb hby d18_28) (by decide) (by decide) ?_
          exact k
        refine own_by sg7_2 ?_
        refine own_by (own_cast (congrArg (fun z => (mkF m 7 (own_ARIIIII tt ch (0 : Int32) (Int32.ofNat cs.length) (ch.toInt8.toInt32) z) [])) (own_ofsucc i))) ?_
        exact ih (i + 1) (by omega) (fun j hj => by
          rcases Nat.lt_succ_iff_lt_or_eq.mp hj with q | q
          · exact hno j q
          · rw [q]; exact fun e => hc19 (by rw [e]))
  exact loop cs.length 0 (by omega) (fun j hj => absurd hj (Nat.not_lt_zero j))
theorem d10_0 : decode jdk_43_method_22_code 0 = .ok (.iload_n 1, 1) := by decide +kernel
theorem d10_1 : decode jdk_43_method_22_code 1 = .ok (.invokestatic 88, 3) := by decide +kernel
theorem d10_4 : decode jdk_43_method_22_code 4 = .ok (.ifCond .ne 5, 3) := by decide +kernel
theorem d10_9 : decode jdk_43_method_22_code 9 = .ok (.iload_n 2, 1) := by decide +kernel
theorem d10_10 : decode jdk_43_method_22_code 10 = .ok (.iconst 0, 1) := by decide +kernel
theorem d10_11 : decode jdk_43_method_22_code 11 = .ok (.invokestatic 92, 3) := by decide +kernel
theorem d10_14 : decode jdk_43_method_22_code 14 = .ok (.istore_n 2, 1) := by decide +kernel
theorem d10_15 : decode jdk_43_method_22_code 15 = .ok (.iload_n 3, 1) := by decide +kernel
theorem d10_16 : decode jdk_43_method_22_code 16 = .ok (.aload_n 0, 1) := by decide +kernel
theorem d10_17 : decode jdk_43_method_22_code 17 = .ok (.arraylength, 1) := by decide +kernel
theorem d10_18 : decode jdk_43_method_22_code 18 = .ok (.invokestatic 38, 3) := by decide +kernel
theorem d10_21 : decode jdk_43_method_22_code 21 = .ok (.istore_n 3, 1) := by decide +kernel
theorem d10_22 : decode jdk_43_method_22_code 22 = .ok (.iload_n 2, 1) := by decide +kernel
theorem d10_23 : decode jdk_43_method_22_code 23 = .ok (.iload_n 3, 1) := by decide +kernel
theorem d10_24 : decode jdk_43_method_22_code 24 = .ok (.if_icmp .lt 5, 3) := by decide +kernel
theorem d10_27 : decode jdk_43_method_22_code 27 = .ok (.iconst (-1), 1) := by decide +kernel
theorem d10_28 : decode jdk_43_method_22_code 28 = .ok (.ireturn, 1) := by decide +kernel
theorem d10_29 : decode jdk_43_method_22_code 29 = .ok (.aload_n 0, 1) := by decide +kernel
theorem d10_30 : decode jdk_43_method_22_code 30 = .ok (.iload_n 1, 1) := by decide +kernel
theorem d10_31 : decode jdk_43_method_22_code 31 = .ok (.iload_n 2, 1) := by decide +kernel
theorem d10_32 : decode jdk_43_method_22_code 32 = .ok (.iload_n 3, 1) := by decide +kernel
theorem d10_33 : decode jdk_43_method_22_code 33 = .ok (.invokestatic 95, 3) := by decide +kernel
theorem d10_36 : decode jdk_43_method_22_code 36 = .ok (.ireturn, 1) := by decide +kernel
theorem pn_10 : plainFor (⟨"java/lang/StringLatin1", "indexOf", "([BIII)I"⟩ : MethodName) = true := by first | exact plainFor_of_name (by first | (simp [plainName, overriddenIn]; done) | decide +kernel) | decide +kernel | exact Jvm.Free.JP.mathPlain rfl (by decide +kernel)
theorem pd_10_0 : parseMethodDescriptor "(I)Z" = some ⟨[.int], some .boolean⟩ := by decide +kernel
theorem pd_10_1 : parseMethodDescriptor "(II)I" = some ⟨[.int, .int], some .int⟩ := by decide +kernel
theorem pd_10_2 : parseMethodDescriptor "([BIII)I" = some ⟨[(.array .byte), .int, .int, .int], some .int⟩ := by decide +kernel
theorem ef_10 (m : MethodId) (tt : Addr) (ch : Int32) (cs : List Int32) : entryFrame m #[(.ref tt), (.int ch), (.int (0 : Int32)), (.int (Int32.ofNat cs.length))] 4 = mkF m 0 #[.val (.ref tt), .val (.int ch), .val (.int (0 : Int32)), .val (.int (Int32.ofNat cs.length))] [] := by first | (simp [entryFrame, mkF, argsToLocals, Value.category]; done) | rfl
def Q10 (Z : State) (tt : Addr) (ch : Int32) (kb : ClassId) (cs : List Int32) (h0 : Heap) (n0 : Nat) (v : Option Value) (h : Heap) (L : List Loc) : Prop := ∃ r : Int32, v = some (.int r) ∧ (r < 0 ↔ ¬ ch ∈ cs) ∧ Fr n0 L ∧ h = h0
set_option maxRecDepth 65536 in
set_option maxHeartbeats 40000000 in
theorem rm10 (l : Launch) (Z : State) (a0 : Array Value) (hw : ∀ d ∈ tables_1, d.before a0 Z = true) (ws : List Jvm.Cond) (tt : Addr) (ch : Int32) (kb : ClassId) (cs : List Int32) (h0 : Heap) (n0 : Nat) (Z0 : n0 ≤ h0.size) (K : Arv Z h0 tt kb .byte (Int32.ofNat cs.length) ((cs.map (fun c => c.toInt8.toInt32)).map Value.int) (.int 0)) (hp : ∀ c ∈ cs, ¬ c < 0 ∧ ¬ (255 : Int32) < c) (hle : cs.length ≤ 4000) (hch : ¬ ch < 0 ∧ ¬ (255 : Int32) < ch) :
    MetFree l (⟨"java/lang/StringLatin1", "indexOf", "([BIII)I"⟩ : MethodName) (head1 (Jvm.Cond.code (⟨"java/lang/StringLatin1", "indexOf", "([BIII)I"⟩ : MethodName) jdk_43_method_22_code 4 (some .int) :: ws) ({ frames := 1, cells := 0, slots := 0, locals := 17 } : Room)) (fun a U => a = #[(.ref tt), (.int ch), (.int (0 : Int32)), (.int (Int32.ofNat cs.length))] ∧ Z.Warmed39 U.vm ∧ U.heap = h0) (fun _ _ _ _ _ => True) (fun _ U o U' => ∃ v L, o = .returned v ∧ Q10 Z tt ch kb cs h0 n0 v U'.heap L ∧ FrameEnd U o U' L ({ frames := 1, cells := 0, slots := 0, locals := 17 } : Room).cells ({ frames := 1, cells := 0, slots := 0, locals := 17 } : Room).slots) := by
  refine MetFree.of_bodySF pn_10 hisR ?_
  intro p e s m args below meth c s₁ Bd hml0 hP hK
  obtain ⟨rfl, hZ, hh⟩ := hP
  have hx := Bd.exec
  have hby := Bd.bytes
  have hml : c.maxLocals = 4 := hml0
  have hown : s.vm.findClass "java/lang/StringLatin1" = some m.cls := findClass_of_methodNamed Bd.named
  have hnm := (name_of_methodNamed Bd.named Bd.method).1
  have X0 : Stand p l e ({ frames := 1, cells := 0, slots := 0, locals := 17 } : Room) s m #[(.ref tt), (.int ch), (.int (0 : Int32)), (.int (Int32.ofNat cs.length))] below meth c s₁ [] 0 0 := Stand.of_body Bd
  have e0 : s₁.heap = h0 := by rw [← hh, Bd.state]; rfl
  have N0 := Fr.nil n0
  refine own_at (castTop (ef_10 m tt ch cs)) ?_
  have K0 := K
  obtain ⟨cl, Ar, q1, Sz, Nz, Hz, Gz⟩ := K
  have sg1 : ∀ t, own_S p e below s₁ (mkF m 1 #[.val (.ref tt), .val (.int ch), .val (.int (0 : Int32)), .val (.int (Int32.ofNat cs.length))] [(.int ch)]) t → own_S p e below s₁ (mkF m 0 #[.val (.ref tt), .val (.int ch), .val (.int (0 : Int32)), .val (.int (Int32.ofNat cs.length))] []) t := by
    intro t k
    show own_S p e below s₁ (mkF m 0 #[.val (.ref tt), .val (.int ch), .val (.int (0 : Int32)), .val (.int (Int32.ofNat cs.length))] []) _
    refine XS.iloadN X0.here hx rfl (hb hby d10_0) rfl ?_
    exact k
  refine own_by sg1 ?_
  obtain ⟨_, _, ⟨T1, L1, k1, n1⟩, -, X1, ⟨Lc1, hQ1, l1, y1, z1⟩, st1⟩ := Jvm.LawKit.callS X0 hx (y := (⟨"java/lang/StringLatin1", "canEncode", "(I)Z"⟩ : MethodName)) hown (mvT hZ (hw _ (List.mem_of_getElem? (i := 57) rfl))) (mvT hZ (hw _ (List.mem_of_getElem? (i := 58) rfl))) (mvT hZ (hw _ (List.mem_of_getElem? (i := 55) rfl))) (mvT hZ (hw _ (List.mem_of_getElem? (i := 59) rfl))) (by decide) (backOf (W := 0) (rm11 l Z a0 hw [] ch h0 n0 Z0 hch) hZ (hw _ (List.mem_of_getElem? (i := 59) rfl)) (hw _ (List.mem_of_getElem? (i := 55) rfl)) (by decide) (by decide)) (g := (mkF m 1 #[.val (.ref tt), .val (.int ch), .val (.int (0 : Int32)), .val (.int (Int32.ofNat cs.length))] [(.int ch)])) rfl (by rw [hml]; rfl) (argsL := [(.int ch)]) (rest := []) (lenOf pd_10_0 rfl) rfl (by show 2 * 0 + _ ≤ _; exact Nat.le_of_eq rfl) (hb hby d10_1) (fun _ _ => ⟨rfl, e0, (by decide : 0 + 0 ≤ _), (by decide : 0 + 0 ≤ _)⟩)
  dsimp only [Pt.U, Pt.locs, Pt.cells, Pt.slots] at X1 l1 y1 z1 st1 hQ1
  subst l1 y1 z1
  obtain ⟨rfl, N1q, hq1⟩ := hQ1
  have N1 := Fr.app N0 N1q
  refine own_by st1 ?_
  have sg11 : ∀ t, own_S p e below T1 (mkF m 11 #[.val (.ref tt), .val (.int ch), .val (.int (0 : Int32)), .val (.int (Int32.ofNat cs.length))] [(.int (0 : Int32)), (.int (0 : Int32))]) t → own_S p e below T1 (mkF m 4 #[.val (.ref tt), .val (.int ch), .val (.int (0 : Int32)), .val (.int (Int32.ofNat cs.length))] [(.int (1 : Int32))]) t := by
    intro t k
    show own_S p e below T1 (mkF m 4 #[.val (.ref tt), .val (.int ch), .val (.int (0 : Int32)), .val (.int (Int32.ofNat cs.length))] [(.int (1 : Int32))]) _
    refine XS.ifYes X1.here hx rfl (pc0 := 4) (pc' := 9) rfl (hb hby d10_4) rfl ((if0 _ _).trans (feq (by decide : ¬ ((1 : Int32) = (0 : Int32)))).2) (by decide) (by decide) ?_
    show own_S p e below T1 (mkF m 9 #[.val (.ref tt), .val (.int ch), .val (.int (0 : Int32)), .val (.int (Int32.ofNat cs.length))] []) _
    refine XS.iloadN X1.here hx rfl (hb hby d10_9) rfl ?_
    show own_S p e below T1 (mkF m 10 #[.val (.ref tt), .val (.int ch), .val (.int (0 : Int32)), .val (.int (Int32.ofNat cs.length))] [(.int (0 : Int32))]) _
    refine XS.iconst X1.here hx rfl (hb hby d10_10) ?_
    exact k
  refine own_by sg11 ?_
  obtain ⟨_, _, ⟨T11, L11, k11, n11⟩, -, X11, ⟨Lc11, hQ11, l11, y11, z11⟩, st11⟩ := Jvm.LawKit.callS X1 hx (y := (⟨"java/lang/Math", "max", "(II)I"⟩ : MethodName)) hown (mvT hZ (hw _ (List.mem_of_getElem? (i := 60) rfl))) (mvT hZ (hw _ (List.mem_of_getElem? (i := 61) rfl))) (mvT hZ (hw _ (List.mem_of_getElem? (i := 62) rfl))) (mvT hZ (hw _ (List.mem_of_getElem? (i := 63) rfl))) (by decide) (backOf (W := 0) (rm12 l Z a0 hw [] (0 : Int32) h0 n0 Z0) hZ (hw _ (List.mem_of_getElem? (i := 63) rfl)) (hw _ (List.mem_of_getElem? (i := 62) rfl)) (by decide) (by decide)) (g := (mkF m 11 #[.val (.ref tt), .val (.int ch), .val (.int (0 : Int32)), .val (.int (Int32.ofNat cs.length))] [(.int (0 : Int32)), (.int (0 : Int32))])) rfl (by rw [hml]; rfl) (argsL := [(.int (0 : Int32)), (.int (0 : Int32))]) (rest := []) (lenOf pd_10_1 rfl) rfl (by show 2 * 0 + _ ≤ _; exact Nat.le_of_eq rfl) (hb hby d10_11) (fun _ _ => ⟨rfl, hq1, (by decide : 0 + 0 ≤ _), (by decide : 0 + 0 ≤ _)⟩)
  dsimp only [Pt.U, Pt.locs, Pt.cells, Pt.slots] at X11 l11 y11 z11 st11 hQ11
  subst l11 y11 z11
  obtain ⟨rfl, N11q, hq11⟩ := hQ11
  have N11 := Fr.app N1 N11q
  refine own_by st11 ?_
  have sg18 : ∀ t, own_S p e below T11 (mkF m 18 #[.val (.ref tt), .val (.int ch), .val (.int (0 : Int32)), .val (.int (Int32.ofNat cs.length))] [(.int (Int32.ofNat cs.length)), (.int (Int32.ofNat cs.length))]) t → own_S p e below T11 (mkF m 14 #[.val (.ref tt), .val (.int ch), .val (.int (0 : Int32)), .val (.int (Int32.ofNat cs.length))] [(.int (0 : Int32))]) t := by
    intro t k
    show own_S p e below T11 (mkF m 14 #[.val (.ref tt), .val (.int ch), .val (.int (0 : Int32)), .val (.int (Int32.ofNat cs.length))] [(.int (0 : Int32))]) _
    refine XS.istoreN X11.here hx rfl (hb hby d10_14) rfl (l' := #[.val (.ref tt), .val (.int ch), .val (.int (0 : Int32)), .val (.int (Int32.ofNat cs.length))]) rfl ?_
    show own_S p e below T11 (mkF m 15 #[.val (.ref tt), .val (.int ch), .val (.int (0 : Int32)), .val (.int (Int32.ofNat cs.length))] []) _
    refine XS.iloadN X11.here hx rfl (hb hby d10_15) rfl ?_
    show own_S p e below T11 (mkF m 16 #[.val (.ref tt), .val (.int ch), .val (.int (0 : Int32)), .val (.int (Int32.ofNat cs.length))] [(.int (Int32.ofNat cs.length))]) _
    refine XS.aloadN X11.here hx rfl (hb hby d10_16) rfl rfl ?_
    show own_S p e below T11 (mkF m 17 #[.val (.ref tt), .val (.int ch), .val (.int (0 : Int32)), .val (.int (Int32.ofNat cs.length))] [(.ref tt), (.int (Int32.ofNat cs.length))]) _
    refine X11.arraylength hx (by rw [hq11]; exact Ar.1) (State.isArrayOf_alike hZ.alike Ar.2.1) (g := (mkF m 17 #[.val (.ref tt), .val (.int ch), .val (.int (0 : Int32)), .val (.int (Int32.ofNat cs.length))] [(.ref tt), (.int (Int32.ofNat cs.length))])) rfl rfl (hb hby d10_17) _ ?_
    rw [len_of Sz Nz]
    exact k
  refine own_by sg18 ?_
  obtain ⟨_, _, ⟨T18, L18, k18, n18⟩, -, X18, ⟨Lc18, hQ18, l18, y18, z18⟩, st18⟩ := Jvm.LawKit.callS X11 hx (y := (⟨"java/lang/Math", "min", "(II)I"⟩ : MethodName)) hown (mvT hZ (hw _ (List.mem_of_getElem? (i := 64) rfl))) (mvT hZ (hw _ (List.mem_of_getElem? (i := 65) rfl))) (mvT hZ (hw _ (List.mem_of_getElem? (i := 62) rfl))) (mvT hZ (hw _ (List.mem_of_getElem? (i := 66) rfl))) (by decide) (backOf (W := 0) (rm13 l Z a0 hw [] (Int32.ofNat cs.length) h0 n0 Z0) hZ (hw _ (List.mem_of_getElem? (i := 66) rfl)) (hw _ (List.mem_of_getElem? (i := 62) rfl)) (by decide) (by decide)) (g := (mkF m 18 #[.val (.ref tt), .val (.int ch), .val (.int (0 : Int32)), .val (.int (Int32.ofNat cs.length))] [(.int (Int32.ofNat cs.length)), (.int (Int32.ofNat cs.length))])) rfl (by rw [hml]; rfl) (argsL := [(.int (Int32.ofNat cs.length)), (.int (Int32.ofNat cs.length))]) (rest := []) (lenOf pd_10_1 rfl) rfl (by show 2 * 0 + _ ≤ _; exact Nat.le_of_eq rfl) (hb hby d10_18) (fun _ _ => ⟨rfl, hq11, (by decide : 0 + 0 ≤ _), (by decide : 0 + 0 ≤ _)⟩)
  dsimp only [Pt.U, Pt.locs, Pt.cells, Pt.slots] at X18 l18 y18 z18 st18 hQ18
  subst l18 y18 z18
  obtain ⟨rfl, N18q, hq18⟩ := hQ18
  have N18 := Fr.app N11 N18q
  refine own_by st18 ?_
  have sg24 : ∀ t, own_S p e below T18 (mkF m 24 #[.val (.ref tt), .val (.int ch), .val (.int (0 : Int32)), .val (.int (Int32.ofNat cs.length))] [(.int (Int32.ofNat cs.length)), (.int (0 : Int32))]) t → own_S p e below T18 (mkF m 21 #[.val (.ref tt), .val (.int ch), .val (.int (0 : Int32)), .val (.int (Int32.ofNat cs.length))] [(.int (Int32.ofNat cs.length))]) t := by
    intro t k
    show own_S p e below T18 (mkF m 21 #[.val (.ref tt), .val (.int ch), .val (.int (0 : Int32)), .val (.int (Int32.ofNat cs.length))] [(.int (Int32.ofNat cs.length))]) _
    refine XS.istoreN X18.here hx rfl (hb hby d10_21) rfl (l' := #[.val (.ref tt), .val (.int ch), .val (.int (0 : Int32)), .val (.int (Int32.ofNat cs.length))]) rfl ?_
    show own_S p e below T18 (mkF m 22 #[.val (.ref tt), .val (.int ch), .val (.int (0 : Int32)), .val (.int (Int32.ofNat cs.length))] []) _
    refine XS.iloadN X18.here hx rfl (hb hby d10_22) rfl ?_
    show own_S p e below T18 (mkF m 23 #[.val (.ref tt), .val (.int ch), .val (.int (0 : Int32)), .val (.int (Int32.ofNat cs.length))] [(.int (0 : Int32))]) _
    refine XS.iloadN X18.here hx rfl (hb hby d10_23) rfl ?_
    exact k
  refine own_by sg24 ?_
  by_cases hc24 : (0 : Int32) < (Int32.ofNat cs.length)
  · have sg33 : ∀ t, own_S p e below T18 (mkF m 33 #[.val (.ref tt), .val (.int ch), .val (.int (0 : Int32)), .val (.int (Int32.ofNat cs.length))] [(.int (Int32.ofNat cs.length)), (.int (0 : Int32)), (.int ch), (.ref tt)]) t → own_S p e below T18 (mkF m 24 #[.val (.ref tt), .val (.int ch), .val (.int (0 : Int32)), .val (.int (Int32.ofNat cs.length))] [(.int (Int32.ofNat cs.length)), (.int (0 : Int32))]) t := by
      intro t k
      show own_S p e below T18 (mkF m 24 #[.val (.ref tt), .val (.int ch), .val (.int (0 : Int32)), .val (.int (Int32.ofNat cs.length))] [(.int (Int32.ofNat cs.length)), (.int (0 : Int32))]) _
      refine XS.icmpYes X18.here hx rfl (pc0 := 24) (pc' := 29) rfl (hb hby d10_24) rfl (tlt hc24).1 (by decide) (by decide) ?_
      show own_S p e below T18 (mkF m 29 #[.val (.ref tt), .val (.int ch), .val (.int (0 : Int32)), .val (.int (Int32.ofNat cs.length))] []) _
      refine XS.aloadN X18.here hx rfl (hb hby d10_29) rfl rfl ?_
      show own_S p e below T18 (mkF m 30 #[.val (.ref tt), .val (.int ch), .val (.int (0 : Int32)), .val (.int (Int32.ofNat cs.length))] [(.ref tt)]) _
      refine XS.iloadN X18.here hx rfl (hb hby d10_30) rfl ?_
      show own_S p e below T18 (mkF m 31 #[.val (.ref tt), .val (.int ch), .val (.int (0 : Int32)), .val (.int (Int32.ofNat cs.length))] [(.int ch), (.ref tt)]) _
      refine XS.iloadN X18.here hx rfl (hb hby d10_31) rfl ?_
      show own_S p e below T18 (mkF m 32 #[.val (.ref tt), .val (.int ch), .val (.int (0 : Int32)), .val (.int (Int32.ofNat cs.length))] [(.int (0 : Int32)), (.int ch), (.ref tt)]) _
      refine XS.iloadN X18.here hx rfl (hb hby d10_32) rfl ?_
      exact k
    refine own_by sg33 ?_
    obtain ⟨_, _, ⟨T33, L33, k33, n33⟩, -, X33, ⟨Lc33, hQ33, l33, y33, z33⟩, st33⟩ := Jvm.LawKit.callS X18 hx (y := (⟨"java/lang/StringLatin1", "indexOfChar", "([BIII)I"⟩ : MethodName)) hown (mvT hZ (hw _ (List.mem_of_getElem? (i := 81) rfl))) (mvT hZ (hw _ (List.mem_of_getElem? (i := 82) rfl))) (mvT hZ (hw _ (List.mem_of_getElem? (i := 55) rfl))) (mvT hZ (hw _ (List.mem_of_getElem? (i := 83) rfl))) (by decide) (backOf (W := 0) (rm18 l Z a0 hw [] tt ch kb cs h0 n0 Z0 K0 hp hle hch) hZ (hw _ (List.mem_of_getElem? (i := 83) rfl)) (hw _ (List.mem_of_getElem? (i := 55) rfl)) (by decide) (by decide)) (g := (mkF m 33 #[.val (.ref tt), .val (.int ch), .val (.int (0 : Int32)), .val (.int (Int32.ofNat cs.length))] [(.int (Int32.ofNat cs.length)), (.int (0 : Int32)), (.int ch), (.ref tt)])) rfl (by rw [hml]; rfl) (argsL := [(.ref tt), (.int ch), (.int (0 : Int32)), (.int (Int32.ofNat cs.length))]) (rest := []) (lenOf pd_10_2 rfl) rfl (by show 2 * 0 + _ ≤ _; exact Nat.le_of_eq rfl) (hb hby d10_33) (fun _ _ => ⟨rfl, hq18, (by decide : 0 + 0 ≤ _), (by decide : 0 + 0 ≤ _)⟩)
    dsimp only [Pt.U, Pt.locs, Pt.cells, Pt.slots] at X33 l33 y33 z33 st33 hQ33
    subst l33 y33 z33
    obtain ⟨r33, rfl, hr33, N33q, hq33⟩ := hQ33
    have N33 := Fr.app N18 N33q
    refine own_by st33 ?_
    obtain ⟨fs, hr, hrun, hended, hW, hsame⟩ := X33.leave (v := some (.int r33)) (fun h => by rw [Bd.returns] at h; cases h)
    refine ⟨_, _, ?_, hrun, hended, _, _, rfl, ?_, ⟨_, rfl⟩, hW, hsame.mono (by decide) (by decide)⟩
    · exact retI X33 hx Bd.returns (hb hby d10_36) hr
    · show Q10 Z tt ch kb cs h0 n0 _ T33.heap _
      rw [hq33]
      exact ⟨_, rfl, hr33, N33, rfl⟩
  · have sg28 : ∀ t, own_S p e below T18 (mkF m 28 #[.val (.ref tt), .val (.int ch), .val (.int (0 : Int32)), .val (.int (Int32.ofNat cs.length))] [(.int (-1 : Int32))]) t → own_S p e below T18 (mkF m 24 #[.val (.ref tt), .val (.int ch), .val (.int (0 : Int32)), .val (.int (Int32.ofNat cs.length))] [(.int (Int32.ofNat cs.length)), (.int (0 : Int32))]) t := by
      intro t k
      show own_S p e below T18 (mkF m 24 #[.val (.ref tt), .val (.int ch), .val (.int (0 : Int32)), .val (.int (Int32.ofNat cs.length))] [(.int (Int32.ofNat cs.length)), (.int (0 : Int32))]) _
      refine XS.icmpNo X18.here hx rfl (hb hby d10_24) rfl (flt hc24).1 ?_
      show own_S p e below T18 (mkF m 27 #[.val (.ref tt), .val (.int ch), .val (.int (0 : Int32)), .val (.int (Int32.ofNat cs.length))] []) _
      refine XS.iconst X18.here hx rfl (hb hby d10_27) ?_
      exact k
    refine own_by sg28 ?_
    obtain ⟨fs, hr, hrun, hended, hW, hsame⟩ := X18.leave (v := some (.int (-1 : Int32))) (fun h => by rw [Bd.returns] at h; cases h)
    refine ⟨_, _, ?_, hrun, hended, _, _, rfl, ?_, ⟨_, rfl⟩, hW, hsame.mono (by decide) (by decide)⟩
    · exact retI X18 hx Bd.returns (hb hby d10_28) hr
    · show Q10 Z tt ch kb cs h0 n0 _ T18.heap _
      rw [hq18]
      exact ⟨_, rfl, own_nil cs ch hle hc24, N18, rfl⟩
theorem d6_0 : decode jdk_42_method_80_code 0 = .ok (.aload_n 0, 1) := by decide +kernel
theorem d6_1 : decode jdk_42_method_80_code 1 = .ok (.invokevirtual 492, 3) := by decide +kernel
theorem d6_4 : decode jdk_42_method_80_code 4 = .ok (.ifCond .eq 19, 3) := by decide +kernel
theorem d6_7 : decode jdk_42_method_80_code 7 = .ok (.aload_n 0, 1) := by decide +kernel
theorem d6_8 : decode jdk_42_method_80_code 8 = .ok (.getfield 9, 3) := by decide +kernel
theorem d6_11 : decode jdk_42_method_80_code 11 = .ok (.iload_n 1, 1) := by decide +kernel
theorem d6_12 : decode jdk_42_method_80_code 12 = .ok (.iload_n 2, 1) := by decide +kernel
theorem d6_13 : decode jdk_42_method_80_code 13 = .ok (.aload_n 0, 1) := by decide +kernel
theorem d6_14 : decode jdk_42_method_80_code 14 = .ok (.invokevirtual 505, 3) := by decide +kernel
theorem d6_17 : decode jdk_42_method_80_code 17 = .ok (.invokestatic 637, 3) := by decide +kernel
theorem d6_20 : decode jdk_42_method_80_code 20 = .ok (.goto 16, 3) := by decide +kernel
theorem d6_36 : decode jdk_42_method_80_code 36 = .ok (.ireturn, 1) := by decide +kernel
theorem pn_6 : plainFor (⟨"java/lang/String", "indexOf", "(II)I"⟩ : MethodName) = true := by first | exact plainFor_of_name (by first | (simp [plainName, overriddenIn]; done) | decide +kernel) | decide +kernel | exact Jvm.Free.JP.mathPlain rfl (by decide +kernel)
theorem pd_6_0 : parseMethodDescriptor "()Z" = some ⟨[], some .boolean⟩ := by decide +kernel
theorem pd_6_1 : parseMethodDescriptor "()I" = some ⟨[], some .int⟩ := by decide +kernel
theorem pd_6_2 : parseMethodDescriptor "([BIII)I" = some ⟨[(.array .byte), .int, .int, .int], some .int⟩ := by decide +kernel
theorem ef_6 (m : MethodId) (a1 : Addr) (ch : Int32) : entryFrame m #[(.ref a1), (.int ch), (.int (0 : Int32))] 3 = mkF m 0 #[.val (.ref a1), .val (.int ch), .val (.int (0 : Int32))] [] := by first | (simp [entryFrame, mkF, argsToLocals, Value.category]; done) | rfl
def Q6 (Z : State) (a1 : Addr) (ch : Int32) (tt : Addr) (kb : ClassId) (cs : List Int32) (gz : Int32) (h0 : Heap) (n0 : Nat) (v : Option Value) (h : Heap) (L : List Loc) : Prop := ∃ r : Int32, v = some (.int r) ∧ (r < 0 ↔ ¬ ch ∈ cs) ∧ Fr n0 L ∧ h = h0
set_option maxRecDepth 65536 in
set_option maxHeartbeats 40000000 in
theorem rm6 (l : Launch) (Z : State) (a0 : Array Value) (hw : ∀ d ∈ tables_1, d.before a0 Z = true) (ws : List Jvm.Cond) (a1 : Addr) (ch : Int32) (tt : Addr) (kb : ClassId) (cs : List Int32) (gz : Int32) (h0 : Heap) (n0 : Nat) (Z0 : n0 ≤ h0.size) (E : Exa Z h0 a1 "java/lang/String") (V : Fld Z h0 a1 "java/lang/String" "value" "[B" (.ref tt)) (Cc : Fld Z h0 a1 "java/lang/String" "coder" "B" (.int (0 : Int32))) (K : Arv Z h0 tt kb .byte (Int32.ofNat cs.length) ((cs.map (fun c => c.toInt8.toInt32)).map Value.int) (.int 0)) (hp : ∀ c ∈ cs, ¬ c < 0 ∧ ¬ (255 : Int32) < c) (hle : cs.length ≤ 4000) (O2 : Sta Z h0 "java/lang/String" "COMPACT_STRINGS" "Z" (.int gz)) (P5 : ¬ (gz = (0 : Int32))) (hch : ¬ ch < 0 ∧ ¬ (255 : Int32) < ch) :
    MetFree l (⟨"java/lang/String", "indexOf", "(II)I"⟩ : MethodName) (head1 (Jvm.Cond.code (⟨"java/lang/String", "indexOf", "(II)I"⟩ : MethodName) jdk_42_method_80_code 3 (some .int) :: ws) ({ frames := 2, cells := 0, slots := 0, locals := 32 } : Room)) (fun a U => a = #[(.ref a1), (.int ch), (.int (0 : Int32))] ∧ Z.Warmed39 U.vm ∧ U.heap = h0) (fun _ _ _ _ _ => True) (fun _ U o U' => ∃ v L, o = .returned v ∧ Q6 Z a1 ch tt kb cs gz h0 n0 v U'.heap L ∧ FrameEnd U o U' L ({ frames := 2, cells := 0, slots := 0, locals := 32 } : Room).cells ({ frames := 2, cells := 0, slots := 0, locals := 32 } : Room).slots) := by
  refine MetFree.of_bodySF pn_6 hisR ?_
  intro p e s m args below meth c s₁ Bd hml0 hP hK
  obtain ⟨rfl, hZ, hh⟩ := hP
  have hx := Bd.exec
  have hby := Bd.bytes
  have hml : c.maxLocals = 3 := hml0
  have hown : s.vm.findClass "java/lang/String" = some m.cls := findClass_of_methodNamed Bd.named
  have hnm := (name_of_methodNamed Bd.named Bd.method).1
  have X0 : Stand p l e ({ frames := 2, cells := 0, slots := 0, locals := 32 } : Room) s m #[(.ref a1), (.int ch), (.int (0 : Int32))] below meth c s₁ [] 0 0 := Stand.of_body Bd
  have e0 : s₁.heap = h0 := by rw [← hh, Bd.state]; rfl
  have N0 := Fr.nil n0
  refine own_at (castTop (ef_6 m a1 ch)) ?_
  have hln : ∀ d ∈ StrChars.Road.wordsLen, d.before a0 Z = true := fun d hd => hw d ((by decide +kernel : ∀ d ∈ StrChars.Road.wordsLen, d ∈ tables_1) d hd)
  have sg1 : ∀ t, own_S p e below s₁ (mkF m 1 #[.val (.ref a1), .val (.int ch), .val (.int (0 : Int32))] [(.ref a1)]) t → own_S p e below s₁ (mkF m 0 #[.val (.ref a1), .val (.int ch), .val (.int (0 : Int32))] []) t := by
    intro t k
    show own_S p e below s₁ (mkF m 0 #[.val (.ref a1), .val (.int ch), .val (.int (0 : Int32))] []) _
    refine XS.aloadN X0.here hx rfl (hb hby d6_0) rfl rfl ?_
    exact k
  refine own_by sg1 ?_
  obtain ⟨cq1, kq1, q1a, q1b, q1c⟩ := isOf hZ e0 E
  obtain ⟨_, _, ⟨T1, L1, k1, n1⟩, -, X1, ⟨Lc1, hQ1, l1, y1, z1⟩, st1⟩ := X0.virtualBack hx (y := (⟨"java/lang/String", "isLatin1", "()Z"⟩ : MethodName)) (z := (⟨"java/lang/String", "isLatin1", "()Z"⟩ : MethodName)) hown (mvT hZ (hw _ (List.mem_of_getElem? (i := 37) rfl))) (mvT hZ (hw _ (List.mem_of_getElem? (i := 38) rfl))) (notFace_of_selects (args := #[]) (mvT hZ (hw _ (List.mem_of_getElem? (i := 40) rfl)))) (mvT hZ (hw _ (List.mem_of_getElem? (i := 40) rfl))) (mvT hZ (hw _ (List.mem_of_getElem? (i := 39) rfl))) (by decide) (backOf (W := 0) (rm7 l Z a0 hw [] a1 tt gz h0 n0 Z0 E V Cc O2 P5) hZ (hw _ (List.mem_of_getElem? (i := 41) rfl)) (hw _ (List.mem_of_getElem? (i := 3) rfl)) (by decide) (by decide)) q1a q1c (g := (mkF m 1 #[.val (.ref a1), .val (.int ch), .val (.int (0 : Int32))] [(.ref a1)])) rfl (by rw [hml]; rfl) (Steps.refl _) (argsL := []) (rest := []) (lenOf pd_6_0 rfl) rfl (by show 2 * 0 + _ ≤ _; exact Nat.le_of_eq rfl) (hb hby d6_1) (fun _ _ => ⟨rfl, e0, (by decide : 0 + 0 ≤ _), (by decide : 0 + 0 ≤ _)⟩)
  dsimp only [Pt.U, Pt.locs, Pt.cells, Pt.slots] at X1 l1 y1 z1 st1 hQ1
  subst l1 y1 z1
  obtain ⟨rfl, N1q, hq1⟩ := hQ1
  have N1 := Fr.app N0 N1q
  refine own_by (fun t k => st1.trans k) ?_
  have sg8 : ∀ t, own_S p e below T1 (mkF m 8 #[.val (.ref a1), .val (.int ch), .val (.int (0 : Int32))] [(.ref a1)]) t → own_S p e below T1 (mkF m 4 #[.val (.ref a1), .val (.int ch), .val (.int (0 : Int32))] [(.int (1 : Int32))]) t := by
    intro t k
    show own_S p e below T1 (mkF m 4 #[.val (.ref a1), .val (.int ch), .val (.int (0 : Int32))] [(.int (1 : Int32))]) _
    refine XS.ifNo X1.here hx rfl (hb hby d6_4) rfl ((if0 _ _).trans (feq (by decide : ¬ ((1 : Int32) = (0 : Int32)))).1) ?_
    show own_S p e below T1 (mkF m 7 #[.val (.ref a1), .val (.int ch), .val (.int (0 : Int32))] []) _
    refine XS.aloadN X1.here hx rfl (hb hby d6_7) rfl rfl ?_
    exact k
  refine own_by sg8 ?_
  obtain ⟨T8, X8, e8, st8⟩ := getF X1 hx hZ hown (host := "") (Or.inl (hw _ (List.mem_of_getElem? (i := 21) rfl))) Via.refl hq1 V (g := (mkF m 8 #[.val (.ref a1), .val (.int ch), .val (.int (0 : Int32))] [(.ref a1)])) rfl rfl (hb hby d6_8)
  refine own_by st8 ?_
  have sg14 : ∀ t, own_S p e below T8 (mkF m 14 #[.val (.ref a1), .val (.int ch), .val (.int (0 : Int32))] [(.ref a1), (.int (0 : Int32)), (.int ch), (.ref tt)]) t → own_S p e below T8 (mkF m 11 #[.val (.ref a1), .val (.int ch), .val (.int (0 : Int32))] [(.ref tt)]) t := by
    intro t k
    show own_S p e below T8 (mkF m 11 #[.val (.ref a1), .val (.int ch), .val (.int (0 : Int32))] [(.ref tt)]) _
    refine XS.iloadN X8.here hx rfl (hb hby d6_11) rfl ?_
    show own_S p e below T8 (mkF m 12 #[.val (.ref a1), .val (.int ch), .val (.int (0 : Int32))] [(.int ch), (.ref tt)]) _
    refine XS.iloadN X8.here hx rfl (hb hby d6_12) rfl ?_
    show own_S p e below T8 (mkF m 13 #[.val (.ref a1), .val (.int ch), .val (.int (0 : Int32))] [(.int (0 : Int32)), (.int ch), (.ref tt)]) _
    refine XS.aloadN X8.here hx rfl (hb hby d6_13) rfl rfl ?_
    exact k
  refine own_by sg14 ?_
  obtain ⟨cq14, kq14, q14a, q14b, q14c⟩ := isOf hZ e8 E
  obtain ⟨_, _, ⟨T14, L14, k14, n14⟩, -, X14, ⟨Lc14, hQ14, l14, y14, z14⟩, st14⟩ := X8.virtualBack hx (y := (⟨"java/lang/String", "length", "()I"⟩ : MethodName)) (z := (⟨"java/lang/String", "length", "()I"⟩ : MethodName)) hown (mvT hZ (hw _ (List.mem_of_getElem? (i := 43) rfl))) (mvT hZ (hw _ (List.mem_of_getElem? (i := 44) rfl))) (notFace_of_selects (args := #[]) (mvT hZ (hw _ (List.mem_of_getElem? (i := 46) rfl)))) (mvT hZ (hw _ (List.mem_of_getElem? (i := 46) rfl))) (mvT hZ (hw _ (List.mem_of_getElem? (i := 45) rfl))) (by decide) (StrChars.Road.lenW (W := 3) hZ hln (kI := 4) (hw _ (List.mem_of_getElem? (i := 2) rfl)) E V Cc K (StrChars.Road.codOf (n := cs.length) rfl (fun x hx => (hp x hx).2)) (own_up _ hp) O2 P5 hle (by decide) (by decide)) q14a q14c (g := (mkF m 14 #[.val (.ref a1), .val (.int ch), .val (.int (0 : Int32))] [(.ref a1), (.int (0 : Int32)), (.int ch), (.ref tt)])) rfl (by rw [hml]; rfl) (Steps.refl _) (argsL := []) (rest := [(.int (0 : Int32)), (.int ch), (.ref tt)]) (lenOf pd_6_1 rfl) rfl (by show 2 * 0 + _ ≤ _; exact Nat.le_of_eq rfl) (hb hby d6_14) (fun _ _ => ⟨rfl, e8, (by decide : 0 + 0 ≤ _), (by decide : 0 + 0 ≤ _)⟩)
  dsimp only [Pt.U, Pt.locs, Pt.cells, Pt.slots] at X14 l14 y14 z14 st14 hQ14
  subst l14 y14 z14
  obtain ⟨rfl, rfl, hq14⟩ := hQ14
  have N14 := Fr.app N1 (Fr.nil n0)
  refine own_by (fun t k => st14.trans k) ?_
  obtain ⟨_, _, ⟨T17, L17, k17, n17⟩, -, X17, ⟨Lc17, hQ17, l17, y17, z17⟩, st17⟩ := Jvm.LawKit.callS X14 hx (y := (⟨"java/lang/StringLatin1", "indexOf", "([BIII)I"⟩ : MethodName)) hown (mvT hZ (hw _ (List.mem_of_getElem? (i := 53) rfl))) (mvT hZ (hw _ (List.mem_of_getElem? (i := 54) rfl))) (mvT hZ (hw _ (List.mem_of_getElem? (i := 55) rfl))) (mvT hZ (hw _ (List.mem_of_getElem? (i := 56) rfl))) (by decide) (backOf (W := 0) (rm10 l Z a0 hw [] tt ch kb cs h0 n0 Z0 K hp hle hch) hZ (hw _ (List.mem_of_getElem? (i := 56) rfl)) (hw _ (List.mem_of_getElem? (i := 55) rfl)) (by decide) (by decide)) (g := (mkF m 17 #[.val (.ref a1), .val (.int ch), .val (.int (0 : Int32))] [(.int (Int32.ofNat cs.length)), (.int (0 : Int32)), (.int ch), (.ref tt)])) rfl (by rw [hml]; rfl) (argsL := [(.ref tt), (.int ch), (.int (0 : Int32)), (.int (Int32.ofNat cs.length))]) (rest := []) (lenOf pd_6_2 rfl) rfl (by show 2 * 0 + _ ≤ _; exact Nat.le_of_eq rfl) (hb hby d6_17) (fun _ _ => ⟨rfl, hq14, (by decide : 0 + 0 ≤ _), (by decide : 0 + 0 ≤ _)⟩)
  dsimp only [Pt.U, Pt.locs, Pt.cells, Pt.slots] at X17 l17 y17 z17 st17 hQ17
  subst l17 y17 z17
  obtain ⟨r17, rfl, hr17, N17q, hq17⟩ := hQ17
  have N17 := Fr.app N14 N17q
  refine own_by st17 ?_
  have sg36 : ∀ t, own_S p e below T17 (mkF m 36 #[.val (.ref a1), .val (.int ch), .val (.int (0 : Int32))] [(.int r17)]) t → own_S p e below T17 (mkF m 20 #[.val (.ref a1), .val (.int ch), .val (.int (0 : Int32))] [(.int r17)]) t := by
    intro t k
    show own_S p e below T17 (mkF m 20 #[.val (.ref a1), .val (.int ch), .val (.int (0 : Int32))] [(.int r17)]) _
    refine XS.goto X17.here hx rfl (pc0 := 20) (pc' := 36) rfl (hb hby d6_20) (by decide) (by decide) ?_
    exact k
  refine own_by sg36 ?_
  obtain ⟨fs, hr, hrun, hended, hW, hsame⟩ := X17.leave (v := some (.int r17)) (fun h => by rw [Bd.returns] at h; cases h)
  refine ⟨_, _, ?_, hrun, hended, _, _, rfl, ?_, ⟨_, rfl⟩, hW, hsame.mono (by decide) (by decide)⟩
  · exact retI X17 hx Bd.returns (hb hby d6_36) hr
  · show Q6 Z a1 ch tt kb cs gz h0 n0 _ T17.heap _
    rw [hq17]
    exact ⟨_, rfl, hr17, N17, rfl⟩
theorem d5_0 : decode jdk_42_method_79_code 0 = .ok (.aload_n 0, 1) := by decide +kernel
theorem d5_1 : decode jdk_42_method_79_code 1 = .ok (.iload_n 1, 1) := by decide +kernel
theorem d5_2 : decode jdk_42_method_79_code 2 = .ok (.iconst 0, 1) := by decide +kernel
theorem d5_3 : decode jdk_42_method_79_code 3 = .ok (.invokevirtual 633, 3) := by decide +kernel
theorem d5_6 : decode jdk_42_method_79_code 6 = .ok (.ireturn, 1) := by decide +kernel
theorem pn_5 : plainFor (⟨"java/lang/String", "indexOf", "(I)I"⟩ : MethodName) = true := by first | exact plainFor_of_name (by first | (simp [plainName, overriddenIn]; done) | decide +kernel) | decide +kernel | exact Jvm.Free.JP.mathPlain rfl (by decide +kernel)
theorem pd_5_0 : parseMethodDescriptor "(II)I" = some ⟨[.int, .int], some .int⟩ := by decide +kernel
theorem ef_5 (m : MethodId) (a1 : Addr) (ch : Int32) : entryFrame m #[(.ref a1), (.int ch)] 2 = mkF m 0 #[.val (.ref a1), .val (.int ch)] [] := by first | (simp [entryFrame, mkF, argsToLocals, Value.category]; done) | rfl
def Q5 (Z : State) (a1 : Addr) (ch : Int32) (tt : Addr) (kb : ClassId) (cs : List Int32) (gz : Int32) (h0 : Heap) (n0 : Nat) (v : Option Value) (h : Heap) (L : List Loc) : Prop := ∃ r : Int32, v = some (.int r) ∧ (r < 0 ↔ ¬ ch ∈ cs) ∧ Fr n0 L ∧ h = h0
set_option maxRecDepth 65536 in
set_option maxHeartbeats 40000000 in
theorem rm5 (l : Launch) (Z : State) (a0 : Array Value) (hw : ∀ d ∈ tables_1, d.before a0 Z = true) (ws : List Jvm.Cond) (a1 : Addr) (ch : Int32) (tt : Addr) (kb : ClassId) (cs : List Int32) (gz : Int32) (h0 : Heap) (n0 : Nat) (Z0 : n0 ≤ h0.size) (E : Exa Z h0 a1 "java/lang/String") (V : Fld Z h0 a1 "java/lang/String" "value" "[B" (.ref tt)) (Cc : Fld Z h0 a1 "java/lang/String" "coder" "B" (.int (0 : Int32))) (K : Arv Z h0 tt kb .byte (Int32.ofNat cs.length) ((cs.map (fun c => c.toInt8.toInt32)).map Value.int) (.int 0)) (hp : ∀ c ∈ cs, ¬ c < 0 ∧ ¬ (255 : Int32) < c) (hle : cs.length ≤ 4000) (O2 : Sta Z h0 "java/lang/String" "COMPACT_STRINGS" "Z" (.int gz)) (P5 : ¬ (gz = (0 : Int32))) (hch : ¬ ch < 0 ∧ ¬ (255 : Int32) < ch) :
    MetFree l (⟨"java/lang/String", "indexOf", "(I)I"⟩ : MethodName) (head1 (Jvm.Cond.code (⟨"java/lang/String", "indexOf", "(I)I"⟩ : MethodName) jdk_42_method_79_code 2 (some .int) :: ws) ({ frames := 3, cells := 0, slots := 0, locals := 46 } : Room)) (fun a U => a = #[(.ref a1), (.int ch)] ∧ Z.Warmed39 U.vm ∧ U.heap = h0) (fun _ _ _ _ _ => True) (fun _ U o U' => ∃ v L, o = .returned v ∧ Q5 Z a1 ch tt kb cs gz h0 n0 v U'.heap L ∧ FrameEnd U o U' L ({ frames := 3, cells := 0, slots := 0, locals := 46 } : Room).cells ({ frames := 3, cells := 0, slots := 0, locals := 46 } : Room).slots) := by
  refine MetFree.of_bodySF pn_5 hisR ?_
  intro p e s m args below meth c s₁ Bd hml0 hP hK
  obtain ⟨rfl, hZ, hh⟩ := hP
  have hx := Bd.exec
  have hby := Bd.bytes
  have hml : c.maxLocals = 2 := hml0
  have hown : s.vm.findClass "java/lang/String" = some m.cls := findClass_of_methodNamed Bd.named
  have hnm := (name_of_methodNamed Bd.named Bd.method).1
  have X0 : Stand p l e ({ frames := 3, cells := 0, slots := 0, locals := 46 } : Room) s m #[(.ref a1), (.int ch)] below meth c s₁ [] 0 0 := Stand.of_body Bd
  have e0 : s₁.heap = h0 := by rw [← hh, Bd.state]; rfl
  have N0 := Fr.nil n0
  refine own_at (castTop (ef_5 m a1 ch)) ?_
  have sg3 : ∀ t, own_S p e below s₁ (mkF m 3 #[.val (.ref a1), .val (.int ch)] [(.int (0 : Int32)), (.int ch), (.ref a1)]) t → own_S p e below s₁ (mkF m 0 #[.val (.ref a1), .val (.int ch)] []) t := by
    intro t k
    show own_S p e below s₁ (mkF m 0 #[.val (.ref a1), .val (.int ch)] []) _
    refine XS.aloadN X0.here hx rfl (hb hby d5_0) rfl rfl ?_
    show own_S p e below s₁ (mkF m 1 #[.val (.ref a1), .val (.int ch)] [(.ref a1)]) _
    refine XS.iloadN X0.here hx rfl (hb hby d5_1) rfl ?_
    show own_S p e below s₁ (mkF m 2 #[.val (.ref a1), .val (.int ch)] [(.int ch), (.ref a1)]) _
    refine XS.iconst X0.here hx rfl (hb hby d5_2) ?_
    exact k
  refine own_by sg3 ?_
  obtain ⟨cq3, kq3, q3a, q3b, q3c⟩ := isOf hZ e0 E
  obtain ⟨_, _, ⟨T3, L3, k3, n3⟩, -, X3, ⟨Lc3, hQ3, l3, y3, z3⟩, st3⟩ := X0.virtualBack hx (y := (⟨"java/lang/String", "indexOf", "(II)I"⟩ : MethodName)) (z := (⟨"java/lang/String", "indexOf", "(II)I"⟩ : MethodName)) hown (mvT hZ (hw _ (List.mem_of_getElem? (i := 32) rfl))) (mvT hZ (hw _ (List.mem_of_getElem? (i := 33) rfl))) (notFace_of_selects (args := #[]) (mvT hZ (hw _ (List.mem_of_getElem? (i := 35) rfl)))) (mvT hZ (hw _ (List.mem_of_getElem? (i := 35) rfl))) (mvT hZ (hw _ (List.mem_of_getElem? (i := 34) rfl))) (by decide) (backOf (W := 0) (rm6 l Z a0 hw [] a1 ch tt kb cs gz h0 n0 Z0 E V Cc K hp hle O2 P5 hch) hZ (hw _ (List.mem_of_getElem? (i := 36) rfl)) (hw _ (List.mem_of_getElem? (i := 3) rfl)) (by decide) (by decide)) q3a q3c (g := (mkF m 3 #[.val (.ref a1), .val (.int ch)] [(.int (0 : Int32)), (.int ch), (.ref a1)])) rfl (by rw [hml]; rfl) (Steps.refl _) (argsL := [(.int ch), (.int (0 : Int32))]) (rest := []) (lenOf pd_5_0 rfl) rfl (by show 2 * 0 + _ ≤ _; exact Nat.le_of_eq rfl) (hb hby d5_3) (fun _ _ => ⟨rfl, e0, (by decide : 0 + 0 ≤ _), (by decide : 0 + 0 ≤ _)⟩)
  dsimp only [Pt.U, Pt.locs, Pt.cells, Pt.slots] at X3 l3 y3 z3 st3 hQ3
  subst l3 y3 z3
  obtain ⟨r3, rfl, hr3, N3q, hq3⟩ := hQ3
  have N3 := Fr.app N0 N3q
  refine own_by (fun t k => st3.trans k) ?_
  obtain ⟨fs, hr, hrun, hended, hW, hsame⟩ := X3.leave (v := some (.int r3)) (fun h => by rw [Bd.returns] at h; cases h)
  refine ⟨_, _, ?_, hrun, hended, _, _, rfl, ?_, ⟨_, rfl⟩, hW, hsame.mono (by decide) (by decide)⟩
  · exact retI X3 hx Bd.returns (hb hby d5_6) hr
  · show Q5 Z a1 ch tt kb cs gz h0 n0 _ T3.heap _
    rw [hq3]
    exact ⟨_, rfl, hr3, N3, rfl⟩
theorem d4_0 : decode prog_34_method_2_code 0 = .ok (.aload_n 0, 1) := by decide +kernel
theorem d4_1 : decode prog_34_method_2_code 1 = .ok (.bipush 42, 2) := by decide +kernel
theorem d4_3 : decode prog_34_method_2_code 3 = .ok (.invokevirtual 97, 3) := by decide +kernel
theorem d4_6 : decode prog_34_method_2_code 6 = .ok (.ifCond .ge 12, 3) := by decide +kernel
theorem d4_9 : decode prog_34_method_2_code 9 = .ok (.aload_n 0, 1) := by decide +kernel
theorem d4_10 : decode prog_34_method_2_code 10 = .ok (.bipush 63, 2) := by decide +kernel
theorem d4_12 : decode prog_34_method_2_code 12 = .ok (.invokevirtual 97, 3) := by decide +kernel
theorem d4_15 : decode prog_34_method_2_code 15 = .ok (.ifCond .lt 7, 3) := by decide +kernel
theorem d4_18 : decode prog_34_method_2_code 18 = .ok (.iconst 1, 1) := by decide +kernel
theorem d4_19 : decode prog_34_method_2_code 19 = .ok (.goto 4, 3) := by decide +kernel
theorem d4_22 : decode prog_34_method_2_code 22 = .ok (.iconst 0, 1) := by decide +kernel
theorem d4_23 : decode prog_34_method_2_code 23 = .ok (.ireturn, 1) := by decide +kernel
theorem pn_4 : plainFor (⟨"com/example/spojka/spojka/PathPattern", "holdsWildcards", "(Ljava/lang/String;)Z"⟩ : MethodName) = true := by first | exact plainFor_of_name (by first | (simp [plainName, overriddenIn]; done) | decide +kernel) | decide +kernel | exact Jvm.Free.JP.mathPlain rfl (by decide +kernel)
theorem pd_4_0 : parseMethodDescriptor "(I)I" = some ⟨[.int], some .int⟩ := by decide +kernel
theorem ef_4 (m : MethodId) (a1 : Addr) : entryFrame m #[(.ref a1)] 1 = mkF m 0 #[.val (.ref a1)] [] := by first | (simp [entryFrame, mkF, argsToLocals, Value.category]; done) | rfl
def Q4 (Z : State) (a1 : Addr) (tt : Addr) (kb : ClassId) (cs : List Int32) (gz : Int32) (h0 : Heap) (n0 : Nat) (v : Option Value) (h : Heap) (L : List Loc) : Prop := v = some (.int (if (42 : Int32) ∈ cs ∨ (63 : Int32) ∈ cs then (1 : Int32) else (0 : Int32))) ∧ Fr n0 L ∧ h = h0
set_option maxRecDepth 65536 in
set_option maxHeartbeats 40000000 in
theorem rm4 (l : Launch) (Z : State) (a0 : Array Value) (hw : ∀ d ∈ tables_1, d.before a0 Z = true) (ws : List Jvm.Cond) (a1 : Addr) (tt : Addr) (kb : ClassId) (cs : List Int32) (gz : Int32) (h0 : Heap) (n0 : Nat) (Z0 : n0 ≤ h0.size) (E : Exa Z h0 a1 "java/lang/String") (V : Fld Z h0 a1 "java/lang/String" "value" "[B" (.ref tt)) (Cc : Fld Z h0 a1 "java/lang/String" "coder" "B" (.int (0 : Int32))) (K : Arv Z h0 tt kb .byte (Int32.ofNat cs.length) ((cs.map (fun c => c.toInt8.toInt32)).map Value.int) (.int 0)) (hp : ∀ c ∈ cs, ¬ c < 0 ∧ ¬ (255 : Int32) < c) (hle : cs.length ≤ 4000) (O2 : Sta Z h0 "java/lang/String" "COMPACT_STRINGS" "Z" (.int gz)) (P5 : ¬ (gz = (0 : Int32))) :
    MetFree l (⟨"com/example/spojka/spojka/PathPattern", "holdsWildcards", "(Ljava/lang/String;)Z"⟩ : MethodName) (head1 (Jvm.Cond.code (⟨"com/example/spojka/spojka/PathPattern", "holdsWildcards", "(Ljava/lang/String;)Z"⟩ : MethodName) prog_34_method_2_code 1 (some .boolean) :: ws) ({ frames := 4, cells := 0, slots := 0, locals := 59 } : Room)) (fun a U => a = #[(.ref a1)] ∧ Z.Warmed39 U.vm ∧ U.heap = h0) (fun _ _ _ _ _ => True) (fun _ U o U' => ∃ v L, o = .returned v ∧ Q4 Z a1 tt kb cs gz h0 n0 v U'.heap L ∧ FrameEnd U o U' L ({ frames := 4, cells := 0, slots := 0, locals := 59 } : Room).cells ({ frames := 4, cells := 0, slots := 0, locals := 59 } : Room).slots) := by
  refine MetFree.of_bodySF pn_4 hisR ?_
  intro p e s m args below meth c s₁ Bd hml0 hP hK
  obtain ⟨rfl, hZ, hh⟩ := hP
  have hx := Bd.exec
  have hby := Bd.bytes
  have hml : c.maxLocals = 1 := hml0
  have hown : s.vm.findClass "com/example/spojka/spojka/PathPattern" = some m.cls := findClass_of_methodNamed Bd.named
  have hnm := (name_of_methodNamed Bd.named Bd.method).1
  have X0 : Stand p l e ({ frames := 4, cells := 0, slots := 0, locals := 59 } : Room) s m #[(.ref a1)] below meth c s₁ [] 0 0 := Stand.of_body Bd
  have e0 : s₁.heap = h0 := by rw [← hh, Bd.state]; rfl
  have N0 := Fr.nil n0
  refine own_at (castTop (ef_4 m a1)) ?_
  have sg3 : ∀ t, own_S p e below s₁ (mkF m 3 #[.val (.ref a1)] [(.int (42 : Int32)), (.ref a1)]) t → own_S p e below s₁ (mkF m 0 #[.val (.ref a1)] []) t := by
    intro t k
    show own_S p e below s₁ (mkF m 0 #[.val (.ref a1)] []) _
    refine XS.aloadN X0.here hx rfl (hb hby d4_0) rfl rfl ?_
    show own_S p e below s₁ (mkF m 1 #[.val (.ref a1)] [(.ref a1)]) _
    refine XS.bipush X0.here hx rfl (hb hby d4_1) ?_
    exact k
  refine own_by sg3 ?_
  obtain ⟨cq3, kq3, q3a, q3b, q3c⟩ := isOf hZ e0 E
  obtain ⟨_, _, ⟨T3, L3, k3, n3⟩, -, X3, ⟨Lc3, hQ3, l3, y3, z3⟩, st3⟩ := X0.virtualBack hx (y := (⟨"java/lang/String", "indexOf", "(I)I"⟩ : MethodName)) (z := (⟨"java/lang/String", "indexOf", "(I)I"⟩ : MethodName)) hown (mvT hZ (hw _ (List.mem_of_getElem? (i := 27) rfl))) (mvT hZ (hw _ (List.mem_of_getElem? (i := 28) rfl))) (notFace_of_selects (args := #[]) (mvT hZ (hw _ (List.mem_of_getElem? (i := 30) rfl)))) (mvT hZ (hw _ (List.mem_of_getElem? (i := 30) rfl))) (mvT hZ (hw _ (List.mem_of_getElem? (i := 29) rfl))) (by decide) (backOf (W := 0) (rm5 l Z a0 hw [] a1 (42 : Int32) tt kb cs gz h0 n0 Z0 E V Cc K hp hle O2 P5 (by decide)) hZ (hw _ (List.mem_of_getElem? (i := 31) rfl)) (hw _ (List.mem_of_getElem? (i := 3) rfl)) (by decide) (by decide)) q3a q3c (g := (mkF m 3 #[.val (.ref a1)] [(.int (42 : Int32)), (.ref a1)])) rfl (by rw [hml]; rfl) (Steps.refl _) (argsL := [(.int (42 : Int32))]) (rest := []) (lenOf pd_4_0 rfl) rfl (by show 2 * 0 + _ ≤ _; exact Nat.le_of_eq rfl) (hb hby d4_3) (fun _ _ => ⟨rfl, e0, (by decide : 0 + 0 ≤ _), (by decide : 0 + 0 ≤ _)⟩)
  dsimp only [Pt.U, Pt.locs, Pt.cells, Pt.slots] at X3 l3 y3 z3 st3 hQ3
  subst l3 y3 z3
  obtain ⟨r3, rfl, hr3, N3q, hq3⟩ := hQ3
  have N3 := Fr.app N0 N3q
  refine own_by (fun t k => st3.trans k) ?_
  by_cases hc6 : r3 < (0 : Int32)
  · have sg12 : ∀ t, own_S p e below T3 (mkF m 12 #[.val (.ref a1)] [(.int (63 : Int32)), (.ref a1)]) t → own_S p e below T3 (mkF m 6 #[.val (.ref a1)] [(.int r3)]) t := by
      intro t k
      show own_S p e below T3 (mkF m 6 #[.val (.ref a1)] [(.int r3)]) _
      refine XS.ifNo X3.here hx rfl (hb hby d4_6) rfl ((if0 _ _).trans (tlt hc6).2.1) ?_
      show own_S p e below T3 (mkF m 9 #[.val (.ref a1)] []) _
      refine XS.aloadN X3.here hx rfl (hb hby d4_9) rfl rfl ?_
      show own_S p e below T3 (mkF m 10 #[.val (.ref a1)] [(.ref a1)]) _
      refine XS.bipush X3.here hx rfl (hb hby d4_10) ?_
      exact k
    refine own_by sg12 ?_
    obtain ⟨cq12, kq12, q12a, q12b, q12c⟩ := isOf hZ hq3 E
    obtain ⟨_, _, ⟨T12, L12, k12, n12⟩, -, X12, ⟨Lc12, hQ12, l12, y12, z12⟩, st12⟩ := X3.virtualBack hx (y := (⟨"java/lang/String", "indexOf", "(I)I"⟩ : MethodName)) (z := (⟨"java/lang/String", "indexOf", "(I)I"⟩ : MethodName)) hown (mvT hZ (hw _ (List.mem_of_getElem? (i := 27) rfl))) (mvT hZ (hw _ (List.mem_of_getElem? (i := 28) rfl))) (notFace_of_selects (args := #[]) (mvT hZ (hw _ (List.mem_of_getElem? (i := 30) rfl)))) (mvT hZ (hw _ (List.mem_of_getElem? (i := 30) rfl))) (mvT hZ (hw _ (List.mem_of_getElem? (i := 29) rfl))) (by decide) (backOf (W := 0) (rm5 l Z a0 hw [] a1 (63 : Int32) tt kb cs gz h0 n0 Z0 E V Cc K hp hle O2 P5 (by decide)) hZ (hw _ (List.mem_of_getElem? (i := 31) rfl)) (hw _ (List.mem_of_getElem? (i := 3) rfl)) (by decide) (by decide)) q12a q12c (g := (mkF m 12 #[.val (.ref a1)] [(.int (63 : Int32)), (.ref a1)])) rfl (by rw [hml]; rfl) (Steps.refl _) (argsL := [(.int (63 : Int32))]) (rest := []) (lenOf pd_4_0 rfl) rfl (by show 2 * 0 + _ ≤ _; exact Nat.le_of_eq rfl) (hb hby d4_12) (fun _ _ => ⟨rfl, hq3, (by decide : 0 + 0 ≤ _), (by decide : 0 + 0 ≤ _)⟩)
    dsimp only [Pt.U, Pt.locs, Pt.cells, Pt.slots] at X12 l12 y12 z12 st12 hQ12
    subst l12 y12 z12
    obtain ⟨r12, rfl, hr12, N12q, hq12⟩ := hQ12
    have N12 := Fr.app N3 N12q
    refine own_by (fun t k => st12.trans k) ?_
    by_cases hc15 : r12 < (0 : Int32)
    · have sg23 : ∀ t, own_S p e below T12 (mkF m 23 #[.val (.ref a1)] [(.int (0 : Int32))]) t → own_S p e below T12 (mkF m 15 #[.val (.ref a1)] [(.int r12)]) t := by
        intro t k
        show own_S p e below T12 (mkF m 15 #[.val (.ref a1)] [(.int r12)]) _
        refine XS.ifYes X12.here hx rfl (pc0 := 15) (pc' := 22) rfl (hb hby d4_15) rfl ((if0 _ _).trans (tlt hc15).1) (by decide) (by decide) ?_
        show own_S p e below T12 (mkF m 22 #[.val (.ref a1)] []) _
        refine XS.iconst X12.here hx rfl (hb hby d4_22) ?_
        exact k
      refine own_by sg23 ?_
      obtain ⟨fs, hr, hrun, hended, hW, hsame⟩ := X12.leave (v := some (.int (0 : Int32))) (fun h => by rw [Bd.returns] at h; cases h)
      refine ⟨_, _, ?_, hrun, hended, _, _, rfl, ?_, ⟨_, rfl⟩, hW, hsame.mono (by decide) (by decide)⟩
      · exact retN X12 hx (t := .boolean) Bd.returns (by simp) (hb hby d4_23) hr
      · show Q4 Z a1 tt kb cs gz h0 n0 _ T12.heap _
        rw [hq12]
        exact ⟨by rw [if_neg (fun q => q.elim (hr3.mp hc6) (hr12.mp hc15))], N12, rfl⟩
    · have sg23 : ∀ t, own_S p e below T12 (mkF m 23 #[.val (.ref a1)] [(.int (1 : Int32))]) t → own_S p e below T12 (mkF m 15 #[.val (.ref a1)] [(.int r12)]) t := by
        intro t k
        show own_S p e below T12 (mkF m 15 #[.val (.ref a1)] [(.int r12)]) _
        refine XS.ifNo X12.here hx rfl (hb hby d4_15) rfl ((if0 _ _).trans (flt hc15).1) ?_
        show own_S p e below T12 (mkF m 18 #[.val (.ref a1)] []) _
        refine XS.iconst X12.here hx rfl (hb hby d4_18) ?_
        show own_S p e below T12 (mkF m 19 #[.val (.ref a1)] [(.int (1 : Int32))]) _
        refine XS.goto X12.here hx rfl (pc0 := 19) (pc' := 23) rfl (hb hby d4_19) (by decide) (by decide) ?_
        exact k
      refine own_by sg23 ?_
      obtain ⟨fs, hr, hrun, hended, hW, hsame⟩ := X12.leave (v := some (.int (1 : Int32))) (fun h => by rw [Bd.returns] at h; cases h)
      refine ⟨_, _, ?_, hrun, hended, _, _, rfl, ?_, ⟨_, rfl⟩, hW, hsame.mono (by decide) (by decide)⟩
      · exact retN X12 hx (t := .boolean) Bd.returns (by simp) (hb hby d4_23) hr
      · show Q4 Z a1 tt kb cs gz h0 n0 _ T12.heap _
        rw [hq12]
        exact ⟨by rw [if_pos (Or.inr (Classical.byContradiction fun q => hc15 (hr12.mpr q)))], N12, rfl⟩
  · have sg23 : ∀ t, own_S p e below T3 (mkF m 23 #[.val (.ref a1)] [(.int (1 : Int32))]) t → own_S p e below T3 (mkF m 6 #[.val (.ref a1)] [(.int r3)]) t := by
      intro t k
      show own_S p e below T3 (mkF m 6 #[.val (.ref a1)] [(.int r3)]) _
      refine XS.ifYes X3.here hx rfl (pc0 := 6) (pc' := 18) rfl (hb hby d4_6) rfl ((if0 _ _).trans (flt hc6).2.1) (by decide) (by decide) ?_
      show own_S p e below T3 (mkF m 18 #[.val (.ref a1)] []) _
      refine XS.iconst X3.here hx rfl (hb hby d4_18) ?_
      show own_S p e below T3 (mkF m 19 #[.val (.ref a1)] [(.int (1 : Int32))]) _
      refine XS.goto X3.here hx rfl (pc0 := 19) (pc' := 23) rfl (hb hby d4_19) (by decide) (by decide) ?_
      exact k
    refine own_by sg23 ?_
    obtain ⟨fs, hr, hrun, hended, hW, hsame⟩ := X3.leave (v := some (.int (1 : Int32))) (fun h => by rw [Bd.returns] at h; cases h)
    refine ⟨_, _, ?_, hrun, hended, _, _, rfl, ?_, ⟨_, rfl⟩, hW, hsame.mono (by decide) (by decide)⟩
    · exact retN X3 hx (t := .boolean) Bd.returns (by simp) (hb hby d4_23) hr
    · show Q4 Z a1 tt kb cs gz h0 n0 _ T3.heap _
      rw [hq3]
      exact ⟨by rw [if_pos (Or.inl (Classical.byContradiction fun q => hc6 (hr3.mpr q)))], N3, rfl⟩
theorem d17_0 : decode method_2_code 0 = .ok (.iload_n 0, 1) := by decide +kernel
theorem d17_1 : decode method_2_code 1 = .ok (.bipush 42, 2) := by decide +kernel
theorem d17_3 : decode method_2_code 3 = .ok (.if_icmp .eq 9, 3) := by decide +kernel
theorem d17_6 : decode method_2_code 6 = .ok (.iload_n 0, 1) := by decide +kernel
theorem d17_7 : decode method_2_code 7 = .ok (.bipush 63, 2) := by decide +kernel
theorem d17_9 : decode method_2_code 9 = .ok (.if_icmp .ne 7, 3) := by decide +kernel
theorem d17_12 : decode method_2_code 12 = .ok (.iconst 1, 1) := by decide +kernel
theorem d17_13 : decode method_2_code 13 = .ok (.goto 4, 3) := by decide +kernel
theorem d17_16 : decode method_2_code 16 = .ok (.iconst 0, 1) := by decide +kernel
theorem d17_17 : decode method_2_code 17 = .ok (.ireturn, 1) := by decide +kernel
theorem pn_17 : plainFor (⟨"com/example/spojka/spojka/PathPatternHoldsWildcardsPinLaw", "wild", "(C)Z"⟩ : MethodName) = true := by first | exact plainFor_of_name (by first | (simp [plainName, overriddenIn]; done) | decide +kernel) | decide +kernel | exact Jvm.Free.JP.mathPlain rfl (by decide +kernel)
theorem ef_17 (m : MethodId) (p0 : Int32) : entryFrame m #[(.int p0)] 1 = mkF m 0 #[.val (.int p0)] [] := by first | (simp [entryFrame, mkF, argsToLocals, Value.category]; done) | rfl
def Q17 (Z : State) (p0 : Int32) (h0 : Heap) (n0 : Nat) (v : Option Value) (h : Heap) (L : List Loc) : Prop := v = some (.int (if p0 = (42 : Int32) then (1 : Int32) else if p0 = (63 : Int32) then (1 : Int32) else (0 : Int32))) ∧ Fr n0 L ∧ h = h0
set_option maxRecDepth 65536 in
set_option maxHeartbeats 40000000 in
theorem rm17 (l : Launch) (Z : State) (a0 : Array Value) (hw : ∀ d ∈ tables_1, d.before a0 Z = true) (ws : List Jvm.Cond) (p0 : Int32) (h0 : Heap) (n0 : Nat) (Z0 : n0 ≤ h0.size) :
    MetFree l (⟨"com/example/spojka/spojka/PathPatternHoldsWildcardsPinLaw", "wild", "(C)Z"⟩ : MethodName) (head1 (Jvm.Cond.code (⟨"com/example/spojka/spojka/PathPatternHoldsWildcardsPinLaw", "wild", "(C)Z"⟩ : MethodName) method_2_code 1 (some .boolean) :: ws) ({ frames := 0, cells := 0, slots := 0, locals := 0 } : Room)) (fun a U => a = #[(.int p0)] ∧ Z.Warmed39 U.vm ∧ U.heap = h0) (fun _ _ _ _ _ => True) (fun _ U o U' => ∃ v L, o = .returned v ∧ Q17 Z p0 h0 n0 v U'.heap L ∧ FrameEnd U o U' L ({ frames := 0, cells := 0, slots := 0, locals := 0 } : Room).cells ({ frames := 0, cells := 0, slots := 0, locals := 0 } : Room).slots) := by
  refine MetFree.of_bodySF pn_17 hisR ?_
  intro p e s m args below meth c s₁ Bd hml0 hP hK
  obtain ⟨rfl, hZ, hh⟩ := hP
  have hx := Bd.exec
  have hby := Bd.bytes
  have hml : c.maxLocals = 1 := hml0
  have hown : s.vm.findClass "com/example/spojka/spojka/PathPatternHoldsWildcardsPinLaw" = some m.cls := findClass_of_methodNamed Bd.named
  have hnm := (name_of_methodNamed Bd.named Bd.method).1
  have X0 : Stand p l e ({ frames := 0, cells := 0, slots := 0, locals := 0 } : Room) s m #[(.int p0)] below meth c s₁ [] 0 0 := Stand.of_body Bd
  have e0 : s₁.heap = h0 := by rw [← hh, Bd.state]; rfl
  have N0 := Fr.nil n0
  refine own_at (castTop (ef_17 m p0)) ?_
  have sg3 : ∀ t, own_S p e below s₁ (mkF m 3 #[.val (.int p0)] [(.int (42 : Int32)), (.int p0)]) t → own_S p e below s₁ (mkF m 0 #[.val (.int p0)] []) t := by
    intro t k
    show own_S p e below s₁ (mkF m 0 #[.val (.int p0)] []) _
    refine XS.iloadN X0.here hx rfl (hb hby d17_0) rfl ?_
    show own_S p e below s₁ (mkF m 1 #[.val (.int p0)] [(.int p0)]) _
    refine XS.bipush X0.here hx rfl (hb hby d17_1) ?_
    exact k
  refine own_by sg3 ?_
  by_cases hc3 : p0 = (42 : Int32)
  · have sg17 : ∀ t, own_S p e below s₁ (mkF m 17 #[.val (.int p0)] [(.int (1 : Int32))]) t → own_S p e below s₁ (mkF m 3 #[.val (.int p0)] [(.int (42 : Int32)), (.int p0)]) t := by
      intro t k
      show own_S p e below s₁ (mkF m 3 #[.val (.int p0)] [(.int (42 : Int32)), (.int p0)]) _
      refine XS.icmpYes X0.here hx rfl (pc0 := 3) (pc' := 12) rfl (hb hby d17_3) rfl (teq hc3).1 (by decide) (by decide) ?_
      show own_S p e below s₁ (mkF m 12 #[.val (.int p0)] []) _
      refine XS.iconst X0.here hx rfl (hb hby d17_12) ?_
      show own_S p e below s₁ (mkF m 13 #[.val (.int p0)] [(.int (1 : Int32))]) _
      refine XS.goto X0.here hx rfl (pc0 := 13) (pc' := 17) rfl (hb hby d17_13) (by decide) (by decide) ?_
      exact k
    refine own_by sg17 ?_
    obtain ⟨fs, hr, hrun, hended, hW, hsame⟩ := X0.leave (v := some (.int (1 : Int32))) (fun h => by rw [Bd.returns] at h; cases h)
    refine ⟨_, _, ?_, hrun, hended, _, _, rfl, ?_, ⟨_, rfl⟩, hW, hsame.mono (by decide) (by decide)⟩
    · exact retN X0 hx (t := .boolean) Bd.returns (by simp) (hb hby d17_17) hr
    · show Q17 Z p0 h0 n0 _ s₁.heap _
      rw [e0]
      exact ⟨by rw [if_pos hc3], N0, rfl⟩
  · have sg9 : ∀ t, own_S p e below s₁ (mkF m 9 #[.val (.int p0)] [(.int (63 : Int32)), (.int p0)]) t → own_S p e below s₁ (mkF m 3 #[.val (.int p0)] [(.int (42 : Int32)), (.int p0)]) t := by
      intro t k
      show own_S p e below s₁ (mkF m 3 #[.val (.int p0)] [(.int (42 : Int32)), (.int p0)]) _
      refine XS.icmpNo X0.here hx rfl (hb hby d17_3) rfl (feq hc3).1 ?_
      show own_S p e below s₁ (mkF m 6 #[.val (.int p0)] []) _
      refine XS.iloadN X0.here hx rfl (hb hby d17_6) rfl ?_
      show own_S p e below s₁ (mkF m 7 #[.val (.int p0)] [(.int p0)]) _
      refine XS.bipush X0.here hx rfl (hb hby d17_7) ?_
      exact k
    refine own_by sg9 ?_
    by_cases hc9 : p0 = (63 : Int32)
    · have sg17 : ∀ t, own_S p e below s₁ (mkF m 17 #[.val (.int p0)] [(.int (1 : Int32))]) t → own_S p e below s₁ (mkF m 9 #[.val (.int p0)] [(.int (63 : Int32)), (.int p0)]) t := by
        intro t k
        show own_S p e below s₁ (mkF m 9 #[.val (.int p0)] [(.int (63 : Int32)), (.int p0)]) _
        refine XS.icmpNo X0.here hx rfl (hb hby d17_9) rfl (teq hc9).2 ?_
        show own_S p e below s₁ (mkF m 12 #[.val (.int p0)] []) _
        refine XS.iconst X0.here hx rfl (hb hby d17_12) ?_
        show own_S p e below s₁ (mkF m 13 #[.val (.int p0)] [(.int (1 : Int32))]) _
        refine XS.goto X0.here hx rfl (pc0 := 13) (pc' := 17) rfl (hb hby d17_13) (by decide) (by decide) ?_
        exact k
      refine own_by sg17 ?_
      obtain ⟨fs, hr, hrun, hended, hW, hsame⟩ := X0.leave (v := some (.int (1 : Int32))) (fun h => by rw [Bd.returns] at h; cases h)
      refine ⟨_, _, ?_, hrun, hended, _, _, rfl, ?_, ⟨_, rfl⟩, hW, hsame.mono (by decide) (by decide)⟩
      · exact retN X0 hx (t := .boolean) Bd.returns (by simp) (hb hby d17_17) hr
      · show Q17 Z p0 h0 n0 _ s₁.heap _
        rw [e0]
        exact ⟨by rw [if_neg hc3, if_pos hc9], N0, rfl⟩
    · have sg17 : ∀ t, own_S p e below s₁ (mkF m 17 #[.val (.int p0)] [(.int (0 : Int32))]) t → own_S p e below s₁ (mkF m 9 #[.val (.int p0)] [(.int (63 : Int32)), (.int p0)]) t := by
        intro t k
        show own_S p e below s₁ (mkF m 9 #[.val (.int p0)] [(.int (63 : Int32)), (.int p0)]) _
        refine XS.icmpYes X0.here hx rfl (pc0 := 9) (pc' := 16) rfl (hb hby d17_9) rfl (feq hc9).2 (by decide) (by decide) ?_
        show own_S p e below s₁ (mkF m 16 #[.val (.int p0)] []) _
        refine XS.iconst X0.here hx rfl (hb hby d17_16) ?_
        exact k
      refine own_by sg17 ?_
      obtain ⟨fs, hr, hrun, hended, hW, hsame⟩ := X0.leave (v := some (.int (0 : Int32))) (fun h => by rw [Bd.returns] at h; cases h)
      refine ⟨_, _, ?_, hrun, hended, _, _, rfl, ?_, ⟨_, rfl⟩, hW, hsame.mono (by decide) (by decide)⟩
      · exact retN X0 hx (t := .boolean) Bd.returns (by simp) (hb hby d17_17) hr
      · show Q17 Z p0 h0 n0 _ s₁.heap _
        rw [e0]
        exact ⟨by rw [if_neg hc3, if_neg hc9], N0, rfl⟩
theorem d2_0 : decode jdk_42_method_149_code 0 = .ok (.aload_n 0, 1) := by decide +kernel
theorem d2_1 : decode jdk_42_method_149_code 1 = .ok (.invokespecial 1, 3) := by decide +kernel
theorem d2_4 : decode jdk_42_method_149_code 4 = .ok (.iload_n 3, 1) := by decide +kernel
theorem d2_5 : decode jdk_42_method_149_code 5 = .ok (.ifCond .ne 22, 3) := by decide +kernel
theorem d2_8 : decode jdk_42_method_149_code 8 = .ok (.aload_n 0, 1) := by decide +kernel
theorem d2_9 : decode jdk_42_method_149_code 9 = .ok (.ldc 7, 2) := by decide +kernel
theorem d2_11 : decode jdk_42_method_149_code 11 = .ok (.getfield 9, 3) := by decide +kernel
theorem d2_14 : decode jdk_42_method_149_code 14 = .ok (.putfield 9, 3) := by decide +kernel
theorem d2_17 : decode jdk_42_method_149_code 17 = .ok (.aload_n 0, 1) := by decide +kernel
theorem d2_18 : decode jdk_42_method_149_code 18 = .ok (.ldc 7, 2) := by decide +kernel
theorem d2_20 : decode jdk_42_method_149_code 20 = .ok (.getfield 15, 3) := by decide +kernel
theorem d2_23 : decode jdk_42_method_149_code 23 = .ok (.putfield 15, 3) := by decide +kernel
theorem d2_26 : decode jdk_42_method_149_code 26 = .ok (.return_, 1) := by decide +kernel
theorem pn_2e : plainFor (⟨"java/lang/String", "<init>", "([CIILjava/lang/Void;)V"⟩ : MethodName) = true := by first | exact plainFor_of_name (by first | (simp [plainName, overriddenIn]; done) | decide +kernel) | decide +kernel | exact Jvm.Free.JP.mathPlain rfl (by decide +kernel)
theorem ef_2e (m : MethodId) (a1 : Addr) (a2 : Addr) : entryFrame m #[(.ref a1), (.ref a2), (.int (0 : Int32)), (.int (0 : Int32)), .null] 6 = mkF m 0 #[.val (.ref a1), .val (.ref a2), .val (.int (0 : Int32)), .val (.int (0 : Int32)), .val .null, .unset] [] := by first | (simp [entryFrame, mkF, argsToLocals, Value.category]; done) | rfl
def Q2e (Z : State) (a1 : Addr) (a2 : Addr) (h0 : Heap) (n0 : Nat) (v : Option Value) (h : Heap) (L : List Loc) : Prop := v = none ∧ Fr n0 L ∧ Keep h0 h [a1] ∧ own_Str Z h a1 []
set_option maxRecDepth 65536 in
set_option maxHeartbeats 40000000 in
theorem rm2e (l : Launch) (Z : State) (a0 : Array Value) (hw : ∀ d ∈ tables_1, d.before a0 Z = true) (ws : List Jvm.Cond) (a1 : Addr) (a2 : Addr) (h0 : Heap) (n0 : Nat) (Z0 : n0 ≤ h0.size) (E_a1 : Exa Z h0 a1 "java/lang/String") (F_v : Fld Z h0 a1 "java/lang/String" "value" "[B" .null) (F_c : Fld Z h0 a1 "java/lang/String" "coder" "B" (.int (0 : Int32))) (g_a1 : n0 ≤ a1) :
    MetFree l (⟨"java/lang/String", "<init>", "([CIILjava/lang/Void;)V"⟩ : MethodName) (head1 (Jvm.Cond.code (⟨"java/lang/String", "<init>", "([CIILjava/lang/Void;)V"⟩ : MethodName) jdk_42_method_149_code 6 none :: ws) ({ frames := 1, cells := 4, slots := 8, locals := 12 } : Room)) (fun a U => a = #[(.ref a1), (.ref a2), (.int (0 : Int32)), (.int (0 : Int32)), .null] ∧ Z.Warmed39 U.vm ∧ U.heap = h0 ∧ CHv Z consts_1 U.vm h0) (fun _ _ _ _ _ => True) (fun _ U o U' => ∃ v L, o = .returned v ∧ Q2e Z a1 a2 h0 n0 v U'.heap L ∧ CHr Z consts_1 U.vm U.heap U'.vm U'.heap ∧ ReturnedEndW U o U' L ({ frames := 1, cells := 4, slots := 8, locals := 12 } : Room).cells ({ frames := 1, cells := 4, slots := 8, locals := 12 } : Room).slots) := by
  refine MetFree.of_bodySF pn_2e hisR ?_
  intro p e s m args below meth c s₁ Bd hml0 hP hK
  obtain ⟨rfl, hZ, hh, hH0⟩ := hP
  have hx := Bd.exec
  have hby := Bd.bytes
  have hml : c.maxLocals = 6 := hml0
  have hown : s.vm.findClass "java/lang/String" = some m.cls := findClass_of_methodNamed Bd.named
  have hnm := (name_of_methodNamed Bd.named Bd.method).1
  have X0 : Stand p l e ({ frames := 1, cells := 4, slots := 8, locals := 12 } : Room) (s.setVm s.vm) m #[(.ref a1), (.ref a2), (.int (0 : Int32)), (.int (0 : Int32)), .null] below meth c s₁ [] 0 0 := Stand.of_body Bd
  have e0 : s₁.heap = h0 := by rw [← hh, Bd.state]; rfl
  have N0 := Fr.nil n0
  have hS0 : s.Since s.vm 0 := (State.WarmedH.refl s).since 0
  refine own_at (castTop (ef_2e m a1 a2)) ?_
  have K0 := Keep.refl h0 [a1]
  have wS : ∀ a ∈ Bundle.stringAtoms, a.before a0 Z = true := fun d hd => hw d ((by decide +kernel : ∀ d ∈ Bundle.stringAtoms, d ∈ tables_1) d hd)
  have hEL : EW _ _ consts_1 := (EW.cons (hw _ (List.mem_of_getElem? (i := 15) rfl)) (by decide) EW.nil)
  have hZ0 : Z.Warmed39 s.vm := hZ
  have sg1 : ∀ t, own_S p e below s₁ (mkF m 1 (own_ARRIINU a1 a2 (0 : Int32) (0 : Int32)) [(.ref a1)]) t → own_S p e below s₁ (mkF m 0 (own_ARRIINU a1 a2 (0 : Int32) (0 : Int32)) []) t := by
    intro t k
    show own_S p e below s₁ (mkF m 0 (own_ARRIINU a1 a2 (0 : Int32) (0 : Int32)) []) _
    refine XS.aloadN X0.here hx rfl (hb hby d2_0) rfl rfl ?_
    exact k
  refine own_by sg1 ?_
  obtain ⟨T1, X1, e1, st1⟩ := initO X0 hx hZ hown (hw _ (List.mem_of_getElem? (i := 12) rfl)) (hw _ (List.mem_of_getElem? (i := 13) rfl)) (hw _ (List.mem_of_getElem? (i := 14) rfl)) e0 (g := (mkF m 1 (own_ARRIINU a1 a2 (0 : Int32) (0 : Int32)) [(.ref a1)])) rfl (by rw [hml]; rfl) rfl (hb hby d2_1) (by decide) (W := 0) (by show 2 * 0 + _ ≤ _; exact Nat.le_of_eq rfl) (by decide)
  refine own_by st1 ?_
  have sg9 : ∀ t, own_S p e below T1 (mkF m 9 (own_ARRIINU a1 a2 (0 : Int32) (0 : Int32)) [(.ref a1)]) t → own_S p e below T1 (mkF m 4 (own_ARRIINU a1 a2 (0 : Int32) (0 : Int32)) []) t := by
    intro t k
    show own_S p e below T1 (mkF m 4 (own_ARRIINU a1 a2 (0 : Int32) (0 : Int32)) []) _
    refine XS.iloadN X1.here hx rfl (hb hby d2_4) rfl ?_
    show own_S p e below T1 (mkF m 5 (own_ARRIINU a1 a2 (0 : Int32) (0 : Int32)) [(.int (0 : Int32))]) _
    refine XS.ifNo X1.here hx rfl (hb hby d2_5) rfl ((if0 _ _).trans (teq (by decide : (0 : Int32) = (0 : Int32))).2) ?_
    show own_S p e below T1 (mkF m 8 (own_ARRIINU a1 a2 (0 : Int32) (0 : Int32)) []) _
    refine XS.aloadN X1.here hx rfl (hb hby d2_8) rfl rfl ?_
    exact k
  refine own_by sg9 ?_
  obtain ⟨l9a, T9, h9, ks9, lb9, lk9, X9, e9, E9, hS9, hk9, hZ9, hown9, lE9, lC9, lV9, lA9, la19, la29, hC9, -, hsf9, st9⟩ := ldcCH X1 hx hZ hown (hw _ (List.mem_of_getElem? (i := 15) rfl)) wS e1 hS0 (Nat.zero_le _) hEL (by decide) hH0 (vs := []) (z := (0 : Int32)) ⟨by decide, by decide⟩ (by decide) (by decide) (g := (mkF m 9 (own_ARRIINU a1 a2 (0 : Int32) (0 : Int32)) [(.ref a1)])) rfl (hb hby d2_9) (n := 0) (by decide) (by decide) (by decide) (by decide)
  have K9 := K0.ext E9
  have Z9 : n0 ≤ h9.size := Nat.le_trans Z0 E9.1
  have CR9 := (CHr.refl hH0).trans hC9
  have sf9 := hC9.safe E_a1.lt (own_safe0 (vm := s.vm) hZ0.alike E_a1 F_v (hw _ (List.mem_of_getElem? (i := 2) rfl)))
  obtain ⟨ne_a1_l9a, ne_a1_lb9⟩ := hsf9 _ sf9
  refine own_by st9 ?_
  obtain ⟨T11, X11, e11, st11⟩ := getF X9 hx hZ9 hown9 (host := "") (Or.inl (hw _ (List.mem_of_getElem? (i := 21) rfl))) Via.refl e9 lV9 (g := (mkF m 11 (own_ARRIINU a1 a2 (0 : Int32) (0 : Int32)) [(.ref l9a), (.ref a1)])) rfl rfl (hb hby d2_11)
  refine own_by st11 ?_
  obtain ⟨T14, h14, X14, e14, W14, st14⟩ := putF X11 hx hZ9 hown9 (host := "") (Or.inl (hw _ (List.mem_of_getElem? (i := 21) rfl))) Via.refl e11 (F_v.ext E9) (E_a1.ext E9) (Or.inr ⟨(hw _ (List.mem_of_getElem? (i := 17) rfl)), rfl, hnm⟩) (hw _ (List.mem_of_getElem? (i := 2) rfl)) (ty := (.array .byte)) (by decide) rfl rfl (g := (mkF m 14 (own_ARRIINU a1 a2 (0 : Int32) (0 : Int32)) [(.ref lb9), (.ref a1)])) rfl rfl (hb hby d2_14)
  have Fw14 := (F_v.ext E9).same W14
  have fc := ((F_c.ext E9).other W14 (Or.inr (slot_ne (Or.inr (hw _ (List.mem_of_getElem? (i := 18) rfl))) (Or.inr (hw _ (List.mem_of_getElem? (i := 17) rfl))) (by decide) (t := .byte) (t' := (.array .byte)) (by decide) (by decide))))
  have K14 : Keep h0 h14 [a1] := K9.wr W14 (Or.inl (List.mem_of_getElem? (i := 0) rfl))
  have Z14 : n0 ≤ h14.size := Nat.le_trans Z9 (Keep.of_wr W14).1
  have CC14 := CHr.wr W14 sf9 hC9.1
  have CR14 := CR9.trans CC14
  have N14 := Fr.snoc X14 N0 g_a1
  refine own_by st14 ?_
  have sf14 := Safe.wr W14 sf9 hC9.1 sf9
  have lt14 := ((E_a1.ext E9).wr W14).lt
  have sg18 : ∀ t, own_S p e below T14 (mkF m 18 (own_ARRIINU a1 a2 (0 : Int32) (0 : Int32)) [(.ref a1)]) t → own_S p e below T14 (mkF m 17 (own_ARRIINU a1 a2 (0 : Int32) (0 : Int32)) []) t := by
    intro t k
    show own_S p e below T14 (mkF m 17 (own_ARRIINU a1 a2 (0 : Int32) (0 : Int32)) []) _
    refine XS.aloadN X14.here hx rfl (hb hby d2_17) rfl rfl ?_
    exact k
  refine own_by sg18 ?_
  obtain ⟨l18a, T18, h18, ks18, lb18, lk18, X18, e18, E18, hS18, hk18, hZ18, hown18, lE18, lC18, lV18, lA18, la118, la218, hC18, -, hsf18, st18⟩ := ldcCH X14 hx hZ9 hown9 (hw _ (List.mem_of_getElem? (i := 15) rfl)) wS e14 hS9 (Nat.le_trans hk9 (Keep.of_wr W14).1) hEL (by decide) CC14.1 (vs := []) (z := (0 : Int32)) ⟨by decide, by decide⟩ (by decide) (by decide) (g := (mkF m 18 (own_ARRIINU a1 a2 (0 : Int32) (0 : Int32)) [(.ref a1)])) rfl (hb hby d2_18) (n := 0) (by decide) (by decide) (by decide) (by decide)
  have K18 := K14.ext E18
  have Z18 : n0 ≤ h18.size := Nat.le_trans Z14 E18.1
  have CR18 := CR14.trans hC18
  have sf18 := hC18.safe lt14 sf14
  obtain ⟨ne_a1_l18a, ne_a1_lb18⟩ := hsf18 _ sf18
  refine own_by st18 ?_
  obtain ⟨T20, X20, e20, st20⟩ := getF X18 hx hZ18 hown18 (host := "") (Or.inl (hw _ (List.mem_of_getElem? (i := 22) rfl))) Via.refl e18 lC18 (g := (mkF m 20 (own_ARRIINU a1 a2 (0 : Int32) (0 : Int32)) [(.ref l18a), (.ref a1)])) rfl rfl (hb hby d2_20)
  refine own_by st20 ?_
  obtain ⟨T23, h23, X23, e23, W23, st23⟩ := putF X20 hx hZ18 hown18 (host := "") (Or.inl (hw _ (List.mem_of_getElem? (i := 22) rfl))) Via.refl e20 (fc.ext E18) (((E_a1.ext E9).wr W14).ext E18) (Or.inr ⟨(hw _ (List.mem_of_getElem? (i := 18) rfl)), rfl, hnm⟩) (hw _ (List.mem_of_getElem? (i := 2) rfl)) (ty := .byte) (by decide) rfl rfl (g := (mkF m 23 (own_ARRIINU a1 a2 (0 : Int32) (0 : Int32)) [(.int (0 : Int32)), (.ref a1)])) rfl rfl (hb hby d2_23)
  have Fw23 := (fc.ext E18).same W23
  have fc_2 := ((Fw14.ext E18).other W23 (Or.inr (slot_ne (Or.inr (hw _ (List.mem_of_getElem? (i := 17) rfl))) (Or.inr (hw _ (List.mem_of_getElem? (i := 18) rfl))) (by decide) (t := (.array .byte)) (t' := .byte) (by decide) (by decide))))
  have fc_3 := (((lC9.other W14 (Or.inl (Ne.symm ne_a1_l9a))).ext E18).other W23 (Or.inl (Ne.symm ne_a1_l9a)))
  have fc_4 := (((lV9.other W14 (Or.inl (Ne.symm ne_a1_l9a))).ext E18).other W23 (Or.inl (Ne.symm ne_a1_l9a)))
  have fc_5 := (((lA9.other W14 (Ne.symm ne_a1_lb9)).ext E18).other W23 (Ne.symm ne_a1_lb9))
  have K23 : Keep h0 h23 [a1] := K18.wr W23 (Or.inl (List.mem_of_getElem? (i := 0) rfl))
  have Z23 : n0 ≤ h23.size := Nat.le_trans Z18 (Keep.of_wr W23).1
  have CC23 := CHr.wr W23 sf18 hC18.1
  have CR23 := CR18.trans CC23
  have N23 := Fr.snoc X23 N14 g_a1
  refine own_by st23 ?_
  obtain ⟨fs, hr, hrun, hended, hW⟩ := X23.leaveW hS18 (by rw [e23]; exact (Nat.le_trans hk18 (Keep.of_wr W23).1)) (v := none) (fun _ => rfl)
  refine ⟨_, _, ?_, hrun, hended, _, _, rfl, ?_, (by rw [hh]; show CHr Z consts_1 s.vm h0 T23.vm T23.heap; rw [e23]; exact CR23.trans (CHv.at X23 hZ18 hEL CC23.1)), hW.1, hW.2.1, hW.2.2.1, hW.2.2.2.mono (by decide) (by decide)⟩
  · exact X23.returnOut hx Bd.returns (hb hby d2_26) hr
  · show Q2e Z a1 a2 h0 n0 _ T23.heap _
    rw [e23]
    exact ⟨rfl, N23, K23, ⟨lb9, _, _, _, _, ((((E_a1.ext E9).wr W14).ext E18).wr W23), fc_2, Fw23, fc_5, Or.inl ⟨rfl, rfl, rfl, by decide⟩, by decide, by decide⟩⟩
theorem d1_0 : decode jdk_42_method_3_code 0 = .ok (.aload_n 0, 1) := by decide +kernel
theorem d1_1 : decode jdk_42_method_3_code 1 = .ok (.aload_n 1, 1) := by decide +kernel
theorem d1_2 : decode jdk_42_method_3_code 2 = .ok (.iconst 0, 1) := by decide +kernel
theorem d1_3 : decode jdk_42_method_3_code 3 = .ok (.aload_n 1, 1) := by decide +kernel
theorem d1_4 : decode jdk_42_method_3_code 4 = .ok (.arraylength, 1) := by decide +kernel
theorem d1_5 : decode jdk_42_method_3_code 5 = .ok (.aconst_null, 1) := by decide +kernel
theorem d1_6 : decode jdk_42_method_3_code 6 = .ok (.invokespecial 27, 3) := by decide +kernel
theorem d1_9 : decode jdk_42_method_3_code 9 = .ok (.return_, 1) := by decide +kernel
theorem pn_1e : plainFor (⟨"java/lang/String", "<init>", "([C)V"⟩ : MethodName) = true := by first | exact plainFor_of_name (by first | (simp [plainName, overriddenIn]; done) | decide +kernel) | decide +kernel | exact Jvm.Free.JP.mathPlain rfl (by decide +kernel)
theorem pd_1_0e : parseMethodDescriptor "([CIILjava/lang/Void;)V" = some ⟨[(.array .char), .int, .int, (.object "java/lang/Void")], none⟩ := by decide +kernel
theorem ef_1e (m : MethodId) (a1 : Addr) (a2 : Addr) : entryFrame m #[(.ref a1), (.ref a2)] 2 = mkF m 0 #[.val (.ref a1), .val (.ref a2)] [] := by first | (simp [entryFrame, mkF, argsToLocals, Value.category]; done) | rfl
def Q1e (Z : State) (a1 : Addr) (a2 : Addr) (cl : Cell) (h0 : Heap) (n0 : Nat) (v : Option Value) (h : Heap) (L : List Loc) : Prop := v = none ∧ Fr n0 L ∧ Keep h0 h [a1] ∧ own_Str Z h a1 []
set_option maxRecDepth 65536 in
set_option maxHeartbeats 40000000 in
theorem rm1e (l : Launch) (Z : State) (a0 : Array Value) (hw : ∀ d ∈ tables_1, d.before a0 Z = true) (ws : List Jvm.Cond) (a1 : Addr) (a2 : Addr) (cl : Cell) (h0 : Heap) (n0 : Nat) (Z0 : n0 ≤ h0.size) (E_a1 : Exa Z h0 a1 "java/lang/String") (F_v : Fld Z h0 a1 "java/lang/String" "value" "[B" .null) (F_c : Fld Z h0 a1 "java/lang/String" "coder" "B" (.int (0 : Int32))) (g_a1 : n0 ≤ a1) (Ar : Arr Z h0 a2 cl .char) (hsz : cl.slots.size = 0) :
    MetFree l (⟨"java/lang/String", "<init>", "([C)V"⟩ : MethodName) (head1 (Jvm.Cond.code (⟨"java/lang/String", "<init>", "([C)V"⟩ : MethodName) jdk_42_method_3_code 2 none :: ws) ({ frames := 2, cells := 4, slots := 8, locals := 29 } : Room)) (fun a U => a = #[(.ref a1), (.ref a2)] ∧ Z.Warmed39 U.vm ∧ U.heap = h0 ∧ CHv Z consts_1 U.vm h0) (fun _ _ _ _ _ => True) (fun _ U o U' => ∃ v L, o = .returned v ∧ Q1e Z a1 a2 cl h0 n0 v U'.heap L ∧ CHr Z consts_1 U.vm U.heap U'.vm U'.heap ∧ ReturnedEndW U o U' L ({ frames := 2, cells := 4, slots := 8, locals := 29 } : Room).cells ({ frames := 2, cells := 4, slots := 8, locals := 29 } : Room).slots) := by
  refine MetFree.of_bodySF pn_1e hisR ?_
  intro p e s m args below meth c s₁ Bd hml0 hP hK
  obtain ⟨rfl, hZ, hh, hH0⟩ := hP
  have hx := Bd.exec
  have hby := Bd.bytes
  have hml : c.maxLocals = 2 := hml0
  have hown : s.vm.findClass "java/lang/String" = some m.cls := findClass_of_methodNamed Bd.named
  have hnm := (name_of_methodNamed Bd.named Bd.method).1
  have X0 : Stand p l e ({ frames := 2, cells := 4, slots := 8, locals := 29 } : Room) (s.setVm s.vm) m #[(.ref a1), (.ref a2)] below meth c s₁ [] 0 0 := Stand.of_body Bd
  have e0 : s₁.heap = h0 := by rw [← hh, Bd.state]; rfl
  have N0 := Fr.nil n0
  have hS0 : s.Since s.vm 0 := (State.WarmedH.refl s).since 0
  refine own_at (castTop (ef_1e m a1 a2)) ?_
  have K0 := Keep.refl h0 [a1]
  have wS : ∀ a ∈ Bundle.stringAtoms, a.before a0 Z = true := fun d hd => hw d ((by decide +kernel : ∀ d ∈ Bundle.stringAtoms, d ∈ tables_1) d hd)
  have hEL : EW _ _ consts_1 := (EW.cons (hw _ (List.mem_of_getElem? (i := 15) rfl)) (by decide) EW.nil)
  have sg6 : ∀ t, own_S p e below s₁ (mkF m 6 #[.val (.ref a1), .val (.ref a2)] [.null, (.int (0 : Int32)), (.int (0 : Int32)), (.ref a2), (.ref a1)]) t → own_S p e below s₁ (mkF m 0 #[.val (.ref a1), .val (.ref a2)] []) t := by
    intro t k
    show own_S p e below s₁ (mkF m 0 #[.val (.ref a1), .val (.ref a2)] []) _
    refine XS.aloadN X0.here hx rfl (hb hby d1_0) rfl rfl ?_
    show own_S p e below s₁ (mkF m 1 #[.val (.ref a1), .val (.ref a2)] [(.ref a1)]) _
    refine XS.aloadN X0.here hx rfl (hb hby d1_1) rfl rfl ?_
    show own_S p e below s₁ (mkF m 2 #[.val (.ref a1), .val (.ref a2)] [(.ref a2), (.ref a1)]) _
    refine XS.iconst X0.here hx rfl (hb hby d1_2) ?_
    show own_S p e below s₁ (mkF m 3 #[.val (.ref a1), .val (.ref a2)] [(.int (0 : Int32)), (.ref a2), (.ref a1)]) _
    refine XS.aloadN X0.here hx rfl (hb hby d1_3) rfl rfl ?_
    show own_S p e below s₁ (mkF m 4 #[.val (.ref a1), .val (.ref a2)] [(.ref a2), (.int (0 : Int32)), (.ref a2), (.ref a1)]) _
    refine X0.arraylength hx (by rw [e0]; exact Ar.1) (State.isArrayOf_alike hZ.alike Ar.2.1) (g := (mkF m 4 #[.val (.ref a1), .val (.ref a2)] [(.ref a2), (.int (0 : Int32)), (.ref a2), (.ref a1)])) rfl rfl (hb hby d1_4) _ ?_
    rw [hsz]
    show own_S p e below s₁ (mkF m 5 #[.val (.ref a1), .val (.ref a2)] [(.int (0 : Int32)), (.int (0 : Int32)), (.ref a2), (.ref a1)]) _
    refine XS.aconstNull X0.here hx rfl (hb hby d1_5) ?_
    exact k
  refine own_by sg6 ?_
  obtain ⟨_, _, ⟨T6, L6, k6, n6⟩, -, Xc6, hSc6, hgc6, ⟨Lc6, hQ6, l6, y6, z6, hC6⟩, st6⟩ := X0.specialBackS hx (y := (⟨"java/lang/String", "<init>", "([CIILjava/lang/Void;)V"⟩ : MethodName)) rfl hown (mvT hZ (hw _ (List.mem_of_getElem? (i := 8) rfl))) (mvT hZ (hw _ (List.mem_of_getElem? (i := 9) rfl))) (mvT hZ (hw _ (List.mem_of_getElem? (i := 11) rfl))) (by decide) (backOfSH (W := 0) (rm2e l Z a0 hw [] a1 a2 h0 n0 Z0 E_a1 F_v F_c g_a1) hZ (hw _ (List.mem_of_getElem? (i := 11) rfl)) (hw _ (List.mem_of_getElem? (i := 3) rfl)) (by decide) (by decide) hEL hH0) (g := (mkF m 6 #[.val (.ref a1), .val (.ref a2)] [.null, (.int (0 : Int32)), (.int (0 : Int32)), (.ref a2), (.ref a1)])) rfl (by rw [hml]; rfl) (Steps.refl _) (a := a1) (argsL := [(.ref a2), (.int (0 : Int32)), (.int (0 : Int32)), .null]) (rest := []) (lenOf pd_1_0e rfl) rfl (by show 2 * 0 + _ ≤ _; exact Nat.le_of_eq rfl) (hb hby d1_6) (fun _ _ => ⟨rfl, e0, (by decide : 0 + 4 ≤ _), (by decide : 0 + 8 ≤ _)⟩)
  dsimp only [Pt.U, Pt.locs, Pt.cells, Pt.slots] at Xc6 hSc6 hgc6
  obtain ⟨X6, hS6, hZ6, hown6⟩ := rebS hS0 (by rw [e0]; exact (Nat.zero_le _)) Xc6 hSc6 hgc6 hZ hown
  dsimp only [Pt.U, Pt.locs, Pt.cells, Pt.slots] at X6 l6 y6 z6 st6 hQ6
  subst l6 y6 z6
  obtain ⟨rfl, N6q, Kq6, Sq6⟩ := hQ6
  have N6 := Fr.app N0 N6q
  have K6 : Keep h0 T6.heap [a1] := K0.trans Kq6 (fun x hx => by cases List.mem_singleton.mp hx; exact Or.inl (List.mem_of_getElem? (i := 0) rfl))
  have Z6 : n0 ≤ T6.heap.size := Nat.le_trans Z0 Kq6.1
  have CR6 := (CHr.refl hH0).trans hC6
  refine own_by (fun t k => st6.trans k) ?_
  obtain ⟨fs, hr, hrun, hended, hW⟩ := X6.leaveW hS6 (Nat.le_refl _) (v := none) (fun _ => rfl)
  refine ⟨_, _, ?_, hrun, hended, _, _, rfl, ?_, (by rw [hh]; show CHr Z consts_1 s.vm h0 T6.vm T6.heap; exact CR6.trans (CHv.at X6 hZ6 hEL hC6.1)), hW.1, hW.2.1, hW.2.2.1, hW.2.2.2.mono (by decide) (by decide)⟩
  · exact X6.returnOut hx Bd.returns (hb hby d1_9) hr
  · show Q1e Z a1 a2 cl h0 n0 _ T6.heap _
    exact ⟨rfl, N6, K6, Sq6⟩
theorem pn_0 : plainFor x = true := by first | exact plainFor_of_name (by first | (simp [plainName, overriddenIn]; done) | decide +kernel) | decide +kernel | exact Jvm.Free.JP.mathPlain rfl (by decide +kernel)
theorem pd_0_0 : parseMethodDescriptor "([C)V" = some ⟨[(.array .char)], none⟩ := by decide +kernel
theorem pd_0_1 : parseMethodDescriptor "(Ljava/lang/String;)Z" = some ⟨[(.object "java/lang/String")], some .boolean⟩ := by decide +kernel
theorem pd_0_2 : parseMethodDescriptor "(C)Z" = some ⟨[.char], some .boolean⟩ := by decide +kernel
theorem ef_0 (m : MethodId) (p0 : Int32) (p1 : Int32) (p2 : Int32) (p3 : Int32) (p4 : Int32) : entryFrame m #[(.int p0), (.int p1), (.int p2), (.int p3), (.int p4)] maxLocals = mkF m 0 #[.val (.int p0), .val (.int p1), .val (.int p2), .val (.int p3), .val (.int p4), .unset, .unset, .unset, .unset, .unset, .unset, .unset] [] := by first | (simp [entryFrame, mkF, argsToLocals, Value.category, maxLocals]; done) | rfl
def Q0 (Z : State) (p0 : Int32) (p1 : Int32) (p2 : Int32) (p3 : Int32) (p4 : Int32) (gz : Int32) (h0 : Heap) (n0 : Nat) (v : Option Value) (h : Heap) (L : List Loc) : Prop := v = some (.int 1) ∧ Fr n0 L
set_option maxRecDepth 65536 in
set_option maxHeartbeats 40000000 in
theorem rm0 (l : Launch) (Z : State) (a0 : Array Value) (hw : ∀ d ∈ tables_1, d.before a0 Z = true) (ws : List Jvm.Cond) (p0 : Int32) (p1 : Int32) (p2 : Int32) (p3 : Int32) (p4 : Int32) (gz : Int32) (h0 : Heap) (n0 : Nat) (Z0 : n0 ≤ h0.size) (O : Old Z n0 h0) (O2 : Sta Z Z.heap "java/lang/String" "COMPACT_STRINGS" "Z" (.int gz)) (P5 : ¬ (gz = (0 : Int32))) :
    MetFree l x (head1 (Jvm.Cond.code x code maxLocals ret :: ws) room_1) (fun a U => a = #[(.int p0), (.int p1), (.int p2), (.int p3), (.int p4)] ∧ Z.Warmed39 U.vm ∧ U.heap = h0 ∧ CHv Z consts_1 U.vm h0) (fun _ _ _ _ _ => True) (fun _ U o U' => ∃ v L, o = .returned v ∧ Q0 Z p0 p1 p2 p3 p4 gz h0 n0 v U'.heap L ∧ CHr Z consts_1 U.vm U.heap U'.vm U'.heap ∧ ReturnedEndW U o U' L room_1.cells room_1.slots) := by
  refine MetFree.of_bodySF pn_0 hisR ?_
  intro p e s m args below meth c s₁ Bd hml0 hP hK
  obtain ⟨rfl, hZ, hh, hH0⟩ := hP
  have hx := Bd.exec
  have hby := Bd.bytes
  have hml : c.maxLocals = 12 := hml0
  have hown : s.vm.findClass "com/example/spojka/spojka/PathPatternHoldsWildcardsPinLaw" = some m.cls := findClass_of_methodNamed Bd.named
  have hnm := (name_of_methodNamed Bd.named Bd.method).1
  have X0 : Stand p l e room_1 (s.setVm s.vm) m #[(.int p0), (.int p1), (.int p2), (.int p3), (.int p4)] below meth c s₁ [] 0 0 := Stand.of_body Bd
  have e0 : s₁.heap = h0 := by rw [← hh, Bd.state]; rfl
  have N0 := Fr.nil n0
  have hS0 : s.Since s.vm 0 := (State.WarmedH.refl s).since 0
  refine own_at (castTop (ef_0 m p0 p1 p2 p3 p4)) ?_
  have K0 := Keep.refl h0 []
  have hws : ∀ d ∈ StrChars.Road.words, d.before a0 Z = true := fun d hd => hw d ((by decide +kernel : ∀ d ∈ StrChars.Road.words, d ∈ tables_1) d hd)
  have wS : ∀ a ∈ Bundle.stringAtoms, a.before a0 Z = true := fun d hd => hw d ((by decide +kernel : ∀ d ∈ Bundle.stringAtoms, d ∈ tables_1) d hd)
  have hEL : EW _ _ consts_1 := (EW.cons (hw _ (List.mem_of_getElem? (i := 15) rfl)) (by decide) EW.nil)
  obtain ⟨v6, hv6⟩ : ∃ z : Int32, z = ((p0 &&& (2147483647 : Int32)) % (5 : Int32)) := ⟨_, rfl⟩
  have sg6 : ∀ t, own_S p e below s₁ (mkF m 6 (own_AIIIIIUUUUUUU p0 p1 p2 p3 p4) [(.int v6)]) t → own_S p e below s₁ (mkF m 0 (own_AIIIIIUUUUUUU p0 p1 p2 p3 p4) []) t := by
    intro t k
    rw [hv6] at k
    show own_S p e below s₁ (mkF m 0 (own_AIIIIIUUUUUUU p0 p1 p2 p3 p4) []) _
    refine XS.iloadN X0.here hx rfl (hb hby at_0) rfl ?_
    show own_S p e below s₁ (mkF m 1 (own_AIIIIIUUUUUUU p0 p1 p2 p3 p4) [(.int p0)]) _
    refine X0.ldcInt hx hown (mvT hZ (hw _ (List.mem_of_getElem? (i := 0) rfl))) (g := (mkF m 1 (own_AIIIIIUUUUUUU p0 p1 p2 p3 p4) [(.int p0)])) rfl (hb hby at_1) _ ?_
    show own_S p e below s₁ (mkF m 3 (own_AIIIIIUUUUUUU p0 p1 p2 p3 p4) [(.int (2147483647 : Int32)), (.int p0)]) _
    refine XS.iand X0.here hx rfl (hb hby at_3) rfl ?_
    show own_S p e below s₁ (mkF m 4 (own_AIIIIIUUUUUUU p0 p1 p2 p3 p4) [(.int (p0 &&& (2147483647 : Int32)))]) _
    refine XS.iconst X0.here hx rfl (hb hby at_4) ?_
    show own_S p e below s₁ (mkF m 5 (own_AIIIIIUUUUUUU p0 p1 p2 p3 p4) [(.int (5 : Int32)), (.int (p0 &&& (2147483647 : Int32)))]) _
    refine iremM X0 hx rfl (hb hby at_5) rfl (by decide) ?_
    exact k
  refine own_by sg6 ?_
  obtain ⟨v14, hv14⟩ : ∃ z : Int32, z = ((p1 &&& (255 : Int32)).toUInt32.toUInt16.toUInt32.toInt32) := ⟨_, rfl⟩
  have hk_v14 : ¬ v14 < 0 ∧ ¬ (255 : Int32) < v14 := by rw [hv14]; exact own_c255 _
  have sg14 : ∀ t, own_S p e below s₁ (mkF m 14 (own_AIIIIIIUUUUUU p0 p1 p2 p3 p4 v6) [(.int v14)]) t → own_S p e below s₁ (mkF m 6 (own_AIIIIIUUUUUUU p0 p1 p2 p3 p4) [(.int v6)]) t := by
    intro t k
    rw [hv14] at k
    show own_S p e below s₁ (mkF m 6 (own_AIIIIIUUUUUUU p0 p1 p2 p3 p4) [(.int v6)]) _
    refine XS.istore X0.here hx rfl (hb hby at_6) rfl (l' := (own_AIIIIIIUUUUUU p0 p1 p2 p3 p4 v6)) rfl ?_
    show own_S p e below s₁ (mkF m 8 (own_AIIIIIIUUUUUU p0 p1 p2 p3 p4 v6) []) _
    refine XS.iloadN X0.here hx rfl (hb hby at_8) rfl ?_
    show own_S p e below s₁ (mkF m 9 (own_AIIIIIIUUUUUU p0 p1 p2 p3 p4 v6) [(.int p1)]) _
    refine XS.sipush X0.here hx rfl (hb hby at_9) ?_
    show own_S p e below s₁ (mkF m 12 (own_AIIIIIIUUUUUU p0 p1 p2 p3 p4 v6) [(.int (255 : Int32)), (.int p1)]) _
    refine XS.iand X0.here hx rfl (hb hby at_12) rfl ?_
    show own_S p e below s₁ (mkF m 13 (own_AIIIIIIUUUUUU p0 p1 p2 p3 p4 v6) [(.int (p1 &&& (255 : Int32)))]) _
    refine XS.i2c X0.here hx rfl (hb hby at_13) rfl ?_
    exact k
  refine own_by sg14 ?_
  obtain ⟨v22, hv22⟩ : ∃ z : Int32, z = ((p2 &&& (255 : Int32)).toUInt32.toUInt16.toUInt32.toInt32) := ⟨_, rfl⟩
  have hk_v22 : ¬ v22 < 0 ∧ ¬ (255 : Int32) < v22 := by rw [hv22]; exact own_c255 _
  have sg22 : ∀ t, own_S p e below s₁ (mkF m 22 (own_AIIIIIIIUUUUU p0 p1 p2 p3 p4 v6 v14) [(.int v22)]) t → own_S p e below s₁ (mkF m 14 (own_AIIIIIIUUUUUU p0 p1 p2 p3 p4 v6) [(.int v14)]) t := by
    intro t k
    rw [hv22] at k
    show own_S p e below s₁ (mkF m 14 (own_AIIIIIIUUUUUU p0 p1 p2 p3 p4 v6) [(.int v14)]) _
    refine XS.istore X0.here hx rfl (hb hby at_14) rfl (l' := (own_AIIIIIIIUUUUU p0 p1 p2 p3 p4 v6 v14)) rfl ?_
    show own_S p e below s₁ (mkF m 16 (own_AIIIIIIIUUUUU p0 p1 p2 p3 p4 v6 v14) []) _
    refine XS.iloadN X0.here hx rfl (hb hby at_16) rfl ?_
    show own_S p e below s₁ (mkF m 17 (own_AIIIIIIIUUUUU p0 p1 p2 p3 p4 v6 v14) [(.int p2)]) _
    refine XS.sipush X0.here hx rfl (hb hby at_17) ?_
    show own_S p e below s₁ (mkF m 20 (own_AIIIIIIIUUUUU p0 p1 p2 p3 p4 v6 v14) [(.int (255 : Int32)), (.int p2)]) _
    refine XS.iand X0.here hx rfl (hb hby at_20) rfl ?_
    show own_S p e below s₁ (mkF m 21 (own_AIIIIIIIUUUUU p0 p1 p2 p3 p4 v6 v14) [(.int (p2 &&& (255 : Int32)))]) _
    refine XS.i2c X0.here hx rfl (hb hby at_21) rfl ?_
    exact k
  refine own_by sg22 ?_
  obtain ⟨v30, hv30⟩ : ∃ z : Int32, z = ((p3 &&& (255 : Int32)).toUInt32.toUInt16.toUInt32.toInt32) := ⟨_, rfl⟩
  have hk_v30 : ¬ v30 < 0 ∧ ¬ (255 : Int32) < v30 := by rw [hv30]; exact own_c255 _
  have sg30 : ∀ t, own_S p e below s₁ (mkF m 30 (own_AIIIIIIIIUUUU p0 p1 p2 p3 p4 v6 v14 v22) [(.int v30)]) t → own_S p e below s₁ (mkF m 22 (own_AIIIIIIIUUUUU p0 p1 p2 p3 p4 v6 v14) [(.int v22)]) t := by
    intro t k
    rw [hv30] at k
    show own_S p e below s₁ (mkF m 22 (own_AIIIIIIIUUUUU p0 p1 p2 p3 p4 v6 v14) [(.int v22)]) _
    refine XS.istore X0.here hx rfl (hb hby at_22) rfl (l' := (own_AIIIIIIIIUUUU p0 p1 p2 p3 p4 v6 v14 v22)) rfl ?_
    show own_S p e below s₁ (mkF m 24 (own_AIIIIIIIIUUUU p0 p1 p2 p3 p4 v6 v14 v22) []) _
    refine XS.iloadN X0.here hx rfl (hb hby at_24) rfl ?_
    show own_S p e below s₁ (mkF m 25 (own_AIIIIIIIIUUUU p0 p1 p2 p3 p4 v6 v14 v22) [(.int p3)]) _
    refine XS.sipush X0.here hx rfl (hb hby at_25) ?_
    show own_S p e below s₁ (mkF m 28 (own_AIIIIIIIIUUUU p0 p1 p2 p3 p4 v6 v14 v22) [(.int (255 : Int32)), (.int p3)]) _
    refine XS.iand X0.here hx rfl (hb hby at_28) rfl ?_
    show own_S p e below s₁ (mkF m 29 (own_AIIIIIIIIUUUU p0 p1 p2 p3 p4 v6 v14 v22) [(.int (p3 &&& (255 : Int32)))]) _
    refine XS.i2c X0.here hx rfl (hb hby at_29) rfl ?_
    exact k
  refine own_by sg30 ?_
  obtain ⟨v39, hv39⟩ : ∃ z : Int32, z = ((p4 &&& (255 : Int32)).toUInt32.toUInt16.toUInt32.toInt32) := ⟨_, rfl⟩
  have hk_v39 : ¬ v39 < 0 ∧ ¬ (255 : Int32) < v39 := by rw [hv39]; exact own_c255 _
  have sg39 : ∀ t, own_S p e below s₁ (mkF m 39 (own_AIIIIIIIIIUUU p0 p1 p2 p3 p4 v6 v14 v22 v30) [(.int v39)]) t → own_S p e below s₁ (mkF m 30 (own_AIIIIIIIIUUUU p0 p1 p2 p3 p4 v6 v14 v22) [(.int v30)]) t := by
    intro t k
    rw [hv39] at k
    show own_S p e below s₁ (mkF m 30 (own_AIIIIIIIIUUUU p0 p1 p2 p3 p4 v6 v14 v22) [(.int v30)]) _
    refine XS.istore X0.here hx rfl (hb hby at_30) rfl (l' := (own_AIIIIIIIIIUUU p0 p1 p2 p3 p4 v6 v14 v22 v30)) rfl ?_
    show own_S p e below s₁ (mkF m 32 (own_AIIIIIIIIIUUU p0 p1 p2 p3 p4 v6 v14 v22 v30) []) _
    refine XS.iload X0.here hx rfl (hb hby at_32) rfl ?_
    show own_S p e below s₁ (mkF m 34 (own_AIIIIIIIIIUUU p0 p1 p2 p3 p4 v6 v14 v22 v30) [(.int p4)]) _
    refine XS.sipush X0.here hx rfl (hb hby at_34) ?_
    show own_S p e below s₁ (mkF m 37 (own_AIIIIIIIIIUUU p0 p1 p2 p3 p4 v6 v14 v22 v30) [(.int (255 : Int32)), (.int p4)]) _
    refine XS.iand X0.here hx rfl (hb hby at_37) rfl ?_
    show own_S p e below s₁ (mkF m 38 (own_AIIIIIIIIIUUU p0 p1 p2 p3 p4 v6 v14 v22 v30) [(.int (p4 &&& (255 : Int32)))]) _
    refine XS.i2c X0.here hx rfl (hb hby at_38) rfl ?_
    exact k
  refine own_by sg39 ?_
  have sg43 : ∀ t, own_S p e below s₁ (mkF m 43 (own_AIIIIIIIIIIUU p0 p1 p2 p3 p4 v6 v14 v22 v30 v39) [(.int v6)]) t → own_S p e below s₁ (mkF m 39 (own_AIIIIIIIIIUUU p0 p1 p2 p3 p4 v6 v14 v22 v30) [(.int v39)]) t := by
    intro t k
    show own_S p e below s₁ (mkF m 39 (own_AIIIIIIIIIUUU p0 p1 p2 p3 p4 v6 v14 v22 v30) [(.int v39)]) _
    refine XS.istore X0.here hx rfl (hb hby at_39) rfl (l' := (own_AIIIIIIIIIIUU p0 p1 p2 p3 p4 v6 v14 v22 v30 v39)) rfl ?_
    show own_S p e below s₁ (mkF m 41 (own_AIIIIIIIIIIUU p0 p1 p2 p3 p4 v6 v14 v22 v30 v39) []) _
    refine XS.iload X0.here hx rfl (hb hby at_41) rfl ?_
    exact k
  refine own_by sg43 ?_
  by_cases hc43 : v6 = (0 : Int32)
  · have sg46 : ∀ t, own_S p e below s₁ (mkF m 46 (own_AIIIIIIIIIIUU p0 p1 p2 p3 p4 v6 v14 v22 v30 v39) []) t → own_S p e below s₁ (mkF m 43 (own_AIIIIIIIIIIUU p0 p1 p2 p3 p4 v6 v14 v22 v30 v39) [(.int v6)]) t := by
      intro t k
      show own_S p e below s₁ (mkF m 43 (own_AIIIIIIIIIIUU p0 p1 p2 p3 p4 v6 v14 v22 v30 v39) [(.int v6)]) _
      refine XS.ifNo X0.here hx rfl (hb hby at_43) rfl ((if0 _ _).trans (teq hc43).2) ?_
      exact k
    refine own_by sg46 ?_
    obtain ⟨T46, h46, X46, e46, E46, A46, D46, -, st46⟩ := newO X0 hx hZ hown (hw _ (List.mem_of_getElem? (i := 1) rfl)) (hw _ (List.mem_of_getElem? (i := 2) rfl)) (hw _ (List.mem_of_getElem? (i := 3) rfl)) e0 (g := (mkF m 46 (own_AIIIIIIIIIIUU p0 p1 p2 p3 p4 v6 v14 v22 v30 v39) [])) rfl (hb hby at_46) (by decide) (by decide)
    obtain ⟨b46, g46⟩ : ∃ z, z = h0.size := ⟨_, rfl⟩
    rw [← g46] at A46 D46 st46
    have g_b46 : n0 ≤ b46 := Nat.le_trans Z0 (Nat.le_of_eq g46.symm)
    have sz_b46 : h0.size ≤ b46 := Nat.le_trans K0.1 (Nat.le_of_eq g46.symm)
    have K46 := K0.ext E46
    have Z46 : n0 ≤ h46.size := Nat.le_trans Z0 E46.1
    have CC46 := CHr.ext E46 hH0
    have CR46 := (CHr.refl hH0).trans CC46
    have F_value_b46 : Fld Z h46 b46 "java/lang/String" "value" "[B" .null := D46 (Or.inr (hw _ (List.mem_of_getElem? (i := 17) rfl))) (ty := (.array .byte)) (by decide)
    have F_coder_b46 : Fld Z h46 b46 "java/lang/String" "coder" "B" (.int (0 : Int32)) := D46 (Or.inr (hw _ (List.mem_of_getElem? (i := 18) rfl))) (ty := .byte) (by decide)
    refine own_by st46 ?_
    have sg51 : ∀ t, own_S p e below T46 (mkF m 51 (own_AIIIIIIIIIIUU p0 p1 p2 p3 p4 v6 v14 v22 v30 v39) [(.int (0 : Int32)), (.ref b46), (.ref b46)]) t → own_S p e below T46 (mkF m 49 (own_AIIIIIIIIIIUU p0 p1 p2 p3 p4 v6 v14 v22 v30 v39) [(.ref b46)]) t := by
      intro t k
      show own_S p e below T46 (mkF m 49 (own_AIIIIIIIIIIUU p0 p1 p2 p3 p4 v6 v14 v22 v30 v39) [(.ref b46)]) _
      refine XS.dup X46.here hx rfl (hb hby at_49) rfl rfl ?_
      show own_S p e below T46 (mkF m 50 (own_AIIIIIIIIIIUU p0 p1 p2 p3 p4 v6 v14 v22 v30 v39) [(.ref b46), (.ref b46)]) _
      refine XS.iconst X46.here hx rfl (hb hby at_50) ?_
      exact k
    refine own_by sg51 ?_
    obtain ⟨T51, h51, kc51, X51, e51, E51, A51, st51⟩ := newP X46 hx hZ (hw _ (List.mem_of_getElem? (i := 4) rfl)) e46 (g := (mkF m 51 (own_AIIIIIIIIIIUU p0 p1 p2 p3 p4 v6 v14 v22 v30 v39) [(.int (0 : Int32)), (.ref b46), (.ref b46)])) rfl (hb hby at_51) rfl (by decide) (cap := 0) (by decide) (by decide) (by decide) (by decide)
    obtain ⟨b51, g51⟩ : ∃ z, z = h46.size := ⟨_, rfl⟩
    rw [← g51] at A51 st51
    have ne_b46_b51 : b46 ≠ b51 := Nat.ne_of_lt (Nat.lt_of_lt_of_le A46.lt (Nat.le_of_eq g51.symm))
    have g_b51 : n0 ≤ b51 := Nat.le_trans Z46 (Nat.le_of_eq g51.symm)
    have sz_b51 : h0.size ≤ b51 := Nat.le_trans K46.1 (Nat.le_of_eq g51.symm)
    have K51 := K46.ext E51
    have Z51 : n0 ≤ h51.size := Nat.le_trans Z46 E51.1
    have CC51 := CHr.ext E51 CC46.1
    have CR51 := CR46.trans CC51
    have V51 : Arv Z h51 b51 kc51 .char (0 : Int32) [] (.int (0 : Int32)) := Arv.new A51 (by decide)
    refine own_by st51 ?_
    have hn0 : v6 = (0 : Int32) := hc43
    obtain ⟨cz53, Arz53, -, Sz53, -⟩ := id V51
    have Hz53 : cz53.slots.size = 0 := Sz53
    obtain ⟨_, _, ⟨T53, L53, k53, n53⟩, -, Xc53, hSc53, hgc53, ⟨Lc53, hQ53, l53, y53, z53, hC53⟩, st53⟩ := X51.specialBackS hx (y := (⟨"java/lang/String", "<init>", "([C)V"⟩ : MethodName)) rfl hown (mvT hZ (hw _ (List.mem_of_getElem? (i := 5) rfl))) (mvT hZ (hw _ (List.mem_of_getElem? (i := 6) rfl))) (mvT hZ (hw _ (List.mem_of_getElem? (i := 7) rfl))) (by decide) (backOfSH (W := 1) (rm1e l Z a0 hw [] b46 b51 cz53 h51 n0 Z51 (A46.ext E51) (F_value_b46.ext E51) (F_coder_b46.ext E51) g_b46 Arz53 Hz53) hZ (hw _ (List.mem_of_getElem? (i := 7) rfl)) (hw _ (List.mem_of_getElem? (i := 3) rfl)) (by decide) (by decide) hEL CC51.1) (g := (mkF m 53 (own_AIIIIIIIIIIUU p0 p1 p2 p3 p4 v6 v14 v22 v30 v39) [(.ref b51), (.ref b46), (.ref b46)])) rfl (by rw [hml]; rfl) (Steps.refl _) (a := b46) (argsL := [(.ref b51)]) (rest := [(.ref b46)]) (lenOf pd_0_0 rfl) rfl (by show 2 * 0 + _ ≤ _; exact Nat.le_of_eq rfl) (hb hby at_53) (fun _ _ => ⟨rfl, e51, (by decide : 2 + 4 ≤ _), (by decide : 4 + 8 ≤ _)⟩)
    dsimp only [Pt.U, Pt.locs, Pt.cells, Pt.slots] at Xc53 hSc53 hgc53
    obtain ⟨X53, hS53, hZ53, hown53⟩ := rebS hS0 (by rw [e51]; exact (Nat.le_trans (Nat.le_trans (Nat.zero_le _) E46.1) E51.1)) Xc53 hSc53 hgc53 hZ hown
    dsimp only [Pt.U, Pt.locs, Pt.cells, Pt.slots] at X53 l53 y53 z53 st53 hQ53
    subst l53 y53 z53
    obtain ⟨rfl, N53q, Kq53, Sq53⟩ := hQ53
    have N53 := Fr.app N0 N53q
    have fc := (V51.keep Kq53 (fun h => (Ne.symm ne_b46_b51) (List.mem_singleton.mp h)))
    have K53 : Keep h0 T53.heap [] := K51.trans Kq53 (fun x hx => by cases List.mem_singleton.mp hx; exact Or.inr sz_b46)
    have Z53 : n0 ≤ T53.heap.size := Nat.le_trans Z51 Kq53.1
    have CR53 := CR51.trans hC53
    refine own_by (fun t k => st53.trans k) ?_
    have sg186 : ∀ t, own_S p e below T53 (mkF m 186 (own_AIIIIIIIIIIRU p0 p1 p2 p3 p4 v6 v14 v22 v30 v39 b46) []) t → own_S p e below T53 (mkF m 56 (own_AIIIIIIIIIIUU p0 p1 p2 p3 p4 v6 v14 v22 v30 v39) [(.ref b46)]) t := by
      intro t k
      show own_S p e below T53 (mkF m 56 (own_AIIIIIIIIIIUU p0 p1 p2 p3 p4 v6 v14 v22 v30 v39) [(.ref b46)]) _
      refine XS.astore X53.here hx rfl (hb hby at_56) rfl rfl (l' := (own_AIIIIIIIIIIRU p0 p1 p2 p3 p4 v6 v14 v22 v30 v39 b46)) rfl ?_
      show own_S p e below T53 (mkF m 58 (own_AIIIIIIIIIIRU p0 p1 p2 p3 p4 v6 v14 v22 v30 v39 b46) []) _
      refine XS.goto X53.here hx rfl (pc0 := 58) (pc' := 186) rfl (hb hby at_58) (by decide) (by decide) ?_
      exact k
    refine own_by sg186 ?_
    have str186 : ∀ t, own_S p e below T53 (mkF m 246 (own_AIIIIIIIIIIRU p0 p1 p2 p3 p4 v6 v14 v22 v30 v39 b46) [(.int (0 : Int32))]) t → own_S p e below T53 (mkF m 186 (own_AIIIIIIIIIIRU p0 p1 p2 p3 p4 v6 v14 v22 v30 v39 b46) []) t := by
      have sg246 : ∀ t, own_S p e below T53 (mkF m 246 (own_AIIIIIIIIIIRU p0 p1 p2 p3 p4 v6 v14 v22 v30 v39 b46) [(.int (0 : Int32))]) t → own_S p e below T53 (mkF m 186 (own_AIIIIIIIIIIRU p0 p1 p2 p3 p4 v6 v14 v22 v30 v39 b46) []) t := by
        intro t k
        show own_S p e below T53 (mkF m 186 (own_AIIIIIIIIIIRU p0 p1 p2 p3 p4 v6 v14 v22 v30 v39 b46) []) _
        refine XS.iload X53.here hx rfl (hb hby at_186) rfl ?_
        show own_S p e below T53 (mkF m 188 (own_AIIIIIIIIIIRU p0 p1 p2 p3 p4 v6 v14 v22 v30 v39 b46) [(.int v6)]) _
        refine XS.ifYes X53.here hx rfl (pc0 := 188) (pc' := 199) rfl (hb hby at_188) rfl ((if0 _ _).trans (flt (by rw [hn0]; decide : ¬ ((0 : Int32) < v6))).2.2.2) (by decide) (by decide) ?_
        show own_S p e below T53 (mkF m 199 (own_AIIIIIIIIIIRU p0 p1 p2 p3 p4 v6 v14 v22 v30 v39 b46) []) _
        refine XS.iload X53.here hx rfl (hb hby at_199) rfl ?_
        show own_S p e below T53 (mkF m 201 (own_AIIIIIIIIIIRU p0 p1 p2 p3 p4 v6 v14 v22 v30 v39 b46) [(.int v6)]) _
        refine XS.iconst X53.here hx rfl (hb hby at_201) ?_
        show own_S p e below T53 (mkF m 202 (own_AIIIIIIIIIIRU p0 p1 p2 p3 p4 v6 v14 v22 v30 v39 b46) [(.int (1 : Int32)), (.int v6)]) _
        refine XS.icmpYes X53.here hx rfl (pc0 := 202) (pc' := 213) rfl (hb hby at_202) rfl (flt (by rw [hn0]; decide : ¬ ((1 : Int32) < v6))).2.2.2 (by decide) (by decide) ?_
        show own_S p e below T53 (mkF m 213 (own_AIIIIIIIIIIRU p0 p1 p2 p3 p4 v6 v14 v22 v30 v39 b46) []) _
        refine XS.iload X53.here hx rfl (hb hby at_213) rfl ?_
        show own_S p e below T53 (mkF m 215 (own_AIIIIIIIIIIRU p0 p1 p2 p3 p4 v6 v14 v22 v30 v39 b46) [(.int v6)]) _
        refine XS.iconst X53.here hx rfl (hb hby at_215) ?_
        show own_S p e below T53 (mkF m 216 (own_AIIIIIIIIIIRU p0 p1 p2 p3 p4 v6 v14 v22 v30 v39 b46) [(.int (2 : Int32)), (.int v6)]) _
        refine XS.icmpYes X53.here hx rfl (pc0 := 216) (pc' := 227) rfl (hb hby at_216) rfl (flt (by rw [hn0]; decide : ¬ ((2 : Int32) < v6))).2.2.2 (by decide) (by decide) ?_
        show own_S p e below T53 (mkF m 227 (own_AIIIIIIIIIIRU p0 p1 p2 p3 p4 v6 v14 v22 v30 v39 b46) []) _
        refine XS.iload X53.here hx rfl (hb hby at_227) rfl ?_
        show own_S p e below T53 (mkF m 229 (own_AIIIIIIIIIIRU p0 p1 p2 p3 p4 v6 v14 v22 v30 v39 b46) [(.int v6)]) _
        refine XS.iconst X53.here hx rfl (hb hby at_229) ?_
        show own_S p e below T53 (mkF m 230 (own_AIIIIIIIIIIRU p0 p1 p2 p3 p4 v6 v14 v22 v30 v39 b46) [(.int (3 : Int32)), (.int v6)]) _
        refine XS.icmpYes X53.here hx rfl (pc0 := 230) (pc' := 245) rfl (hb hby at_230) rfl (flt (by rw [hn0]; decide : ¬ ((3 : Int32) < v6))).2.2.2 (by decide) (by decide) ?_
        show own_S p e below T53 (mkF m 245 (own_AIIIIIIIIIIRU p0 p1 p2 p3 p4 v6 v14 v22 v30 v39 b46) []) _
        refine XS.iconst X53.here hx rfl (hb hby at_245) ?_
        exact k
      exact fun t k => (sg246 t k)
    refine own_by str186 ?_
    have sg250 : ∀ t, own_S p e below T53 (mkF m 250 (own_AIIIIIIIIIIRI p0 p1 p2 p3 p4 v6 v14 v22 v30 v39 b46 (0 : Int32)) [(.ref b46)]) t → own_S p e below T53 (mkF m 246 (own_AIIIIIIIIIIRU p0 p1 p2 p3 p4 v6 v14 v22 v30 v39 b46) [(.int (0 : Int32))]) t := by
      intro t k
      show own_S p e below T53 (mkF m 246 (own_AIIIIIIIIIIRU p0 p1 p2 p3 p4 v6 v14 v22 v30 v39 b46) [(.int (0 : Int32))]) _
      refine XS.istore X53.here hx rfl (hb hby at_246) rfl (l' := (own_AIIIIIIIIIIRI p0 p1 p2 p3 p4 v6 v14 v22 v30 v39 b46 (0 : Int32))) rfl ?_
      show own_S p e below T53 (mkF m 248 (own_AIIIIIIIIIIRI p0 p1 p2 p3 p4 v6 v14 v22 v30 v39 b46 (0 : Int32)) []) _
      refine XS.aload X53.here hx rfl (hb hby at_248) rfl rfl ?_
      exact k
    refine own_by sg250 ?_
    obtain ⟨tE, kE, dE, nE, vE, eE, fE, gE, aE, hE, -, -⟩ := Sq53
    obtain ⟨rfl, rfl, rfl⟩ := own_cod0 hE
    obtain ⟨_, _, ⟨T250, L250, k250, n250⟩, -, X250, ⟨Lc250, hQ250, l250, y250, z250⟩, st250⟩ := Jvm.LawKit.callS X53 hx (y := (⟨"com/example/spojka/spojka/PathPattern", "holdsWildcards", "(Ljava/lang/String;)Z"⟩ : MethodName)) hown53 (mvT hZ53 (hw _ (List.mem_of_getElem? (i := 23) rfl))) (mvT hZ53 (hw _ (List.mem_of_getElem? (i := 24) rfl))) (mvT hZ53 (hw _ (List.mem_of_getElem? (i := 25) rfl))) (mvT hZ53 (hw _ (List.mem_of_getElem? (i := 26) rfl))) (by decide) (backOf (W := 0) (rm4 l Z a0 hw [] b46 tE kE [] gz T53.heap n0 Z53 eE fE gE aE (fun c hc => nomatch hc) (by decide) (O2.ext (((O.ext E46).ext E51).keep Kq53 (allS g_b46 all0)).2) P5) hZ53 (hw _ (List.mem_of_getElem? (i := 26) rfl)) (hw _ (List.mem_of_getElem? (i := 25) rfl)) (by decide) (by decide)) (g := (mkF m 250 (own_AIIIIIIIIIIRI p0 p1 p2 p3 p4 v6 v14 v22 v30 v39 b46 (0 : Int32)) [(.ref b46)])) rfl (by rw [hml]; rfl) (argsL := [(.ref b46)]) (rest := []) (lenOf pd_0_1 rfl) rfl (by show 2 * 0 + _ ≤ _; exact Nat.le_of_eq rfl) (hb hby at_250) (fun _ _ => ⟨rfl, rfl, (by decide : 6 + 0 ≤ _), (by decide : 12 + 0 ≤ _)⟩)
    dsimp only [Pt.U, Pt.locs, Pt.cells, Pt.slots] at X250 l250 y250 z250 st250 hQ250
    subst l250 y250 z250
    obtain ⟨rfl, N250q, hq250⟩ := hQ250
    have N250 := Fr.app N53 N250q
    obtain ⟨c250, hc250⟩ : ∃ z : Int32, z = (if (42 : Int32) ∈ ([] : List Int32) ∨ (63 : Int32) ∈ ([] : List Int32) then (1 : Int32) else (0 : Int32)) := ⟨_, rfl⟩
    rw [← hc250] at st250
    refine own_by st250 ?_
    have sg263 : ∀ t, own_S p e below T250 (mkF m 263 (own_AIIIIIIIIIIRI p0 p1 p2 p3 p4 v6 v14 v22 v30 v39 b46 (0 : Int32)) [(.int (1 : Int32))]) t → own_S p e below T250 (mkF m 253 (own_AIIIIIIIIIIRI p0 p1 p2 p3 p4 v6 v14 v22 v30 v39 b46 (0 : Int32)) [(.int c250)]) t := by
      intro t k
      show own_S p e below T250 (mkF m 253 (own_AIIIIIIIIIIRI p0 p1 p2 p3 p4 v6 v14 v22 v30 v39 b46 (0 : Int32)) [(.int c250)]) _
      refine XS.iload X250.here hx rfl (hb hby at_253) rfl ?_
      show own_S p e below T250 (mkF m 255 (own_AIIIIIIIIIIRI p0 p1 p2 p3 p4 v6 v14 v22 v30 v39 b46 (0 : Int32)) [(.int (0 : Int32)), (.int c250)]) _
      refine XS.icmpNo X250.here hx rfl (hb hby at_255) rfl (teq (by rw [hc250]; exact own_law0 : c250 = (0 : Int32))).2 ?_
      show own_S p e below T250 (mkF m 258 (own_AIIIIIIIIIIRI p0 p1 p2 p3 p4 v6 v14 v22 v30 v39 b46 (0 : Int32)) []) _
      refine XS.iconst X250.here hx rfl (hb hby at_258) ?_
      show own_S p e below T250 (mkF m 259 (own_AIIIIIIIIIIRI p0 p1 p2 p3 p4 v6 v14 v22 v30 v39 b46 (0 : Int32)) [(.int (1 : Int32))]) _
      refine XS.goto X250.here hx rfl (pc0 := 259) (pc' := 263) rfl (hb hby at_259) (by decide) (by decide) ?_
      exact k
    refine own_by sg263 ?_
    obtain ⟨fs, hr, hrun, hended, hW⟩ := X250.leaveW hS53 (by rw [hq250]; exact (Nat.le_refl _)) (v := some (.int (1 : Int32))) (fun h => by rw [Bd.returns] at h; cases h)
    refine ⟨_, _, ?_, hrun, hended, _, _, rfl, ?_, (by rw [hh]; show CHr Z consts_1 s.vm h0 T250.vm T250.heap; rw [hq250]; exact CR53.trans (CHv.at X250 hZ53 hEL hC53.1)), hW.1, hW.2.1, hW.2.2.1, hW.2.2.2.mono (by decide) (by decide)⟩
    · exact retN X250 hx (t := .boolean) Bd.returns (by simp) (hb hby at_263) hr
    · show Q0 Z p0 p1 p2 p3 p4 gz h0 n0 _ T250.heap _
      rw [hq250]
      exact ⟨rfl, N250⟩
  · have sg64 : ∀ t, own_S p e below s₁ (mkF m 64 (own_AIIIIIIIIIIUU p0 p1 p2 p3 p4 v6 v14 v22 v30 v39) [(.int (1 : Int32)), (.int v6)]) t → own_S p e below s₁ (mkF m 43 (own_AIIIIIIIIIIUU p0 p1 p2 p3 p4 v6 v14 v22 v30 v39) [(.int v6)]) t := by
      intro t k
      show own_S p e below s₁ (mkF m 43 (own_AIIIIIIIIIIUU p0 p1 p2 p3 p4 v6 v14 v22 v30 v39) [(.int v6)]) _
      refine XS.ifYes X0.here hx rfl (pc0 := 43) (pc' := 61) rfl (hb hby at_43) rfl ((if0 _ _).trans (feq hc43).2) (by decide) (by decide) ?_
      show own_S p e below s₁ (mkF m 61 (own_AIIIIIIIIIIUU p0 p1 p2 p3 p4 v6 v14 v22 v30 v39) []) _
      refine XS.iload X0.here hx rfl (hb hby at_61) rfl ?_
      show own_S p e below s₁ (mkF m 63 (own_AIIIIIIIIIIUU p0 p1 p2 p3 p4 v6 v14 v22 v30 v39) [(.int v6)]) _
      refine XS.iconst X0.here hx rfl (hb hby at_63) ?_
      exact k
    refine own_by sg64 ?_
    by_cases hc64 : v6 = (1 : Int32)
    · have sg67 : ∀ t, own_S p e below s₁ (mkF m 67 (own_AIIIIIIIIIIUU p0 p1 p2 p3 p4 v6 v14 v22 v30 v39) []) t → own_S p e below s₁ (mkF m 64 (own_AIIIIIIIIIIUU p0 p1 p2 p3 p4 v6 v14 v22 v30 v39) [(.int (1 : Int32)), (.int v6)]) t := by
        intro t k
        show own_S p e below s₁ (mkF m 64 (own_AIIIIIIIIIIUU p0 p1 p2 p3 p4 v6 v14 v22 v30 v39) [(.int (1 : Int32)), (.int v6)]) _
        refine XS.icmpNo X0.here hx rfl (hb hby at_64) rfl (teq hc64).2 ?_
        exact k
      refine own_by sg67 ?_
      obtain ⟨T67, h67, X67, e67, E67, A67, D67, -, st67⟩ := newO X0 hx hZ hown (hw _ (List.mem_of_getElem? (i := 1) rfl)) (hw _ (List.mem_of_getElem? (i := 2) rfl)) (hw _ (List.mem_of_getElem? (i := 3) rfl)) e0 (g := (mkF m 67 (own_AIIIIIIIIIIUU p0 p1 p2 p3 p4 v6 v14 v22 v30 v39) [])) rfl (hb hby at_67) (by decide) (by decide)
      obtain ⟨b67, g67⟩ : ∃ z, z = h0.size := ⟨_, rfl⟩
      rw [← g67] at A67 D67 st67
      have g_b67 : n0 ≤ b67 := Nat.le_trans Z0 (Nat.le_of_eq g67.symm)
      have sz_b67 : h0.size ≤ b67 := Nat.le_trans K0.1 (Nat.le_of_eq g67.symm)
      have K67 := K0.ext E67
      have Z67 : n0 ≤ h67.size := Nat.le_trans Z0 E67.1
      have CC67 := CHr.ext E67 hH0
      have CR67 := (CHr.refl hH0).trans CC67
      have F_value_b67 : Fld Z h67 b67 "java/lang/String" "value" "[B" .null := D67 (Or.inr (hw _ (List.mem_of_getElem? (i := 17) rfl))) (ty := (.array .byte)) (by decide)
      have F_coder_b67 : Fld Z h67 b67 "java/lang/String" "coder" "B" (.int (0 : Int32)) := D67 (Or.inr (hw _ (List.mem_of_getElem? (i := 18) rfl))) (ty := .byte) (by decide)
      refine own_by st67 ?_
      have sg72 : ∀ t, own_S p e below T67 (mkF m 72 (own_AIIIIIIIIIIUU p0 p1 p2 p3 p4 v6 v14 v22 v30 v39) [(.int (1 : Int32)), (.ref b67), (.ref b67)]) t → own_S p e below T67 (mkF m 70 (own_AIIIIIIIIIIUU p0 p1 p2 p3 p4 v6 v14 v22 v30 v39) [(.ref b67)]) t := by
        intro t k
        show own_S p e below T67 (mkF m 70 (own_AIIIIIIIIIIUU p0 p1 p2 p3 p4 v6 v14 v22 v30 v39) [(.ref b67)]) _
        refine XS.dup X67.here hx rfl (hb hby at_70) rfl rfl ?_
        show own_S p e below T67 (mkF m 71 (own_AIIIIIIIIIIUU p0 p1 p2 p3 p4 v6 v14 v22 v30 v39) [(.ref b67), (.ref b67)]) _
        refine XS.iconst X67.here hx rfl (hb hby at_71) ?_
        exact k
      refine own_by sg72 ?_
      obtain ⟨T72, h72, kc72, X72, e72, E72, A72, st72⟩ := newP X67 hx hZ (hw _ (List.mem_of_getElem? (i := 4) rfl)) e67 (g := (mkF m 72 (own_AIIIIIIIIIIUU p0 p1 p2 p3 p4 v6 v14 v22 v30 v39) [(.int (1 : Int32)), (.ref b67), (.ref b67)])) rfl (hb hby at_72) rfl (by decide) (cap := 1) (by decide) (by decide) (by decide) (by decide)
      obtain ⟨b72, g72⟩ : ∃ z, z = h67.size := ⟨_, rfl⟩
      rw [← g72] at A72 st72
      have ne_b67_b72 : b67 ≠ b72 := Nat.ne_of_lt (Nat.lt_of_lt_of_le A67.lt (Nat.le_of_eq g72.symm))
      have g_b72 : n0 ≤ b72 := Nat.le_trans Z67 (Nat.le_of_eq g72.symm)
      have sz_b72 : h0.size ≤ b72 := Nat.le_trans K67.1 (Nat.le_of_eq g72.symm)
      have K72 := K67.ext E72
      have Z72 : n0 ≤ h72.size := Nat.le_trans Z67 E72.1
      have CC72 := CHr.ext E72 CC67.1
      have CR72 := CR67.trans CC72
      have V72 : Arv Z h72 b72 kc72 .char (1 : Int32) [(.int (0 : Int32))] (.int (0 : Int32)) := (Arv.new A72 (by decide)).pad (pad_rep [] (.int (0 : Int32)) 1)
      refine own_by st72 ?_
      have sg78 : ∀ t, own_S p e below T72 (mkF m 78 (own_AIIIIIIIIIIUU p0 p1 p2 p3 p4 v6 v14 v22 v30 v39) [(.int v14), (.int (0 : Int32)), (.ref b72), (.ref b72), (.ref b67), (.ref b67)]) t → own_S p e below T72 (mkF m 74 (own_AIIIIIIIIIIUU p0 p1 p2 p3 p4 v6 v14 v22 v30 v39) [(.ref b72), (.ref b67), (.ref b67)]) t := by
        intro t k
        show own_S p e below T72 (mkF m 74 (own_AIIIIIIIIIIUU p0 p1 p2 p3 p4 v6 v14 v22 v30 v39) [(.ref b72), (.ref b67), (.ref b67)]) _
        refine XS.dup X72.here hx rfl (hb hby at_74) rfl rfl ?_
        show own_S p e below T72 (mkF m 75 (own_AIIIIIIIIIIUU p0 p1 p2 p3 p4 v6 v14 v22 v30 v39) [(.ref b72), (.ref b72), (.ref b67), (.ref b67)]) _
        refine XS.iconst X72.here hx rfl (hb hby at_75) ?_
        show own_S p e below T72 (mkF m 76 (own_AIIIIIIIIIIUU p0 p1 p2 p3 p4 v6 v14 v22 v30 v39) [(.int (0 : Int32)), (.ref b72), (.ref b72), (.ref b67), (.ref b67)]) _
        refine XS.iload X72.here hx rfl (hb hby at_76) rfl ?_
        exact k
      refine own_by sg78 ?_
      obtain ⟨cl78, Ar78, qa78, Sa78, Na78, Ha78, Ga78⟩ := id V72
      obtain ⟨T78, h78, X78, e78, W78, st78⟩ := stC X72 hx hZ e72 Ar78 (j := (0 : Int32)) (inb_of Sa78 ⟨by decide, by decide⟩) (g := (mkF m 78 (own_AIIIIIIIIIIUU p0 p1 p2 p3 p4 v6 v14 v22 v30 v39) [(.int v14), (.int (0 : Int32)), (.ref b72), (.ref b72), (.ref b67), (.ref b67)])) rfl rfl (hb hby at_78)
      have V78 : Arv Z h78 b72 kc72 .char (1 : Int32) [(.int v14)] (.int (0 : Int32)) := by
        have q := Arv.set Ar78 qa78 Sa78 Na78 Ha78 Ga78 (fits_nar_char _) W78 0 rfl (Nat.le_of_ble_eq_true rfl)
        rw [own_narc hk_v14] at q
        exact q
      have K78 : Keep h0 h78 [] := K72.wr W78 (Or.inr sz_b72)
      have Z78 : n0 ≤ h78.size := Nat.le_trans Z72 (Keep.of_wr W78).1
      have CC78 := CHr.wr W78 (Safe.arv hZ.alike V72 (by decide)) CC72.1
      have CR78 := CR72.trans CC78
      have N78 := Fr.snoc X78 N0 g_b72
      refine own_by st78 ?_
      have hn1 : v6 = (1 : Int32) := hc64
      have hp79 : ∀ c ∈ ([v14] : List Int32), ¬ c < 0 ∧ ¬ (255 : Int32) < c := by
        intro c hc
        simp only [List.mem_cons, List.not_mem_nil, or_false] at hc
        rcases hc with rfl
        · exact hk_v14
      obtain ⟨_, _, ⟨T79, L79, k79, n79⟩, -, X79, ⟨Lc79, hQ79, l79, y79, z79⟩, st79⟩ := X78.specialBack hx (y := (⟨"java/lang/String", "<init>", "([C)V"⟩ : MethodName)) rfl hown (mvT hZ (hw _ (List.mem_of_getElem? (i := 5) rfl))) (mvT hZ (hw _ (List.mem_of_getElem? (i := 6) rfl))) (mvT hZ (hw _ (List.mem_of_getElem? (i := 7) rfl))) (by decide) (StrChars.Road.backV (W := 1) hZ hws (kI := 4) (hw _ (List.mem_of_getElem? (i := 2) rfl)) (cs := ([v14] : List Int32)) (bs := ([v14] : List Int32).map (fun c => c.toInt8.toInt32)) (n := 1) g_b67 Z78 ((A67.ext E72).wr W78) ((F_value_b67.ext E72).other W78 (Or.inl ne_b67_b72)) ((F_coder_b67.ext E72).other W78 (Or.inl ne_b67_b72)) V78 (O2.ext (((O.ext E67).ext E72).wr W78 g_b72).2) P5 rfl rfl (by decide) (by decide) hp79 rfl (by decide) (by decide)) (g := (mkF m 79 (own_AIIIIIIIIIIUU p0 p1 p2 p3 p4 v6 v14 v22 v30 v39) [(.ref b72), (.ref b67), (.ref b67)])) rfl (by rw [hml]; rfl) (Steps.refl _) (a := b67) (argsL := [(.ref b72)]) (rest := [(.ref b67)]) (lenOf pd_0_0 rfl) rfl (by show 2 * 0 + _ ≤ _; exact Nat.le_of_eq rfl) (hb hby at_79) (fun _ _ => ⟨rfl, e78, (by decide : 2 + 1 ≤ _), (by decide : 5 + 1 ≤ _)⟩)
      dsimp only [Pt.U, Pt.locs, Pt.cells, Pt.slots] at X79 l79 y79 z79 st79 hQ79
      subst l79 y79 z79
      obtain ⟨rfl, N79q, Kq79, Eq79, Cq79, t79, kb79, u179, u279, u379, Vq79, Aq79⟩ := hQ79
      have N79 := Fr.app N78 N79q
      have ne_b67_t79 : b67 ≠ t79 := Nat.ne_of_lt (Nat.lt_of_lt_of_le ((A67.ext E72).wr W78).lt u279)
      have ne_b72_t79 : b72 ≠ t79 := Nat.ne_of_lt (Nat.lt_of_lt_of_le V78.lt u279)
      have g_t79 : n0 ≤ t79 := Nat.le_trans Z78 u279
      have sz_t79 : h0.size ≤ t79 := Nat.le_trans K78.1 u279
      have fc := (V78.keep Kq79 (fun h => (Ne.symm ne_b67_b72) (List.mem_singleton.mp h)))
      have K79 : Keep h0 T79.heap [] := K78.trans Kq79 (fun x hx => by cases List.mem_singleton.mp hx; exact Or.inr sz_b67)
      have Z79 : n0 ≤ T79.heap.size := Nat.le_trans Z78 Kq79.1
      have CC79 := CHr.keep Kq79 (sfS (own_safe0 hZ.alike ((A67.ext E72).wr W78) ((F_value_b67.ext E72).other W78 (Or.inl ne_b67_b72)) (hw _ (List.mem_of_getElem? (i := 2) rfl))) sf0) CC78.1
      have CR79 := CR78.trans CC79
      refine own_by (fun t k => st79.trans k) ?_
      have sg186 : ∀ t, own_S p e below T79 (mkF m 186 (own_AIIIIIIIIIIRU p0 p1 p2 p3 p4 v6 v14 v22 v30 v39 b67) []) t → own_S p e below T79 (mkF m 82 (own_AIIIIIIIIIIUU p0 p1 p2 p3 p4 v6 v14 v22 v30 v39) [(.ref b67)]) t := by
        intro t k
        show own_S p e below T79 (mkF m 82 (own_AIIIIIIIIIIUU p0 p1 p2 p3 p4 v6 v14 v22 v30 v39) [(.ref b67)]) _
        refine XS.astore X79.here hx rfl (hb hby at_82) rfl rfl (l' := (own_AIIIIIIIIIIRU p0 p1 p2 p3 p4 v6 v14 v22 v30 v39 b67)) rfl ?_
        show own_S p e below T79 (mkF m 84 (own_AIIIIIIIIIIRU p0 p1 p2 p3 p4 v6 v14 v22 v30 v39 b67) []) _
        refine XS.goto X79.here hx rfl (pc0 := 84) (pc' := 186) rfl (hb hby at_84) (by decide) (by decide) ?_
        exact k
      refine own_by sg186 ?_
      obtain ⟨r186_s0, hr186_s0⟩ : ∃ z : Int32, z = (if (if v14 = (42 : Int32) then (1 : Int32) else if v14 = (63 : Int32) then (1 : Int32) else (0 : Int32)) = (0 : Int32) then (0 : Int32) else (1 : Int32)) := ⟨_, rfl⟩
      obtain ⟨Tr186, Lr186, Xr186, Nr186, er186, str186⟩ : ∃ T' L', Stand p l e room_1 (s.setVm s.vm) m #[(.int p0), (.int p1), (.int p2), (.int p3), (.int p4)] below meth c T' L' 3 6 ∧ Fr n0 L' ∧ T'.heap = T79.heap ∧ ∀ t, own_S p e below T' (mkF m 246 (own_AIIIIIIIIIIRU p0 p1 p2 p3 p4 v6 v14 v22 v30 v39 b67) [(.int r186_s0)]) t → own_S p e below T79 (mkF m 186 (own_AIIIIIIIIIIRU p0 p1 p2 p3 p4 v6 v14 v22 v30 v39 b67) []) t := by
        have sg193 : ∀ t, own_S p e below T79 (mkF m 193 (own_AIIIIIIIIIIRU p0 p1 p2 p3 p4 v6 v14 v22 v30 v39 b67) [(.int v14)]) t → own_S p e below T79 (mkF m 186 (own_AIIIIIIIIIIRU p0 p1 p2 p3 p4 v6 v14 v22 v30 v39 b67) []) t := by
          intro t k
          show own_S p e below T79 (mkF m 186 (own_AIIIIIIIIIIRU p0 p1 p2 p3 p4 v6 v14 v22 v30 v39 b67) []) _
          refine XS.iload X79.here hx rfl (hb hby at_186) rfl ?_
          show own_S p e below T79 (mkF m 188 (own_AIIIIIIIIIIRU p0 p1 p2 p3 p4 v6 v14 v22 v30 v39 b67) [(.int v6)]) _
          refine XS.ifNo X79.here hx rfl (hb hby at_188) rfl ((if0 _ _).trans (tlt (by rw [hn1]; decide : (0 : Int32) < v6)).2.2.2) ?_
          show own_S p e below T79 (mkF m 191 (own_AIIIIIIIIIIRU p0 p1 p2 p3 p4 v6 v14 v22 v30 v39 b67) []) _
          refine XS.iload X79.here hx rfl (hb hby at_191) rfl ?_
          exact k
        obtain ⟨_, _, ⟨T193, L193, k193, n193⟩, -, X193, ⟨Lc193, hQ193, l193, y193, z193⟩, st193⟩ := Jvm.LawKit.callS X79 hx (y := (⟨"com/example/spojka/spojka/PathPatternHoldsWildcardsPinLaw", "wild", "(C)Z"⟩ : MethodName)) hown (mvT hZ (hw _ (List.mem_of_getElem? (i := 77) rfl))) (mvT hZ (hw _ (List.mem_of_getElem? (i := 78) rfl))) (mvT hZ (hw _ (List.mem_of_getElem? (i := 79) rfl))) (mvT hZ (hw _ (List.mem_of_getElem? (i := 80) rfl))) (by decide) (backOf (W := 0) (rm17 l Z a0 hw [] v14 T79.heap n0 Z79) hZ (hw _ (List.mem_of_getElem? (i := 80) rfl)) (hw _ (List.mem_of_getElem? (i := 79) rfl)) (by decide) (by decide)) (g := (mkF m 193 (own_AIIIIIIIIIIRU p0 p1 p2 p3 p4 v6 v14 v22 v30 v39 b67) [(.int v14)])) rfl (by rw [hml]; rfl) (argsL := [(.int v14)]) (rest := []) (lenOf pd_0_2 rfl) rfl (by show 2 * 0 + _ ≤ _; exact Nat.le_of_eq rfl) (hb hby at_193) (fun _ _ => ⟨rfl, rfl, (by decide : 3 + 0 ≤ _), (by decide : 6 + 0 ≤ _)⟩)
        dsimp only [Pt.U, Pt.locs, Pt.cells, Pt.slots] at X193 l193 y193 z193 st193 hQ193
        subst l193 y193 z193
        obtain ⟨rfl, N193q, hq193⟩ := hQ193
        have N193 := Fr.app N79 N193q
        by_cases hc196 : (if v14 = (42 : Int32) then (1 : Int32) else if v14 = (63 : Int32) then (1 : Int32) else (0 : Int32)) = (0 : Int32)
        · rw [if_pos hc196] at hr186_s0
          have sg246 : ∀ t, own_S p e below T193 (mkF m 246 (own_AIIIIIIIIIIRU p0 p1 p2 p3 p4 v6 v14 v22 v30 v39 b67) [(.int (0 : Int32))]) t → own_S p e below T193 (mkF m 196 (own_AIIIIIIIIIIRU p0 p1 p2 p3 p4 v6 v14 v22 v30 v39 b67) [(.int (if v14 = (42 : Int32) then (1 : Int32) else if v14 = (63 : Int32) then (1 : Int32) else (0 : Int32)))]) t := by
            intro t k
            show own_S p e below T193 (mkF m 196 (own_AIIIIIIIIIIRU p0 p1 p2 p3 p4 v6 v14 v22 v30 v39 b67) [(.int (if v14 = (42 : Int32) then (1 : Int32) else if v14 = (63 : Int32) then (1 : Int32) else (0 : Int32)))]) _
            refine XS.ifNo X193.here hx rfl (hb hby at_196) rfl ((if0 _ _).trans (teq hc196).2) ?_
            show own_S p e below T193 (mkF m 199 (own_AIIIIIIIIIIRU p0 p1 p2 p3 p4 v6 v14 v22 v30 v39 b67) []) _
            refine XS.iload X193.here hx rfl (hb hby at_199) rfl ?_
            show own_S p e below T193 (mkF m 201 (own_AIIIIIIIIIIRU p0 p1 p2 p3 p4 v6 v14 v22 v30 v39 b67) [(.int v6)]) _
            refine XS.iconst X193.here hx rfl (hb hby at_201) ?_
            show own_S p e below T193 (mkF m 202 (own_AIIIIIIIIIIRU p0 p1 p2 p3 p4 v6 v14 v22 v30 v39 b67) [(.int (1 : Int32)), (.int v6)]) _
            refine XS.icmpYes X193.here hx rfl (pc0 := 202) (pc' := 213) rfl (hb hby at_202) rfl (flt (by rw [hn1]; decide : ¬ ((1 : Int32) < v6))).2.2.2 (by decide) (by decide) ?_
            show own_S p e below T193 (mkF m 213 (own_AIIIIIIIIIIRU p0 p1 p2 p3 p4 v6 v14 v22 v30 v39 b67) []) _
            refine XS.iload X193.here hx rfl (hb hby at_213) rfl ?_
            show own_S p e below T193 (mkF m 215 (own_AIIIIIIIIIIRU p0 p1 p2 p3 p4 v6 v14 v22 v30 v39 b67) [(.int v6)]) _
            refine XS.iconst X193.here hx rfl (hb hby at_215) ?_
            show own_S p e below T193 (mkF m 216 (own_AIIIIIIIIIIRU p0 p1 p2 p3 p4 v6 v14 v22 v30 v39 b67) [(.int (2 : Int32)), (.int v6)]) _
            refine XS.icmpYes X193.here hx rfl (pc0 := 216) (pc' := 227) rfl (hb hby at_216) rfl (flt (by rw [hn1]; decide : ¬ ((2 : Int32) < v6))).2.2.2 (by decide) (by decide) ?_
            show own_S p e below T193 (mkF m 227 (own_AIIIIIIIIIIRU p0 p1 p2 p3 p4 v6 v14 v22 v30 v39 b67) []) _
            refine XS.iload X193.here hx rfl (hb hby at_227) rfl ?_
            show own_S p e below T193 (mkF m 229 (own_AIIIIIIIIIIRU p0 p1 p2 p3 p4 v6 v14 v22 v30 v39 b67) [(.int v6)]) _
            refine XS.iconst X193.here hx rfl (hb hby at_229) ?_
            show own_S p e below T193 (mkF m 230 (own_AIIIIIIIIIIRU p0 p1 p2 p3 p4 v6 v14 v22 v30 v39 b67) [(.int (3 : Int32)), (.int v6)]) _
            refine XS.icmpYes X193.here hx rfl (pc0 := 230) (pc' := 245) rfl (hb hby at_230) rfl (flt (by rw [hn1]; decide : ¬ ((3 : Int32) < v6))).2.2.2 (by decide) (by decide) ?_
            show own_S p e below T193 (mkF m 245 (own_AIIIIIIIIIIRU p0 p1 p2 p3 p4 v6 v14 v22 v30 v39 b67) []) _
            refine XS.iconst X193.here hx rfl (hb hby at_245) ?_
            exact k
          rw [hr186_s0]
          exact ⟨T193, _, X193, N193, hq193, fun t k => (sg193 t (st193 t (sg246 t k)))⟩
        · rw [if_neg hc196] at hr186_s0
          have sg246 : ∀ t, own_S p e below T193 (mkF m 246 (own_AIIIIIIIIIIRU p0 p1 p2 p3 p4 v6 v14 v22 v30 v39 b67) [(.int (1 : Int32))]) t → own_S p e below T193 (mkF m 196 (own_AIIIIIIIIIIRU p0 p1 p2 p3 p4 v6 v14 v22 v30 v39 b67) [(.int (if v14 = (42 : Int32) then (1 : Int32) else if v14 = (63 : Int32) then (1 : Int32) else (0 : Int32)))]) t := by
            intro t k
            show own_S p e below T193 (mkF m 196 (own_AIIIIIIIIIIRU p0 p1 p2 p3 p4 v6 v14 v22 v30 v39 b67) [(.int (if v14 = (42 : Int32) then (1 : Int32) else if v14 = (63 : Int32) then (1 : Int32) else (0 : Int32)))]) _
            refine XS.ifYes X193.here hx rfl (pc0 := 196) (pc' := 241) rfl (hb hby at_196) rfl ((if0 _ _).trans (feq hc196).2) (by decide) (by decide) ?_
            show own_S p e below T193 (mkF m 241 (own_AIIIIIIIIIIRU p0 p1 p2 p3 p4 v6 v14 v22 v30 v39 b67) []) _
            refine XS.iconst X193.here hx rfl (hb hby at_241) ?_
            show own_S p e below T193 (mkF m 242 (own_AIIIIIIIIIIRU p0 p1 p2 p3 p4 v6 v14 v22 v30 v39 b67) [(.int (1 : Int32))]) _
            refine XS.goto X193.here hx rfl (pc0 := 242) (pc' := 246) rfl (hb hby at_242) (by decide) (by decide) ?_
            exact k
          rw [hr186_s0]
          exact ⟨T193, _, X193, N193, hq193, fun t k => (sg193 t (st193 t (sg246 t k)))⟩
      refine own_by str186 ?_
      have sg250 : ∀ t, own_S p e below Tr186 (mkF m 250 (own_AIIIIIIIIIIRI p0 p1 p2 p3 p4 v6 v14 v22 v30 v39 b67 r186_s0) [(.ref b67)]) t → own_S p e below Tr186 (mkF m 246 (own_AIIIIIIIIIIRU p0 p1 p2 p3 p4 v6 v14 v22 v30 v39 b67) [(.int r186_s0)]) t := by
        intro t k
        show own_S p e below Tr186 (mkF m 246 (own_AIIIIIIIIIIRU p0 p1 p2 p3 p4 v6 v14 v22 v30 v39 b67) [(.int r186_s0)]) _
        refine XS.istore Xr186.here hx rfl (hb hby at_246) rfl (l' := (own_AIIIIIIIIIIRI p0 p1 p2 p3 p4 v6 v14 v22 v30 v39 b67 r186_s0)) rfl ?_
        show own_S p e below Tr186 (mkF m 248 (own_AIIIIIIIIIIRI p0 p1 p2 p3 p4 v6 v14 v22 v30 v39 b67 r186_s0) []) _
        refine XS.aload Xr186.here hx rfl (hb hby at_248) rfl rfl ?_
        exact k
      refine own_by sg250 ?_
      obtain ⟨_, _, ⟨T250, L250, k250, n250⟩, -, X250, ⟨Lc250, hQ250, l250, y250, z250⟩, st250⟩ := Jvm.LawKit.callS Xr186 hx (y := (⟨"com/example/spojka/spojka/PathPattern", "holdsWildcards", "(Ljava/lang/String;)Z"⟩ : MethodName)) hown (mvT hZ (hw _ (List.mem_of_getElem? (i := 23) rfl))) (mvT hZ (hw _ (List.mem_of_getElem? (i := 24) rfl))) (mvT hZ (hw _ (List.mem_of_getElem? (i := 25) rfl))) (mvT hZ (hw _ (List.mem_of_getElem? (i := 26) rfl))) (by decide) (backOf (W := 0) (rm4 l Z a0 hw [] b67 t79 kb79 ([v14] : List Int32) gz T79.heap n0 Z79 Eq79 Vq79 Cq79 Aq79 hp79 (Nat.le_of_ble_eq_true rfl) (O2.ext ((((O.ext E67).ext E72).wr W78 g_b72).keep Kq79 (allS g_b67 all0)).2) P5) hZ (hw _ (List.mem_of_getElem? (i := 26) rfl)) (hw _ (List.mem_of_getElem? (i := 25) rfl)) (by decide) (by decide)) (g := (mkF m 250 (own_AIIIIIIIIIIRI p0 p1 p2 p3 p4 v6 v14 v22 v30 v39 b67 r186_s0) [(.ref b67)])) rfl (by rw [hml]; rfl) (argsL := [(.ref b67)]) (rest := []) (lenOf pd_0_1 rfl) rfl (by show 2 * 0 + _ ≤ _; exact Nat.le_of_eq rfl) (hb hby at_250) (fun _ _ => ⟨rfl, er186, (by decide : 3 + 0 ≤ _), (by decide : 6 + 0 ≤ _)⟩)
      dsimp only [Pt.U, Pt.locs, Pt.cells, Pt.slots] at X250 l250 y250 z250 st250 hQ250
      subst l250 y250 z250
      obtain ⟨rfl, N250q, hq250⟩ := hQ250
      have N250 := Fr.app Nr186 N250q
      obtain ⟨c250, hc250⟩ : ∃ z : Int32, z = (if (42 : Int32) ∈ ([v14] : List Int32) ∨ (63 : Int32) ∈ ([v14] : List Int32) then (1 : Int32) else (0 : Int32)) := ⟨_, rfl⟩
      rw [← hc250] at st250
      refine own_by st250 ?_
      have sg263 : ∀ t, own_S p e below T250 (mkF m 263 (own_AIIIIIIIIIIRI p0 p1 p2 p3 p4 v6 v14 v22 v30 v39 b67 r186_s0) [(.int (1 : Int32))]) t → own_S p e below T250 (mkF m 253 (own_AIIIIIIIIIIRI p0 p1 p2 p3 p4 v6 v14 v22 v30 v39 b67 r186_s0) [(.int c250)]) t := by
        intro t k
        show own_S p e below T250 (mkF m 253 (own_AIIIIIIIIIIRI p0 p1 p2 p3 p4 v6 v14 v22 v30 v39 b67 r186_s0) [(.int c250)]) _
        refine XS.iload X250.here hx rfl (hb hby at_253) rfl ?_
        show own_S p e below T250 (mkF m 255 (own_AIIIIIIIIIIRI p0 p1 p2 p3 p4 v6 v14 v22 v30 v39 b67 r186_s0) [(.int r186_s0), (.int c250)]) _
        refine XS.icmpNo X250.here hx rfl (hb hby at_255) rfl (teq (by rw [hc250, hr186_s0]; exact own_law1 _ : c250 = r186_s0)).2 ?_
        show own_S p e below T250 (mkF m 258 (own_AIIIIIIIIIIRI p0 p1 p2 p3 p4 v6 v14 v22 v30 v39 b67 r186_s0) []) _
        refine XS.iconst X250.here hx rfl (hb hby at_258) ?_
        show own_S p e below T250 (mkF m 259 (own_AIIIIIIIIIIRI p0 p1 p2 p3 p4 v6 v14 v22 v30 v39 b67 r186_s0) [(.int (1 : Int32))]) _
        refine XS.goto X250.here hx rfl (pc0 := 259) (pc' := 263) rfl (hb hby at_259) (by decide) (by decide) ?_
        exact k
      refine own_by sg263 ?_
      obtain ⟨fs, hr, hrun, hended, hW⟩ := X250.leaveW hS0 (by rw [hq250]; exact (Nat.le_trans (Nat.le_trans (Nat.le_trans (Nat.le_trans (Nat.zero_le _) E67.1) E72.1) (Keep.of_wr W78).1) Kq79.1)) (v := some (.int (1 : Int32))) (fun h => by rw [Bd.returns] at h; cases h)
      refine ⟨_, _, ?_, hrun, hended, _, _, rfl, ?_, (by rw [hh]; show CHr Z consts_1 s.vm h0 T250.vm T250.heap; rw [hq250]; exact CR79.trans (CHv.at X250 hZ hEL CC79.1)), hW.1, hW.2.1, hW.2.2.1, hW.2.2.2.mono (by decide) (by decide)⟩
      · exact retN X250 hx (t := .boolean) Bd.returns (by simp) (hb hby at_263) hr
      · show Q0 Z p0 p1 p2 p3 p4 gz h0 n0 _ T250.heap _
        rw [hq250]
        exact ⟨rfl, N250⟩
    · have sg90 : ∀ t, own_S p e below s₁ (mkF m 90 (own_AIIIIIIIIIIUU p0 p1 p2 p3 p4 v6 v14 v22 v30 v39) [(.int (2 : Int32)), (.int v6)]) t → own_S p e below s₁ (mkF m 64 (own_AIIIIIIIIIIUU p0 p1 p2 p3 p4 v6 v14 v22 v30 v39) [(.int (1 : Int32)), (.int v6)]) t := by
        intro t k
        show own_S p e below s₁ (mkF m 64 (own_AIIIIIIIIIIUU p0 p1 p2 p3 p4 v6 v14 v22 v30 v39) [(.int (1 : Int32)), (.int v6)]) _
        refine XS.icmpYes X0.here hx rfl (pc0 := 64) (pc' := 87) rfl (hb hby at_64) rfl (feq hc64).2 (by decide) (by decide) ?_
        show own_S p e below s₁ (mkF m 87 (own_AIIIIIIIIIIUU p0 p1 p2 p3 p4 v6 v14 v22 v30 v39) []) _
        refine XS.iload X0.here hx rfl (hb hby at_87) rfl ?_
        show own_S p e below s₁ (mkF m 89 (own_AIIIIIIIIIIUU p0 p1 p2 p3 p4 v6 v14 v22 v30 v39) [(.int v6)]) _
        refine XS.iconst X0.here hx rfl (hb hby at_89) ?_
        exact k
      refine own_by sg90 ?_
      by_cases hc90 : v6 = (2 : Int32)
      · have sg93 : ∀ t, own_S p e below s₁ (mkF m 93 (own_AIIIIIIIIIIUU p0 p1 p2 p3 p4 v6 v14 v22 v30 v39) []) t → own_S p e below s₁ (mkF m 90 (own_AIIIIIIIIIIUU p0 p1 p2 p3 p4 v6 v14 v22 v30 v39) [(.int (2 : Int32)), (.int v6)]) t := by
          intro t k
          show own_S p e below s₁ (mkF m 90 (own_AIIIIIIIIIIUU p0 p1 p2 p3 p4 v6 v14 v22 v30 v39) [(.int (2 : Int32)), (.int v6)]) _
          refine XS.icmpNo X0.here hx rfl (hb hby at_90) rfl (teq hc90).2 ?_
          exact k
        refine own_by sg93 ?_
        obtain ⟨T93, h93, X93, e93, E93, A93, D93, -, st93⟩ := newO X0 hx hZ hown (hw _ (List.mem_of_getElem? (i := 1) rfl)) (hw _ (List.mem_of_getElem? (i := 2) rfl)) (hw _ (List.mem_of_getElem? (i := 3) rfl)) e0 (g := (mkF m 93 (own_AIIIIIIIIIIUU p0 p1 p2 p3 p4 v6 v14 v22 v30 v39) [])) rfl (hb hby at_93) (by decide) (by decide)
        obtain ⟨b93, g93⟩ : ∃ z, z = h0.size := ⟨_, rfl⟩
        rw [← g93] at A93 D93 st93
        have g_b93 : n0 ≤ b93 := Nat.le_trans Z0 (Nat.le_of_eq g93.symm)
        have sz_b93 : h0.size ≤ b93 := Nat.le_trans K0.1 (Nat.le_of_eq g93.symm)
        have K93 := K0.ext E93
        have Z93 : n0 ≤ h93.size := Nat.le_trans Z0 E93.1
        have CC93 := CHr.ext E93 hH0
        have CR93 := (CHr.refl hH0).trans CC93
        have F_value_b93 : Fld Z h93 b93 "java/lang/String" "value" "[B" .null := D93 (Or.inr (hw _ (List.mem_of_getElem? (i := 17) rfl))) (ty := (.array .byte)) (by decide)
        have F_coder_b93 : Fld Z h93 b93 "java/lang/String" "coder" "B" (.int (0 : Int32)) := D93 (Or.inr (hw _ (List.mem_of_getElem? (i := 18) rfl))) (ty := .byte) (by decide)
        refine own_by st93 ?_
        have sg98 : ∀ t, own_S p e below T93 (mkF m 98 (own_AIIIIIIIIIIUU p0 p1 p2 p3 p4 v6 v14 v22 v30 v39) [(.int (2 : Int32)), (.ref b93), (.ref b93)]) t → own_S p e below T93 (mkF m 96 (own_AIIIIIIIIIIUU p0 p1 p2 p3 p4 v6 v14 v22 v30 v39) [(.ref b93)]) t := by
          intro t k
          show own_S p e below T93 (mkF m 96 (own_AIIIIIIIIIIUU p0 p1 p2 p3 p4 v6 v14 v22 v30 v39) [(.ref b93)]) _
          refine XS.dup X93.here hx rfl (hb hby at_96) rfl rfl ?_
          show own_S p e below T93 (mkF m 97 (own_AIIIIIIIIIIUU p0 p1 p2 p3 p4 v6 v14 v22 v30 v39) [(.ref b93), (.ref b93)]) _
          refine XS.iconst X93.here hx rfl (hb hby at_97) ?_
          exact k
        refine own_by sg98 ?_
        obtain ⟨T98, h98, kc98, X98, e98, E98, A98, st98⟩ := newP X93 hx hZ (hw _ (List.mem_of_getElem? (i := 4) rfl)) e93 (g := (mkF m 98 (own_AIIIIIIIIIIUU p0 p1 p2 p3 p4 v6 v14 v22 v30 v39) [(.int (2 : Int32)), (.ref b93), (.ref b93)])) rfl (hb hby at_98) rfl (by decide) (cap := 2) (by decide) (by decide) (by decide) (by decide)
        obtain ⟨b98, g98⟩ : ∃ z, z = h93.size := ⟨_, rfl⟩
        rw [← g98] at A98 st98
        have ne_b93_b98 : b93 ≠ b98 := Nat.ne_of_lt (Nat.lt_of_lt_of_le A93.lt (Nat.le_of_eq g98.symm))
        have g_b98 : n0 ≤ b98 := Nat.le_trans Z93 (Nat.le_of_eq g98.symm)
        have sz_b98 : h0.size ≤ b98 := Nat.le_trans K93.1 (Nat.le_of_eq g98.symm)
        have K98 := K93.ext E98
        have Z98 : n0 ≤ h98.size := Nat.le_trans Z93 E98.1
        have CC98 := CHr.ext E98 CC93.1
        have CR98 := CR93.trans CC98
        have V98 : Arv Z h98 b98 kc98 .char (2 : Int32) [(.int (0 : Int32)), (.int (0 : Int32))] (.int (0 : Int32)) := (Arv.new A98 (by decide)).pad (pad_rep [] (.int (0 : Int32)) 2)
        refine own_by st98 ?_
        have sg104 : ∀ t, own_S p e below T98 (mkF m 104 (own_AIIIIIIIIIIUU p0 p1 p2 p3 p4 v6 v14 v22 v30 v39) [(.int v14), (.int (0 : Int32)), (.ref b98), (.ref b98), (.ref b93), (.ref b93)]) t → own_S p e below T98 (mkF m 100 (own_AIIIIIIIIIIUU p0 p1 p2 p3 p4 v6 v14 v22 v30 v39) [(.ref b98), (.ref b93), (.ref b93)]) t := by
          intro t k
          show own_S p e below T98 (mkF m 100 (own_AIIIIIIIIIIUU p0 p1 p2 p3 p4 v6 v14 v22 v30 v39) [(.ref b98), (.ref b93), (.ref b93)]) _
          refine XS.dup X98.here hx rfl (hb hby at_100) rfl rfl ?_
          show own_S p e below T98 (mkF m 101 (own_AIIIIIIIIIIUU p0 p1 p2 p3 p4 v6 v14 v22 v30 v39) [(.ref b98), (.ref b98), (.ref b93), (.ref b93)]) _
          refine XS.iconst X98.here hx rfl (hb hby at_101) ?_
          show own_S p e below T98 (mkF m 102 (own_AIIIIIIIIIIUU p0 p1 p2 p3 p4 v6 v14 v22 v30 v39) [(.int (0 : Int32)), (.ref b98), (.ref b98), (.ref b93), (.ref b93)]) _
          refine XS.iload X98.here hx rfl (hb hby at_102) rfl ?_
          exact k
        refine own_by sg104 ?_
        obtain ⟨cl104, Ar104, qa104, Sa104, Na104, Ha104, Ga104⟩ := id V98
        obtain ⟨T104, h104, X104, e104, W104, st104⟩ := stC X98 hx hZ e98 Ar104 (j := (0 : Int32)) (inb_of Sa104 ⟨by decide, by decide⟩) (g := (mkF m 104 (own_AIIIIIIIIIIUU p0 p1 p2 p3 p4 v6 v14 v22 v30 v39) [(.int v14), (.int (0 : Int32)), (.ref b98), (.ref b98), (.ref b93), (.ref b93)])) rfl rfl (hb hby at_104)
        have V104 : Arv Z h104 b98 kc98 .char (2 : Int32) [(.int v14), (.int (0 : Int32))] (.int (0 : Int32)) := by
          have q := Arv.set Ar104 qa104 Sa104 Na104 Ha104 Ga104 (fits_nar_char _) W104 0 rfl (Nat.le_of_ble_eq_true rfl)
          rw [own_narc hk_v14] at q
          exact q
        have K104 : Keep h0 h104 [] := K98.wr W104 (Or.inr sz_b98)
        have Z104 : n0 ≤ h104.size := Nat.le_trans Z98 (Keep.of_wr W104).1
        have CC104 := CHr.wr W104 (Safe.arv hZ.alike V98 (by decide)) CC98.1
        have CR104 := CR98.trans CC104
        have N104 := Fr.snoc X104 N0 g_b98
        refine own_by st104 ?_
        have sg109 : ∀ t, own_S p e below T104 (mkF m 109 (own_AIIIIIIIIIIUU p0 p1 p2 p3 p4 v6 v14 v22 v30 v39) [(.int v22), (.int (1 : Int32)), (.ref b98), (.ref b98), (.ref b93), (.ref b93)]) t → own_S p e below T104 (mkF m 105 (own_AIIIIIIIIIIUU p0 p1 p2 p3 p4 v6 v14 v22 v30 v39) [(.ref b98), (.ref b93), (.ref b93)]) t := by
          intro t k
          show own_S p e below T104 (mkF m 105 (own_AIIIIIIIIIIUU p0 p1 p2 p3 p4 v6 v14 v22 v30 v39) [(.ref b98), (.ref b93), (.ref b93)]) _
          refine XS.dup X104.here hx rfl (hb hby at_105) rfl rfl ?_
          show own_S p e below T104 (mkF m 106 (own_AIIIIIIIIIIUU p0 p1 p2 p3 p4 v6 v14 v22 v30 v39) [(.ref b98), (.ref b98), (.ref b93), (.ref b93)]) _
          refine XS.iconst X104.here hx rfl (hb hby at_106) ?_
          show own_S p e below T104 (mkF m 107 (own_AIIIIIIIIIIUU p0 p1 p2 p3 p4 v6 v14 v22 v30 v39) [(.int (1 : Int32)), (.ref b98), (.ref b98), (.ref b93), (.ref b93)]) _
          refine XS.iload X104.here hx rfl (hb hby at_107) rfl ?_
          exact k
        refine own_by sg109 ?_
        obtain ⟨cl109, Ar109, qa109, Sa109, Na109, Ha109, Ga109⟩ := id V104
        obtain ⟨T109, h109, X109, e109, W109, st109⟩ := stC X104 hx hZ e104 Ar109 (j := (1 : Int32)) (inb_of Sa109 ⟨by decide, by decide⟩) (g := (mkF m 109 (own_AIIIIIIIIIIUU p0 p1 p2 p3 p4 v6 v14 v22 v30 v39) [(.int v22), (.int (1 : Int32)), (.ref b98), (.ref b98), (.ref b93), (.ref b93)])) rfl rfl (hb hby at_109)
        have V109 : Arv Z h109 b98 kc98 .char (2 : Int32) [(.int v14), (.int v22)] (.int (0 : Int32)) := by
          have q := Arv.set Ar109 qa109 Sa109 Na109 Ha109 Ga109 (fits_nar_char _) W109 1 rfl (Nat.le_of_ble_eq_true rfl)
          rw [own_narc hk_v22] at q
          exact q
        have fc := (((F_value_b93.ext E98).other W104 (Or.inl ne_b93_b98)).other W109 (Or.inl ne_b93_b98))
        have fc_2 := (((F_coder_b93.ext E98).other W104 (Or.inl ne_b93_b98)).other W109 (Or.inl ne_b93_b98))
        have K109 : Keep h0 h109 [] := K104.wr W109 (Or.inr sz_b98)
        have Z109 : n0 ≤ h109.size := Nat.le_trans Z104 (Keep.of_wr W109).1
        have CC109 := CHr.wr W109 (Safe.arv hZ.alike V104 (by decide)) CC104.1
        have CR109 := CR104.trans CC109
        have N109 := Fr.snoc X109 N104 g_b98
        refine own_by st109 ?_
        have hn2 : v6 = (2 : Int32) := hc90
        have hp110 : ∀ c ∈ ([v14, v22] : List Int32), ¬ c < 0 ∧ ¬ (255 : Int32) < c := by
          intro c hc
          simp only [List.mem_cons, List.not_mem_nil, or_false] at hc
          rcases hc with rfl | rfl
          · exact hk_v14
          · exact hk_v22
        obtain ⟨_, _, ⟨T110, L110, k110, n110⟩, -, X110, ⟨Lc110, hQ110, l110, y110, z110⟩, st110⟩ := X109.specialBack hx (y := (⟨"java/lang/String", "<init>", "([C)V"⟩ : MethodName)) rfl hown (mvT hZ (hw _ (List.mem_of_getElem? (i := 5) rfl))) (mvT hZ (hw _ (List.mem_of_getElem? (i := 6) rfl))) (mvT hZ (hw _ (List.mem_of_getElem? (i := 7) rfl))) (by decide) (StrChars.Road.backV (W := 1) hZ hws (kI := 4) (hw _ (List.mem_of_getElem? (i := 2) rfl)) (cs := ([v14, v22] : List Int32)) (bs := ([v14, v22] : List Int32).map (fun c => c.toInt8.toInt32)) (n := 2) g_b93 Z109 (((A93.ext E98).wr W104).wr W109) fc fc_2 V109 (O2.ext ((((O.ext E93).ext E98).wr W104 g_b98).wr W109 g_b98).2) P5 rfl rfl (by decide) (by decide) hp110 rfl (by decide) (by decide)) (g := (mkF m 110 (own_AIIIIIIIIIIUU p0 p1 p2 p3 p4 v6 v14 v22 v30 v39) [(.ref b98), (.ref b93), (.ref b93)])) rfl (by rw [hml]; rfl) (Steps.refl _) (a := b93) (argsL := [(.ref b98)]) (rest := [(.ref b93)]) (lenOf pd_0_0 rfl) rfl (by show 2 * 0 + _ ≤ _; exact Nat.le_of_eq rfl) (hb hby at_110) (fun _ _ => ⟨rfl, e109, (by decide : 2 + 1 ≤ _), (by decide : 6 + 2 ≤ _)⟩)
        dsimp only [Pt.U, Pt.locs, Pt.cells, Pt.slots] at X110 l110 y110 z110 st110 hQ110
        subst l110 y110 z110
        obtain ⟨rfl, N110q, Kq110, Eq110, Cq110, t110, kb110, u1110, u2110, u3110, Vq110, Aq110⟩ := hQ110
        have N110 := Fr.app N109 N110q
        have ne_b93_t110 : b93 ≠ t110 := Nat.ne_of_lt (Nat.lt_of_lt_of_le (((A93.ext E98).wr W104).wr W109).lt u2110)
        have ne_b98_t110 : b98 ≠ t110 := Nat.ne_of_lt (Nat.lt_of_lt_of_le V109.lt u2110)
        have g_t110 : n0 ≤ t110 := Nat.le_trans Z109 u2110
        have sz_t110 : h0.size ≤ t110 := Nat.le_trans K109.1 u2110
        have fc_3 := (V109.keep Kq110 (fun h => (Ne.symm ne_b93_b98) (List.mem_singleton.mp h)))
        have K110 : Keep h0 T110.heap [] := K109.trans Kq110 (fun x hx => by cases List.mem_singleton.mp hx; exact Or.inr sz_b93)
        have Z110 : n0 ≤ T110.heap.size := Nat.le_trans Z109 Kq110.1
        have CC110 := CHr.keep Kq110 (sfS (own_safe0 hZ.alike (((A93.ext E98).wr W104).wr W109) fc (hw _ (List.mem_of_getElem? (i := 2) rfl))) sf0) CC109.1
        have CR110 := CR109.trans CC110
        refine own_by (fun t k => st110.trans k) ?_
        have sg186 : ∀ t, own_S p e below T110 (mkF m 186 (own_AIIIIIIIIIIRU p0 p1 p2 p3 p4 v6 v14 v22 v30 v39 b93) []) t → own_S p e below T110 (mkF m 113 (own_AIIIIIIIIIIUU p0 p1 p2 p3 p4 v6 v14 v22 v30 v39) [(.ref b93)]) t := by
          intro t k
          show own_S p e below T110 (mkF m 113 (own_AIIIIIIIIIIUU p0 p1 p2 p3 p4 v6 v14 v22 v30 v39) [(.ref b93)]) _
          refine XS.astore X110.here hx rfl (hb hby at_113) rfl rfl (l' := (own_AIIIIIIIIIIRU p0 p1 p2 p3 p4 v6 v14 v22 v30 v39 b93)) rfl ?_
          show own_S p e below T110 (mkF m 115 (own_AIIIIIIIIIIRU p0 p1 p2 p3 p4 v6 v14 v22 v30 v39 b93) []) _
          refine XS.goto X110.here hx rfl (pc0 := 115) (pc' := 186) rfl (hb hby at_115) (by decide) (by decide) ?_
          exact k
        refine own_by sg186 ?_
        obtain ⟨r186_s0, hr186_s0⟩ : ∃ z : Int32, z = (if (if v14 = (42 : Int32) then (1 : Int32) else if v14 = (63 : Int32) then (1 : Int32) else (0 : Int32)) = (0 : Int32) then (if (if v22 = (42 : Int32) then (1 : Int32) else if v22 = (63 : Int32) then (1 : Int32) else (0 : Int32)) = (0 : Int32) then (0 : Int32) else (1 : Int32)) else (1 : Int32)) := ⟨_, rfl⟩
        obtain ⟨Tr186, Lr186, Xr186, Nr186, er186, str186⟩ : ∃ T' L', Stand p l e room_1 (s.setVm s.vm) m #[(.int p0), (.int p1), (.int p2), (.int p3), (.int p4)] below meth c T' L' 3 8 ∧ Fr n0 L' ∧ T'.heap = T110.heap ∧ ∀ t, own_S p e below T' (mkF m 246 (own_AIIIIIIIIIIRU p0 p1 p2 p3 p4 v6 v14 v22 v30 v39 b93) [(.int r186_s0)]) t → own_S p e below T110 (mkF m 186 (own_AIIIIIIIIIIRU p0 p1 p2 p3 p4 v6 v14 v22 v30 v39 b93) []) t := by
          have sg193 : ∀ t, own_S p e below T110 (mkF m 193 (own_AIIIIIIIIIIRU p0 p1 p2 p3 p4 v6 v14 v22 v30 v39 b93) [(.int v14)]) t → own_S p e below T110 (mkF m 186 (own_AIIIIIIIIIIRU p0 p1 p2 p3 p4 v6 v14 v22 v30 v39 b93) []) t := by
            intro t k
            show own_S p e below T110 (mkF m 186 (own_AIIIIIIIIIIRU p0 p1 p2 p3 p4 v6 v14 v22 v30 v39 b93) []) _
            refine XS.iload X110.here hx rfl (hb hby at_186) rfl ?_
            show own_S p e below T110 (mkF m 188 (own_AIIIIIIIIIIRU p0 p1 p2 p3 p4 v6 v14 v22 v30 v39 b93) [(.int v6)]) _
            refine XS.ifNo X110.here hx rfl (hb hby at_188) rfl ((if0 _ _).trans (tlt (by rw [hn2]; decide : (0 : Int32) < v6)).2.2.2) ?_
            show own_S p e below T110 (mkF m 191 (own_AIIIIIIIIIIRU p0 p1 p2 p3 p4 v6 v14 v22 v30 v39 b93) []) _
            refine XS.iload X110.here hx rfl (hb hby at_191) rfl ?_
            exact k
          obtain ⟨_, _, ⟨T193, L193, k193, n193⟩, -, X193, ⟨Lc193, hQ193, l193, y193, z193⟩, st193⟩ := Jvm.LawKit.callS X110 hx (y := (⟨"com/example/spojka/spojka/PathPatternHoldsWildcardsPinLaw", "wild", "(C)Z"⟩ : MethodName)) hown (mvT hZ (hw _ (List.mem_of_getElem? (i := 77) rfl))) (mvT hZ (hw _ (List.mem_of_getElem? (i := 78) rfl))) (mvT hZ (hw _ (List.mem_of_getElem? (i := 79) rfl))) (mvT hZ (hw _ (List.mem_of_getElem? (i := 80) rfl))) (by decide) (backOf (W := 0) (rm17 l Z a0 hw [] v14 T110.heap n0 Z110) hZ (hw _ (List.mem_of_getElem? (i := 80) rfl)) (hw _ (List.mem_of_getElem? (i := 79) rfl)) (by decide) (by decide)) (g := (mkF m 193 (own_AIIIIIIIIIIRU p0 p1 p2 p3 p4 v6 v14 v22 v30 v39 b93) [(.int v14)])) rfl (by rw [hml]; rfl) (argsL := [(.int v14)]) (rest := []) (lenOf pd_0_2 rfl) rfl (by show 2 * 0 + _ ≤ _; exact Nat.le_of_eq rfl) (hb hby at_193) (fun _ _ => ⟨rfl, rfl, (by decide : 3 + 0 ≤ _), (by decide : 8 + 0 ≤ _)⟩)
          dsimp only [Pt.U, Pt.locs, Pt.cells, Pt.slots] at X193 l193 y193 z193 st193 hQ193
          subst l193 y193 z193
          obtain ⟨rfl, N193q, hq193⟩ := hQ193
          have N193 := Fr.app N110 N193q
          by_cases hc196 : (if v14 = (42 : Int32) then (1 : Int32) else if v14 = (63 : Int32) then (1 : Int32) else (0 : Int32)) = (0 : Int32)
          · rw [if_pos hc196] at hr186_s0
            have sg207 : ∀ t, own_S p e below T193 (mkF m 207 (own_AIIIIIIIIIIRU p0 p1 p2 p3 p4 v6 v14 v22 v30 v39 b93) [(.int v22)]) t → own_S p e below T193 (mkF m 196 (own_AIIIIIIIIIIRU p0 p1 p2 p3 p4 v6 v14 v22 v30 v39 b93) [(.int (if v14 = (42 : Int32) then (1 : Int32) else if v14 = (63 : Int32) then (1 : Int32) else (0 : Int32)))]) t := by
              intro t k
              show own_S p e below T193 (mkF m 196 (own_AIIIIIIIIIIRU p0 p1 p2 p3 p4 v6 v14 v22 v30 v39 b93) [(.int (if v14 = (42 : Int32) then (1 : Int32) else if v14 = (63 : Int32) then (1 : Int32) else (0 : Int32)))]) _
              refine XS.ifNo X193.here hx rfl (hb hby at_196) rfl ((if0 _ _).trans (teq hc196).2) ?_
              show own_S p e below T193 (mkF m 199 (own_AIIIIIIIIIIRU p0 p1 p2 p3 p4 v6 v14 v22 v30 v39 b93) []) _
              refine XS.iload X193.here hx rfl (hb hby at_199) rfl ?_
              show own_S p e below T193 (mkF m 201 (own_AIIIIIIIIIIRU p0 p1 p2 p3 p4 v6 v14 v22 v30 v39 b93) [(.int v6)]) _
              refine XS.iconst X193.here hx rfl (hb hby at_201) ?_
              show own_S p e below T193 (mkF m 202 (own_AIIIIIIIIIIRU p0 p1 p2 p3 p4 v6 v14 v22 v30 v39 b93) [(.int (1 : Int32)), (.int v6)]) _
              refine XS.icmpNo X193.here hx rfl (hb hby at_202) rfl (tlt (by rw [hn2]; decide : (1 : Int32) < v6)).2.2.2 ?_
              show own_S p e below T193 (mkF m 205 (own_AIIIIIIIIIIRU p0 p1 p2 p3 p4 v6 v14 v22 v30 v39 b93) []) _
              refine XS.iload X193.here hx rfl (hb hby at_205) rfl ?_
              exact k
            obtain ⟨_, _, ⟨T207, L207, k207, n207⟩, -, X207, ⟨Lc207, hQ207, l207, y207, z207⟩, st207⟩ := Jvm.LawKit.callS X193 hx (y := (⟨"com/example/spojka/spojka/PathPatternHoldsWildcardsPinLaw", "wild", "(C)Z"⟩ : MethodName)) hown (mvT hZ (hw _ (List.mem_of_getElem? (i := 77) rfl))) (mvT hZ (hw _ (List.mem_of_getElem? (i := 78) rfl))) (mvT hZ (hw _ (List.mem_of_getElem? (i := 79) rfl))) (mvT hZ (hw _ (List.mem_of_getElem? (i := 80) rfl))) (by decide) (backOf (W := 0) (rm17 l Z a0 hw [] v22 T110.heap n0 Z110) hZ (hw _ (List.mem_of_getElem? (i := 80) rfl)) (hw _ (List.mem_of_getElem? (i := 79) rfl)) (by decide) (by decide)) (g := (mkF m 207 (own_AIIIIIIIIIIRU p0 p1 p2 p3 p4 v6 v14 v22 v30 v39 b93) [(.int v22)])) rfl (by rw [hml]; rfl) (argsL := [(.int v22)]) (rest := []) (lenOf pd_0_2 rfl) rfl (by show 2 * 0 + _ ≤ _; exact Nat.le_of_eq rfl) (hb hby at_207) (fun _ _ => ⟨rfl, hq193, (by decide : 3 + 0 ≤ _), (by decide : 8 + 0 ≤ _)⟩)
            dsimp only [Pt.U, Pt.locs, Pt.cells, Pt.slots] at X207 l207 y207 z207 st207 hQ207
            subst l207 y207 z207
            obtain ⟨rfl, N207q, hq207⟩ := hQ207
            have N207 := Fr.app N193 N207q
            by_cases hc210 : (if v22 = (42 : Int32) then (1 : Int32) else if v22 = (63 : Int32) then (1 : Int32) else (0 : Int32)) = (0 : Int32)
            · rw [if_pos hc210] at hr186_s0
              have sg246 : ∀ t, own_S p e below T207 (mkF m 246 (own_AIIIIIIIIIIRU p0 p1 p2 p3 p4 v6 v14 v22 v30 v39 b93) [(.int (0 : Int32))]) t → own_S p e below T207 (mkF m 210 (own_AIIIIIIIIIIRU p0 p1 p2 p3 p4 v6 v14 v22 v30 v39 b93) [(.int (if v22 = (42 : Int32) then (1 : Int32) else if v22 = (63 : Int32) then (1 : Int32) else (0 : Int32)))]) t := by
                intro t k
                show own_S p e below T207 (mkF m 210 (own_AIIIIIIIIIIRU p0 p1 p2 p3 p4 v6 v14 v22 v30 v39 b93) [(.int (if v22 = (42 : Int32) then (1 : Int32) else if v22 = (63 : Int32) then (1 : Int32) else (0 : Int32)))]) _
                refine XS.ifNo X207.here hx rfl (hb hby at_210) rfl ((if0 _ _).trans (teq hc210).2) ?_
                show own_S p e below T207 (mkF m 213 (own_AIIIIIIIIIIRU p0 p1 p2 p3 p4 v6 v14 v22 v30 v39 b93) []) _
                refine XS.iload X207.here hx rfl (hb hby at_213) rfl ?_
                show own_S p e below T207 (mkF m 215 (own_AIIIIIIIIIIRU p0 p1 p2 p3 p4 v6 v14 v22 v30 v39 b93) [(.int v6)]) _
                refine XS.iconst X207.here hx rfl (hb hby at_215) ?_
                show own_S p e below T207 (mkF m 216 (own_AIIIIIIIIIIRU p0 p1 p2 p3 p4 v6 v14 v22 v30 v39 b93) [(.int (2 : Int32)), (.int v6)]) _
                refine XS.icmpYes X207.here hx rfl (pc0 := 216) (pc' := 227) rfl (hb hby at_216) rfl (flt (by rw [hn2]; decide : ¬ ((2 : Int32) < v6))).2.2.2 (by decide) (by decide) ?_
                show own_S p e below T207 (mkF m 227 (own_AIIIIIIIIIIRU p0 p1 p2 p3 p4 v6 v14 v22 v30 v39 b93) []) _
                refine XS.iload X207.here hx rfl (hb hby at_227) rfl ?_
                show own_S p e below T207 (mkF m 229 (own_AIIIIIIIIIIRU p0 p1 p2 p3 p4 v6 v14 v22 v30 v39 b93) [(.int v6)]) _
                refine XS.iconst X207.here hx rfl (hb hby at_229) ?_
                show own_S p e below T207 (mkF m 230 (own_AIIIIIIIIIIRU p0 p1 p2 p3 p4 v6 v14 v22 v30 v39 b93) [(.int (3 : Int32)), (.int v6)]) _
                refine XS.icmpYes X207.here hx rfl (pc0 := 230) (pc' := 245) rfl (hb hby at_230) rfl (flt (by rw [hn2]; decide : ¬ ((3 : Int32) < v6))).2.2.2 (by decide) (by decide) ?_
                show own_S p e below T207 (mkF m 245 (own_AIIIIIIIIIIRU p0 p1 p2 p3 p4 v6 v14 v22 v30 v39 b93) []) _
                refine XS.iconst X207.here hx rfl (hb hby at_245) ?_
                exact k
              rw [hr186_s0]
              exact ⟨T207, _, X207, N207, hq207, fun t k => (sg193 t (st193 t (sg207 t (st207 t (sg246 t k)))))⟩
            · rw [if_neg hc210] at hr186_s0
              have sg246 : ∀ t, own_S p e below T207 (mkF m 246 (own_AIIIIIIIIIIRU p0 p1 p2 p3 p4 v6 v14 v22 v30 v39 b93) [(.int (1 : Int32))]) t → own_S p e below T207 (mkF m 210 (own_AIIIIIIIIIIRU p0 p1 p2 p3 p4 v6 v14 v22 v30 v39 b93) [(.int (if v22 = (42 : Int32) then (1 : Int32) else if v22 = (63 : Int32) then (1 : Int32) else (0 : Int32)))]) t := by
                intro t k
                show own_S p e below T207 (mkF m 210 (own_AIIIIIIIIIIRU p0 p1 p2 p3 p4 v6 v14 v22 v30 v39 b93) [(.int (if v22 = (42 : Int32) then (1 : Int32) else if v22 = (63 : Int32) then (1 : Int32) else (0 : Int32)))]) _
                refine XS.ifYes X207.here hx rfl (pc0 := 210) (pc' := 241) rfl (hb hby at_210) rfl ((if0 _ _).trans (feq hc210).2) (by decide) (by decide) ?_
                show own_S p e below T207 (mkF m 241 (own_AIIIIIIIIIIRU p0 p1 p2 p3 p4 v6 v14 v22 v30 v39 b93) []) _
                refine XS.iconst X207.here hx rfl (hb hby at_241) ?_
                show own_S p e below T207 (mkF m 242 (own_AIIIIIIIIIIRU p0 p1 p2 p3 p4 v6 v14 v22 v30 v39 b93) [(.int (1 : Int32))]) _
                refine XS.goto X207.here hx rfl (pc0 := 242) (pc' := 246) rfl (hb hby at_242) (by decide) (by decide) ?_
                exact k
              rw [hr186_s0]
              exact ⟨T207, _, X207, N207, hq207, fun t k => (sg193 t (st193 t (sg207 t (st207 t (sg246 t k)))))⟩
          · rw [if_neg hc196] at hr186_s0
            have sg246 : ∀ t, own_S p e below T193 (mkF m 246 (own_AIIIIIIIIIIRU p0 p1 p2 p3 p4 v6 v14 v22 v30 v39 b93) [(.int (1 : Int32))]) t → own_S p e below T193 (mkF m 196 (own_AIIIIIIIIIIRU p0 p1 p2 p3 p4 v6 v14 v22 v30 v39 b93) [(.int (if v14 = (42 : Int32) then (1 : Int32) else if v14 = (63 : Int32) then (1 : Int32) else (0 : Int32)))]) t := by
              intro t k
              show own_S p e below T193 (mkF m 196 (own_AIIIIIIIIIIRU p0 p1 p2 p3 p4 v6 v14 v22 v30 v39 b93) [(.int (if v14 = (42 : Int32) then (1 : Int32) else if v14 = (63 : Int32) then (1 : Int32) else (0 : Int32)))]) _
              refine XS.ifYes X193.here hx rfl (pc0 := 196) (pc' := 241) rfl (hb hby at_196) rfl ((if0 _ _).trans (feq hc196).2) (by decide) (by decide) ?_
              show own_S p e below T193 (mkF m 241 (own_AIIIIIIIIIIRU p0 p1 p2 p3 p4 v6 v14 v22 v30 v39 b93) []) _
              refine XS.iconst X193.here hx rfl (hb hby at_241) ?_
              show own_S p e below T193 (mkF m 242 (own_AIIIIIIIIIIRU p0 p1 p2 p3 p4 v6 v14 v22 v30 v39 b93) [(.int (1 : Int32))]) _
              refine XS.goto X193.here hx rfl (pc0 := 242) (pc' := 246) rfl (hb hby at_242) (by decide) (by decide) ?_
              exact k
            rw [hr186_s0]
            exact ⟨T193, _, X193, N193, hq193, fun t k => (sg193 t (st193 t (sg246 t k)))⟩
        refine own_by str186 ?_
        have sg250 : ∀ t, own_S p e below Tr186 (mkF m 250 (own_AIIIIIIIIIIRI p0 p1 p2 p3 p4 v6 v14 v22 v30 v39 b93 r186_s0) [(.ref b93)]) t → own_S p e below Tr186 (mkF m 246 (own_AIIIIIIIIIIRU p0 p1 p2 p3 p4 v6 v14 v22 v30 v39 b93) [(.int r186_s0)]) t := by
          intro t k
          show own_S p e below Tr186 (mkF m 246 (own_AIIIIIIIIIIRU p0 p1 p2 p3 p4 v6 v14 v22 v30 v39 b93) [(.int r186_s0)]) _
          refine XS.istore Xr186.here hx rfl (hb hby at_246) rfl (l' := (own_AIIIIIIIIIIRI p0 p1 p2 p3 p4 v6 v14 v22 v30 v39 b93 r186_s0)) rfl ?_
          show own_S p e below Tr186 (mkF m 248 (own_AIIIIIIIIIIRI p0 p1 p2 p3 p4 v6 v14 v22 v30 v39 b93 r186_s0) []) _
          refine XS.aload Xr186.here hx rfl (hb hby at_248) rfl rfl ?_
          exact k
        refine own_by sg250 ?_
        obtain ⟨_, _, ⟨T250, L250, k250, n250⟩, -, X250, ⟨Lc250, hQ250, l250, y250, z250⟩, st250⟩ := Jvm.LawKit.callS Xr186 hx (y := (⟨"com/example/spojka/spojka/PathPattern", "holdsWildcards", "(Ljava/lang/String;)Z"⟩ : MethodName)) hown (mvT hZ (hw _ (List.mem_of_getElem? (i := 23) rfl))) (mvT hZ (hw _ (List.mem_of_getElem? (i := 24) rfl))) (mvT hZ (hw _ (List.mem_of_getElem? (i := 25) rfl))) (mvT hZ (hw _ (List.mem_of_getElem? (i := 26) rfl))) (by decide) (backOf (W := 0) (rm4 l Z a0 hw [] b93 t110 kb110 ([v14, v22] : List Int32) gz T110.heap n0 Z110 Eq110 Vq110 Cq110 Aq110 hp110 (Nat.le_of_ble_eq_true rfl) (O2.ext (((((O.ext E93).ext E98).wr W104 g_b98).wr W109 g_b98).keep Kq110 (allS g_b93 all0)).2) P5) hZ (hw _ (List.mem_of_getElem? (i := 26) rfl)) (hw _ (List.mem_of_getElem? (i := 25) rfl)) (by decide) (by decide)) (g := (mkF m 250 (own_AIIIIIIIIIIRI p0 p1 p2 p3 p4 v6 v14 v22 v30 v39 b93 r186_s0) [(.ref b93)])) rfl (by rw [hml]; rfl) (argsL := [(.ref b93)]) (rest := []) (lenOf pd_0_1 rfl) rfl (by show 2 * 0 + _ ≤ _; exact Nat.le_of_eq rfl) (hb hby at_250) (fun _ _ => ⟨rfl, er186, (by decide : 3 + 0 ≤ _), (by decide : 8 + 0 ≤ _)⟩)
        dsimp only [Pt.U, Pt.locs, Pt.cells, Pt.slots] at X250 l250 y250 z250 st250 hQ250
        subst l250 y250 z250
        obtain ⟨rfl, N250q, hq250⟩ := hQ250
        have N250 := Fr.app Nr186 N250q
        obtain ⟨c250, hc250⟩ : ∃ z : Int32, z = (if (42 : Int32) ∈ ([v14, v22] : List Int32) ∨ (63 : Int32) ∈ ([v14, v22] : List Int32) then (1 : Int32) else (0 : Int32)) := ⟨_, rfl⟩
        rw [← hc250] at st250
        refine own_by st250 ?_
        have sg263 : ∀ t, own_S p e below T250 (mkF m 263 (own_AIIIIIIIIIIRI p0 p1 p2 p3 p4 v6 v14 v22 v30 v39 b93 r186_s0) [(.int (1 : Int32))]) t → own_S p e below T250 (mkF m 253 (own_AIIIIIIIIIIRI p0 p1 p2 p3 p4 v6 v14 v22 v30 v39 b93 r186_s0) [(.int c250)]) t := by
          intro t k
          show own_S p e below T250 (mkF m 253 (own_AIIIIIIIIIIRI p0 p1 p2 p3 p4 v6 v14 v22 v30 v39 b93 r186_s0) [(.int c250)]) _
          refine XS.iload X250.here hx rfl (hb hby at_253) rfl ?_
          show own_S p e below T250 (mkF m 255 (own_AIIIIIIIIIIRI p0 p1 p2 p3 p4 v6 v14 v22 v30 v39 b93 r186_s0) [(.int r186_s0), (.int c250)]) _
          refine XS.icmpNo X250.here hx rfl (hb hby at_255) rfl (teq (by rw [hc250, hr186_s0]; exact own_law2 _ _ : c250 = r186_s0)).2 ?_
          show own_S p e below T250 (mkF m 258 (own_AIIIIIIIIIIRI p0 p1 p2 p3 p4 v6 v14 v22 v30 v39 b93 r186_s0) []) _
          refine XS.iconst X250.here hx rfl (hb hby at_258) ?_
          show own_S p e below T250 (mkF m 259 (own_AIIIIIIIIIIRI p0 p1 p2 p3 p4 v6 v14 v22 v30 v39 b93 r186_s0) [(.int (1 : Int32))]) _
          refine XS.goto X250.here hx rfl (pc0 := 259) (pc' := 263) rfl (hb hby at_259) (by decide) (by decide) ?_
          exact k
        refine own_by sg263 ?_
        obtain ⟨fs, hr, hrun, hended, hW⟩ := X250.leaveW hS0 (by rw [hq250]; exact (Nat.le_trans (Nat.le_trans (Nat.le_trans (Nat.le_trans (Nat.le_trans (Nat.zero_le _) E93.1) E98.1) (Keep.of_wr W104).1) (Keep.of_wr W109).1) Kq110.1)) (v := some (.int (1 : Int32))) (fun h => by rw [Bd.returns] at h; cases h)
        refine ⟨_, _, ?_, hrun, hended, _, _, rfl, ?_, (by rw [hh]; show CHr Z consts_1 s.vm h0 T250.vm T250.heap; rw [hq250]; exact CR110.trans (CHv.at X250 hZ hEL CC110.1)), hW.1, hW.2.1, hW.2.2.1, hW.2.2.2.mono (by decide) (by decide)⟩
        · exact retN X250 hx (t := .boolean) Bd.returns (by simp) (hb hby at_263) hr
        · show Q0 Z p0 p1 p2 p3 p4 gz h0 n0 _ T250.heap _
          rw [hq250]
          exact ⟨rfl, N250⟩
      · have sg121 : ∀ t, own_S p e below s₁ (mkF m 121 (own_AIIIIIIIIIIUU p0 p1 p2 p3 p4 v6 v14 v22 v30 v39) [(.int (3 : Int32)), (.int v6)]) t → own_S p e below s₁ (mkF m 90 (own_AIIIIIIIIIIUU p0 p1 p2 p3 p4 v6 v14 v22 v30 v39) [(.int (2 : Int32)), (.int v6)]) t := by
          intro t k
          show own_S p e below s₁ (mkF m 90 (own_AIIIIIIIIIIUU p0 p1 p2 p3 p4 v6 v14 v22 v30 v39) [(.int (2 : Int32)), (.int v6)]) _
          refine XS.icmpYes X0.here hx rfl (pc0 := 90) (pc' := 118) rfl (hb hby at_90) rfl (feq hc90).2 (by decide) (by decide) ?_
          show own_S p e below s₁ (mkF m 118 (own_AIIIIIIIIIIUU p0 p1 p2 p3 p4 v6 v14 v22 v30 v39) []) _
          refine XS.iload X0.here hx rfl (hb hby at_118) rfl ?_
          show own_S p e below s₁ (mkF m 120 (own_AIIIIIIIIIIUU p0 p1 p2 p3 p4 v6 v14 v22 v30 v39) [(.int v6)]) _
          refine XS.iconst X0.here hx rfl (hb hby at_120) ?_
          exact k
        refine own_by sg121 ?_
        by_cases hc121 : v6 = (3 : Int32)
        · have sg124 : ∀ t, own_S p e below s₁ (mkF m 124 (own_AIIIIIIIIIIUU p0 p1 p2 p3 p4 v6 v14 v22 v30 v39) []) t → own_S p e below s₁ (mkF m 121 (own_AIIIIIIIIIIUU p0 p1 p2 p3 p4 v6 v14 v22 v30 v39) [(.int (3 : Int32)), (.int v6)]) t := by
            intro t k
            show own_S p e below s₁ (mkF m 121 (own_AIIIIIIIIIIUU p0 p1 p2 p3 p4 v6 v14 v22 v30 v39) [(.int (3 : Int32)), (.int v6)]) _
            refine XS.icmpNo X0.here hx rfl (hb hby at_121) rfl (teq hc121).2 ?_
            exact k
          refine own_by sg124 ?_
          obtain ⟨T124, h124, X124, e124, E124, A124, D124, -, st124⟩ := newO X0 hx hZ hown (hw _ (List.mem_of_getElem? (i := 1) rfl)) (hw _ (List.mem_of_getElem? (i := 2) rfl)) (hw _ (List.mem_of_getElem? (i := 3) rfl)) e0 (g := (mkF m 124 (own_AIIIIIIIIIIUU p0 p1 p2 p3 p4 v6 v14 v22 v30 v39) [])) rfl (hb hby at_124) (by decide) (by decide)
          obtain ⟨b124, g124⟩ : ∃ z, z = h0.size := ⟨_, rfl⟩
          rw [← g124] at A124 D124 st124
          have g_b124 : n0 ≤ b124 := Nat.le_trans Z0 (Nat.le_of_eq g124.symm)
          have sz_b124 : h0.size ≤ b124 := Nat.le_trans K0.1 (Nat.le_of_eq g124.symm)
          have K124 := K0.ext E124
          have Z124 : n0 ≤ h124.size := Nat.le_trans Z0 E124.1
          have CC124 := CHr.ext E124 hH0
          have CR124 := (CHr.refl hH0).trans CC124
          have F_value_b124 : Fld Z h124 b124 "java/lang/String" "value" "[B" .null := D124 (Or.inr (hw _ (List.mem_of_getElem? (i := 17) rfl))) (ty := (.array .byte)) (by decide)
          have F_coder_b124 : Fld Z h124 b124 "java/lang/String" "coder" "B" (.int (0 : Int32)) := D124 (Or.inr (hw _ (List.mem_of_getElem? (i := 18) rfl))) (ty := .byte) (by decide)
          refine own_by st124 ?_
          have sg129 : ∀ t, own_S p e below T124 (mkF m 129 (own_AIIIIIIIIIIUU p0 p1 p2 p3 p4 v6 v14 v22 v30 v39) [(.int (3 : Int32)), (.ref b124), (.ref b124)]) t → own_S p e below T124 (mkF m 127 (own_AIIIIIIIIIIUU p0 p1 p2 p3 p4 v6 v14 v22 v30 v39) [(.ref b124)]) t := by
            intro t k
            show own_S p e below T124 (mkF m 127 (own_AIIIIIIIIIIUU p0 p1 p2 p3 p4 v6 v14 v22 v30 v39) [(.ref b124)]) _
            refine XS.dup X124.here hx rfl (hb hby at_127) rfl rfl ?_
            show own_S p e below T124 (mkF m 128 (own_AIIIIIIIIIIUU p0 p1 p2 p3 p4 v6 v14 v22 v30 v39) [(.ref b124), (.ref b124)]) _
            refine XS.iconst X124.here hx rfl (hb hby at_128) ?_
            exact k
          refine own_by sg129 ?_
          obtain ⟨T129, h129, kc129, X129, e129, E129, A129, st129⟩ := newP X124 hx hZ (hw _ (List.mem_of_getElem? (i := 4) rfl)) e124 (g := (mkF m 129 (own_AIIIIIIIIIIUU p0 p1 p2 p3 p4 v6 v14 v22 v30 v39) [(.int (3 : Int32)), (.ref b124), (.ref b124)])) rfl (hb hby at_129) rfl (by decide) (cap := 3) (by decide) (by decide) (by decide) (by decide)
          obtain ⟨b129, g129⟩ : ∃ z, z = h124.size := ⟨_, rfl⟩
          rw [← g129] at A129 st129
          have ne_b124_b129 : b124 ≠ b129 := Nat.ne_of_lt (Nat.lt_of_lt_of_le A124.lt (Nat.le_of_eq g129.symm))
          have g_b129 : n0 ≤ b129 := Nat.le_trans Z124 (Nat.le_of_eq g129.symm)
          have sz_b129 : h0.size ≤ b129 := Nat.le_trans K124.1 (Nat.le_of_eq g129.symm)
          have K129 := K124.ext E129
          have Z129 : n0 ≤ h129.size := Nat.le_trans Z124 E129.1
          have CC129 := CHr.ext E129 CC124.1
          have CR129 := CR124.trans CC129
          have V129 : Arv Z h129 b129 kc129 .char (3 : Int32) [(.int (0 : Int32)), (.int (0 : Int32)), (.int (0 : Int32))] (.int (0 : Int32)) := (Arv.new A129 (by decide)).pad (pad_rep [] (.int (0 : Int32)) 3)
          refine own_by st129 ?_
          have sg135 : ∀ t, own_S p e below T129 (mkF m 135 (own_AIIIIIIIIIIUU p0 p1 p2 p3 p4 v6 v14 v22 v30 v39) [(.int v14), (.int (0 : Int32)), (.ref b129), (.ref b129), (.ref b124), (.ref b124)]) t → own_S p e below T129 (mkF m 131 (own_AIIIIIIIIIIUU p0 p1 p2 p3 p4 v6 v14 v22 v30 v39) [(.ref b129), (.ref b124), (.ref b124)]) t := by
            intro t k
            show own_S p e below T129 (mkF m 131 (own_AIIIIIIIIIIUU p0 p1 p2 p3 p4 v6 v14 v22 v30 v39) [(.ref b129), (.ref b124), (.ref b124)]) _
            refine XS.dup X129.here hx rfl (hb hby at_131) rfl rfl ?_
            show own_S p e below T129 (mkF m 132 (own_AIIIIIIIIIIUU p0 p1 p2 p3 p4 v6 v14 v22 v30 v39) [(.ref b129), (.ref b129), (.ref b124), (.ref b124)]) _
            refine XS.iconst X129.here hx rfl (hb hby at_132) ?_
            show own_S p e below T129 (mkF m 133 (own_AIIIIIIIIIIUU p0 p1 p2 p3 p4 v6 v14 v22 v30 v39) [(.int (0 : Int32)), (.ref b129), (.ref b129), (.ref b124), (.ref b124)]) _
            refine XS.iload X129.here hx rfl (hb hby at_133) rfl ?_
            exact k
          refine own_by sg135 ?_
          obtain ⟨cl135, Ar135, qa135, Sa135, Na135, Ha135, Ga135⟩ := id V129
          obtain ⟨T135, h135, X135, e135, W135, st135⟩ := stC X129 hx hZ e129 Ar135 (j := (0 : Int32)) (inb_of Sa135 ⟨by decide, by decide⟩) (g := (mkF m 135 (own_AIIIIIIIIIIUU p0 p1 p2 p3 p4 v6 v14 v22 v30 v39) [(.int v14), (.int (0 : Int32)), (.ref b129), (.ref b129), (.ref b124), (.ref b124)])) rfl rfl (hb hby at_135)
          have V135 : Arv Z h135 b129 kc129 .char (3 : Int32) [(.int v14), (.int (0 : Int32)), (.int (0 : Int32))] (.int (0 : Int32)) := by
            have q := Arv.set Ar135 qa135 Sa135 Na135 Ha135 Ga135 (fits_nar_char _) W135 0 rfl (Nat.le_of_ble_eq_true rfl)
            rw [own_narc hk_v14] at q
            exact q
          have K135 : Keep h0 h135 [] := K129.wr W135 (Or.inr sz_b129)
          have Z135 : n0 ≤ h135.size := Nat.le_trans Z129 (Keep.of_wr W135).1
          have CC135 := CHr.wr W135 (Safe.arv hZ.alike V129 (by decide)) CC129.1
          have CR135 := CR129.trans CC135
          have N135 := Fr.snoc X135 N0 g_b129
          refine own_by st135 ?_
          have sg140 : ∀ t, own_S p e below T135 (mkF m 140 (own_AIIIIIIIIIIUU p0 p1 p2 p3 p4 v6 v14 v22 v30 v39) [(.int v22), (.int (1 : Int32)), (.ref b129), (.ref b129), (.ref b124), (.ref b124)]) t → own_S p e below T135 (mkF m 136 (own_AIIIIIIIIIIUU p0 p1 p2 p3 p4 v6 v14 v22 v30 v39) [(.ref b129), (.ref b124), (.ref b124)]) t := by
            intro t k
            show own_S p e below T135 (mkF m 136 (own_AIIIIIIIIIIUU p0 p1 p2 p3 p4 v6 v14 v22 v30 v39) [(.ref b129), (.ref b124), (.ref b124)]) _
            refine XS.dup X135.here hx rfl (hb hby at_136) rfl rfl ?_
            show own_S p e below T135 (mkF m 137 (own_AIIIIIIIIIIUU p0 p1 p2 p3 p4 v6 v14 v22 v30 v39) [(.ref b129), (.ref b129), (.ref b124), (.ref b124)]) _
            refine XS.iconst X135.here hx rfl (hb hby at_137) ?_
            show own_S p e below T135 (mkF m 138 (own_AIIIIIIIIIIUU p0 p1 p2 p3 p4 v6 v14 v22 v30 v39) [(.int (1 : Int32)), (.ref b129), (.ref b129), (.ref b124), (.ref b124)]) _
            refine XS.iload X135.here hx rfl (hb hby at_138) rfl ?_
            exact k
          refine own_by sg140 ?_
          obtain ⟨cl140, Ar140, qa140, Sa140, Na140, Ha140, Ga140⟩ := id V135
          obtain ⟨T140, h140, X140, e140, W140, st140⟩ := stC X135 hx hZ e135 Ar140 (j := (1 : Int32)) (inb_of Sa140 ⟨by decide, by decide⟩) (g := (mkF m 140 (own_AIIIIIIIIIIUU p0 p1 p2 p3 p4 v6 v14 v22 v30 v39) [(.int v22), (.int (1 : Int32)), (.ref b129), (.ref b129), (.ref b124), (.ref b124)])) rfl rfl (hb hby at_140)
          have V140 : Arv Z h140 b129 kc129 .char (3 : Int32) [(.int v14), (.int v22), (.int (0 : Int32))] (.int (0 : Int32)) := by
            have q := Arv.set Ar140 qa140 Sa140 Na140 Ha140 Ga140 (fits_nar_char _) W140 1 rfl (Nat.le_of_ble_eq_true rfl)
            rw [own_narc hk_v22] at q
            exact q
          have fc := (((F_value_b124.ext E129).other W135 (Or.inl ne_b124_b129)).other W140 (Or.inl ne_b124_b129))
          have fc_2 := (((F_coder_b124.ext E129).other W135 (Or.inl ne_b124_b129)).other W140 (Or.inl ne_b124_b129))
          have K140 : Keep h0 h140 [] := K135.wr W140 (Or.inr sz_b129)
          have Z140 : n0 ≤ h140.size := Nat.le_trans Z135 (Keep.of_wr W140).1
          have CC140 := CHr.wr W140 (Safe.arv hZ.alike V135 (by decide)) CC135.1
          have CR140 := CR135.trans CC140
          have N140 := Fr.snoc X140 N135 g_b129
          refine own_by st140 ?_
          have sg145 : ∀ t, own_S p e below T140 (mkF m 145 (own_AIIIIIIIIIIUU p0 p1 p2 p3 p4 v6 v14 v22 v30 v39) [(.int v30), (.int (2 : Int32)), (.ref b129), (.ref b129), (.ref b124), (.ref b124)]) t → own_S p e below T140 (mkF m 141 (own_AIIIIIIIIIIUU p0 p1 p2 p3 p4 v6 v14 v22 v30 v39) [(.ref b129), (.ref b124), (.ref b124)]) t := by
            intro t k
            show own_S p e below T140 (mkF m 141 (own_AIIIIIIIIIIUU p0 p1 p2 p3 p4 v6 v14 v22 v30 v39) [(.ref b129), (.ref b124), (.ref b124)]) _
            refine XS.dup X140.here hx rfl (hb hby at_141) rfl rfl ?_
            show own_S p e below T140 (mkF m 142 (own_AIIIIIIIIIIUU p0 p1 p2 p3 p4 v6 v14 v22 v30 v39) [(.ref b129), (.ref b129), (.ref b124), (.ref b124)]) _
            refine XS.iconst X140.here hx rfl (hb hby at_142) ?_
            show own_S p e below T140 (mkF m 143 (own_AIIIIIIIIIIUU p0 p1 p2 p3 p4 v6 v14 v22 v30 v39) [(.int (2 : Int32)), (.ref b129), (.ref b129), (.ref b124), (.ref b124)]) _
            refine XS.iload X140.here hx rfl (hb hby at_143) rfl ?_
            exact k
          refine own_by sg145 ?_
          obtain ⟨cl145, Ar145, qa145, Sa145, Na145, Ha145, Ga145⟩ := id V140
          obtain ⟨T145, h145, X145, e145, W145, st145⟩ := stC X140 hx hZ e140 Ar145 (j := (2 : Int32)) (inb_of Sa145 ⟨by decide, by decide⟩) (g := (mkF m 145 (own_AIIIIIIIIIIUU p0 p1 p2 p3 p4 v6 v14 v22 v30 v39) [(.int v30), (.int (2 : Int32)), (.ref b129), (.ref b129), (.ref b124), (.ref b124)])) rfl rfl (hb hby at_145)
          have V145 : Arv Z h145 b129 kc129 .char (3 : Int32) [(.int v14), (.int v22), (.int v30)] (.int (0 : Int32)) := by
            have q := Arv.set Ar145 qa145 Sa145 Na145 Ha145 Ga145 (fits_nar_char _) W145 2 rfl (Nat.le_of_ble_eq_true rfl)
            rw [own_narc hk_v30] at q
            exact q
          have K145 : Keep h0 h145 [] := K140.wr W145 (Or.inr sz_b129)
          have Z145 : n0 ≤ h145.size := Nat.le_trans Z140 (Keep.of_wr W145).1
          have CC145 := CHr.wr W145 (Safe.arv hZ.alike V140 (by decide)) CC140.1
          have CR145 := CR140.trans CC145
          have N145 := Fr.snoc X145 N140 g_b129
          refine own_by st145 ?_
          have hn3 : v6 = (3 : Int32) := hc121
          have hp146 : ∀ c ∈ ([v14, v22, v30] : List Int32), ¬ c < 0 ∧ ¬ (255 : Int32) < c := by
            intro c hc
            simp only [List.mem_cons, List.not_mem_nil, or_false] at hc
            rcases hc with rfl | rfl | rfl
            · exact hk_v14
            · exact hk_v22
            · exact hk_v30
          obtain ⟨_, _, ⟨T146, L146, k146, n146⟩, -, X146, ⟨Lc146, hQ146, l146, y146, z146⟩, st146⟩ := X145.specialBack hx (y := (⟨"java/lang/String", "<init>", "([C)V"⟩ : MethodName)) rfl hown (mvT hZ (hw _ (List.mem_of_getElem? (i := 5) rfl))) (mvT hZ (hw _ (List.mem_of_getElem? (i := 6) rfl))) (mvT hZ (hw _ (List.mem_of_getElem? (i := 7) rfl))) (by decide) (StrChars.Road.backV (W := 1) hZ hws (kI := 4) (hw _ (List.mem_of_getElem? (i := 2) rfl)) (cs := ([v14, v22, v30] : List Int32)) (bs := ([v14, v22, v30] : List Int32).map (fun c => c.toInt8.toInt32)) (n := 3) g_b124 Z145 ((((A124.ext E129).wr W135).wr W140).wr W145) (fc.other W145 (Or.inl ne_b124_b129)) (fc_2.other W145 (Or.inl ne_b124_b129)) V145 (O2.ext (((((O.ext E124).ext E129).wr W135 g_b129).wr W140 g_b129).wr W145 g_b129).2) P5 rfl rfl (by decide) (by decide) hp146 rfl (by decide) (by decide)) (g := (mkF m 146 (own_AIIIIIIIIIIUU p0 p1 p2 p3 p4 v6 v14 v22 v30 v39) [(.ref b129), (.ref b124), (.ref b124)])) rfl (by rw [hml]; rfl) (Steps.refl _) (a := b124) (argsL := [(.ref b129)]) (rest := [(.ref b124)]) (lenOf pd_0_0 rfl) rfl (by show 2 * 0 + _ ≤ _; exact Nat.le_of_eq rfl) (hb hby at_146) (fun _ _ => ⟨rfl, e145, (by decide : 2 + 1 ≤ _), (by decide : 7 + 3 ≤ _)⟩)
          dsimp only [Pt.U, Pt.locs, Pt.cells, Pt.slots] at X146 l146 y146 z146 st146 hQ146
          subst l146 y146 z146
          obtain ⟨rfl, N146q, Kq146, Eq146, Cq146, t146, kb146, u1146, u2146, u3146, Vq146, Aq146⟩ := hQ146
          have N146 := Fr.app N145 N146q
          have ne_b124_t146 : b124 ≠ t146 := Nat.ne_of_lt (Nat.lt_of_lt_of_le ((((A124.ext E129).wr W135).wr W140).wr W145).lt u2146)
          have ne_b129_t146 : b129 ≠ t146 := Nat.ne_of_lt (Nat.lt_of_lt_of_le V145.lt u2146)
          have g_t146 : n0 ≤ t146 := Nat.le_trans Z145 u2146
          have sz_t146 : h0.size ≤ t146 := Nat.le_trans K145.1 u2146
          have fc_3 := (V145.keep Kq146 (fun h => (Ne.symm ne_b124_b129) (List.mem_singleton.mp h)))
          have K146 : Keep h0 T146.heap [] := K145.trans Kq146 (fun x hx => by cases List.mem_singleton.mp hx; exact Or.inr sz_b124)
          have Z146 : n0 ≤ T146.heap.size := Nat.le_trans Z145 Kq146.1
          have CC146 := CHr.keep Kq146 (sfS (own_safe0 hZ.alike ((((A124.ext E129).wr W135).wr W140).wr W145) (fc.other W145 (Or.inl ne_b124_b129)) (hw _ (List.mem_of_getElem? (i := 2) rfl))) sf0) CC145.1
          have CR146 := CR145.trans CC146
          refine own_by (fun t k => st146.trans k) ?_
          have sg186 : ∀ t, own_S p e below T146 (mkF m 186 (own_AIIIIIIIIIIRU p0 p1 p2 p3 p4 v6 v14 v22 v30 v39 b124) []) t → own_S p e below T146 (mkF m 149 (own_AIIIIIIIIIIUU p0 p1 p2 p3 p4 v6 v14 v22 v30 v39) [(.ref b124)]) t := by
            intro t k
            show own_S p e below T146 (mkF m 149 (own_AIIIIIIIIIIUU p0 p1 p2 p3 p4 v6 v14 v22 v30 v39) [(.ref b124)]) _
            refine XS.astore X146.here hx rfl (hb hby at_149) rfl rfl (l' := (own_AIIIIIIIIIIRU p0 p1 p2 p3 p4 v6 v14 v22 v30 v39 b124)) rfl ?_
            show own_S p e below T146 (mkF m 151 (own_AIIIIIIIIIIRU p0 p1 p2 p3 p4 v6 v14 v22 v30 v39 b124) []) _
            refine XS.goto X146.here hx rfl (pc0 := 151) (pc' := 186) rfl (hb hby at_151) (by decide) (by decide) ?_
            exact k
          refine own_by sg186 ?_
          obtain ⟨r186_s0, hr186_s0⟩ : ∃ z : Int32, z = (if (if v14 = (42 : Int32) then (1 : Int32) else if v14 = (63 : Int32) then (1 : Int32) else (0 : Int32)) = (0 : Int32) then (if (if v22 = (42 : Int32) then (1 : Int32) else if v22 = (63 : Int32) then (1 : Int32) else (0 : Int32)) = (0 : Int32) then (if (if v30 = (42 : Int32) then (1 : Int32) else if v30 = (63 : Int32) then (1 : Int32) else (0 : Int32)) = (0 : Int32) then (0 : Int32) else (1 : Int32)) else (1 : Int32)) else (1 : Int32)) := ⟨_, rfl⟩
          obtain ⟨Tr186, Lr186, Xr186, Nr186, er186, str186⟩ : ∃ T' L', Stand p l e room_1 (s.setVm s.vm) m #[(.int p0), (.int p1), (.int p2), (.int p3), (.int p4)] below meth c T' L' 3 10 ∧ Fr n0 L' ∧ T'.heap = T146.heap ∧ ∀ t, own_S p e below T' (mkF m 246 (own_AIIIIIIIIIIRU p0 p1 p2 p3 p4 v6 v14 v22 v30 v39 b124) [(.int r186_s0)]) t → own_S p e below T146 (mkF m 186 (own_AIIIIIIIIIIRU p0 p1 p2 p3 p4 v6 v14 v22 v30 v39 b124) []) t := by
            have sg193 : ∀ t, own_S p e below T146 (mkF m 193 (own_AIIIIIIIIIIRU p0 p1 p2 p3 p4 v6 v14 v22 v30 v39 b124) [(.int v14)]) t → own_S p e below T146 (mkF m 186 (own_AIIIIIIIIIIRU p0 p1 p2 p3 p4 v6 v14 v22 v30 v39 b124) []) t := by
              intro t k
              show own_S p e below T146 (mkF m 186 (own_AIIIIIIIIIIRU p0 p1 p2 p3 p4 v6 v14 v22 v30 v39 b124) []) _
              refine XS.iload X146.here hx rfl (hb hby at_186) rfl ?_
              show own_S p e below T146 (mkF m 188 (own_AIIIIIIIIIIRU p0 p1 p2 p3 p4 v6 v14 v22 v30 v39 b124) [(.int v6)]) _
              refine XS.ifNo X146.here hx rfl (hb hby at_188) rfl ((if0 _ _).trans (tlt (by rw [hn3]; decide : (0 : Int32) < v6)).2.2.2) ?_
              show own_S p e below T146 (mkF m 191 (own_AIIIIIIIIIIRU p0 p1 p2 p3 p4 v6 v14 v22 v30 v39 b124) []) _
              refine XS.iload X146.here hx rfl (hb hby at_191) rfl ?_
              exact k
            obtain ⟨_, _, ⟨T193, L193, k193, n193⟩, -, X193, ⟨Lc193, hQ193, l193, y193, z193⟩, st193⟩ := Jvm.LawKit.callS X146 hx (y := (⟨"com/example/spojka/spojka/PathPatternHoldsWildcardsPinLaw", "wild", "(C)Z"⟩ : MethodName)) hown (mvT hZ (hw _ (List.mem_of_getElem? (i := 77) rfl))) (mvT hZ (hw _ (List.mem_of_getElem? (i := 78) rfl))) (mvT hZ (hw _ (List.mem_of_getElem? (i := 79) rfl))) (mvT hZ (hw _ (List.mem_of_getElem? (i := 80) rfl))) (by decide) (backOf (W := 0) (rm17 l Z a0 hw [] v14 T146.heap n0 Z146) hZ (hw _ (List.mem_of_getElem? (i := 80) rfl)) (hw _ (List.mem_of_getElem? (i := 79) rfl)) (by decide) (by decide)) (g := (mkF m 193 (own_AIIIIIIIIIIRU p0 p1 p2 p3 p4 v6 v14 v22 v30 v39 b124) [(.int v14)])) rfl (by rw [hml]; rfl) (argsL := [(.int v14)]) (rest := []) (lenOf pd_0_2 rfl) rfl (by show 2 * 0 + _ ≤ _; exact Nat.le_of_eq rfl) (hb hby at_193) (fun _ _ => ⟨rfl, rfl, (by decide : 3 + 0 ≤ _), (by decide : 10 + 0 ≤ _)⟩)
            dsimp only [Pt.U, Pt.locs, Pt.cells, Pt.slots] at X193 l193 y193 z193 st193 hQ193
            subst l193 y193 z193
            obtain ⟨rfl, N193q, hq193⟩ := hQ193
            have N193 := Fr.app N146 N193q
            by_cases hc196 : (if v14 = (42 : Int32) then (1 : Int32) else if v14 = (63 : Int32) then (1 : Int32) else (0 : Int32)) = (0 : Int32)
            · rw [if_pos hc196] at hr186_s0
              have sg207 : ∀ t, own_S p e below T193 (mkF m 207 (own_AIIIIIIIIIIRU p0 p1 p2 p3 p4 v6 v14 v22 v30 v39 b124) [(.int v22)]) t → own_S p e below T193 (mkF m 196 (own_AIIIIIIIIIIRU p0 p1 p2 p3 p4 v6 v14 v22 v30 v39 b124) [(.int (if v14 = (42 : Int32) then (1 : Int32) else if v14 = (63 : Int32) then (1 : Int32) else (0 : Int32)))]) t := by
                intro t k
                show own_S p e below T193 (mkF m 196 (own_AIIIIIIIIIIRU p0 p1 p2 p3 p4 v6 v14 v22 v30 v39 b124) [(.int (if v14 = (42 : Int32) then (1 : Int32) else if v14 = (63 : Int32) then (1 : Int32) else (0 : Int32)))]) _
                refine XS.ifNo X193.here hx rfl (hb hby at_196) rfl ((if0 _ _).trans (teq hc196).2) ?_
                show own_S p e below T193 (mkF m 199 (own_AIIIIIIIIIIRU p0 p1 p2 p3 p4 v6 v14 v22 v30 v39 b124) []) _
                refine XS.iload X193.here hx rfl (hb hby at_199) rfl ?_
                show own_S p e below T193 (mkF m 201 (own_AIIIIIIIIIIRU p0 p1 p2 p3 p4 v6 v14 v22 v30 v39 b124) [(.int v6)]) _
                refine XS.iconst X193.here hx rfl (hb hby at_201) ?_
                show own_S p e below T193 (mkF m 202 (own_AIIIIIIIIIIRU p0 p1 p2 p3 p4 v6 v14 v22 v30 v39 b124) [(.int (1 : Int32)), (.int v6)]) _
                refine XS.icmpNo X193.here hx rfl (hb hby at_202) rfl (tlt (by rw [hn3]; decide : (1 : Int32) < v6)).2.2.2 ?_
                show own_S p e below T193 (mkF m 205 (own_AIIIIIIIIIIRU p0 p1 p2 p3 p4 v6 v14 v22 v30 v39 b124) []) _
                refine XS.iload X193.here hx rfl (hb hby at_205) rfl ?_
                exact k
              obtain ⟨_, _, ⟨T207, L207, k207, n207⟩, -, X207, ⟨Lc207, hQ207, l207, y207, z207⟩, st207⟩ := Jvm.LawKit.callS X193 hx (y := (⟨"com/example/spojka/spojka/PathPatternHoldsWildcardsPinLaw", "wild", "(C)Z"⟩ : MethodName)) hown (mvT hZ (hw _ (List.mem_of_getElem? (i := 77) rfl))) (mvT hZ (hw _ (List.mem_of_getElem? (i := 78) rfl))) (mvT hZ (hw _ (List.mem_of_getElem? (i := 79) rfl))) (mvT hZ (hw _ (List.mem_of_getElem? (i := 80) rfl))) (by decide) (backOf (W := 0) (rm17 l Z a0 hw [] v22 T146.heap n0 Z146) hZ (hw _ (List.mem_of_getElem? (i := 80) rfl)) (hw _ (List.mem_of_getElem? (i := 79) rfl)) (by decide) (by decide)) (g := (mkF m 207 (own_AIIIIIIIIIIRU p0 p1 p2 p3 p4 v6 v14 v22 v30 v39 b124) [(.int v22)])) rfl (by rw [hml]; rfl) (argsL := [(.int v22)]) (rest := []) (lenOf pd_0_2 rfl) rfl (by show 2 * 0 + _ ≤ _; exact Nat.le_of_eq rfl) (hb hby at_207) (fun _ _ => ⟨rfl, hq193, (by decide : 3 + 0 ≤ _), (by decide : 10 + 0 ≤ _)⟩)
              dsimp only [Pt.U, Pt.locs, Pt.cells, Pt.slots] at X207 l207 y207 z207 st207 hQ207
              subst l207 y207 z207
              obtain ⟨rfl, N207q, hq207⟩ := hQ207
              have N207 := Fr.app N193 N207q
              by_cases hc210 : (if v22 = (42 : Int32) then (1 : Int32) else if v22 = (63 : Int32) then (1 : Int32) else (0 : Int32)) = (0 : Int32)
              · rw [if_pos hc210] at hr186_s0
                have sg221 : ∀ t, own_S p e below T207 (mkF m 221 (own_AIIIIIIIIIIRU p0 p1 p2 p3 p4 v6 v14 v22 v30 v39 b124) [(.int v30)]) t → own_S p e below T207 (mkF m 210 (own_AIIIIIIIIIIRU p0 p1 p2 p3 p4 v6 v14 v22 v30 v39 b124) [(.int (if v22 = (42 : Int32) then (1 : Int32) else if v22 = (63 : Int32) then (1 : Int32) else (0 : Int32)))]) t := by
                  intro t k
                  show own_S p e below T207 (mkF m 210 (own_AIIIIIIIIIIRU p0 p1 p2 p3 p4 v6 v14 v22 v30 v39 b124) [(.int (if v22 = (42 : Int32) then (1 : Int32) else if v22 = (63 : Int32) then (1 : Int32) else (0 : Int32)))]) _
                  refine XS.ifNo X207.here hx rfl (hb hby at_210) rfl ((if0 _ _).trans (teq hc210).2) ?_
                  show own_S p e below T207 (mkF m 213 (own_AIIIIIIIIIIRU p0 p1 p2 p3 p4 v6 v14 v22 v30 v39 b124) []) _
                  refine XS.iload X207.here hx rfl (hb hby at_213) rfl ?_
                  show own_S p e below T207 (mkF m 215 (own_AIIIIIIIIIIRU p0 p1 p2 p3 p4 v6 v14 v22 v30 v39 b124) [(.int v6)]) _
                  refine XS.iconst X207.here hx rfl (hb hby at_215) ?_
                  show own_S p e below T207 (mkF m 216 (own_AIIIIIIIIIIRU p0 p1 p2 p3 p4 v6 v14 v22 v30 v39 b124) [(.int (2 : Int32)), (.int v6)]) _
                  refine XS.icmpNo X207.here hx rfl (hb hby at_216) rfl (tlt (by rw [hn3]; decide : (2 : Int32) < v6)).2.2.2 ?_
                  show own_S p e below T207 (mkF m 219 (own_AIIIIIIIIIIRU p0 p1 p2 p3 p4 v6 v14 v22 v30 v39 b124) []) _
                  refine XS.iload X207.here hx rfl (hb hby at_219) rfl ?_
                  exact k
                obtain ⟨_, _, ⟨T221, L221, k221, n221⟩, -, X221, ⟨Lc221, hQ221, l221, y221, z221⟩, st221⟩ := Jvm.LawKit.callS X207 hx (y := (⟨"com/example/spojka/spojka/PathPatternHoldsWildcardsPinLaw", "wild", "(C)Z"⟩ : MethodName)) hown (mvT hZ (hw _ (List.mem_of_getElem? (i := 77) rfl))) (mvT hZ (hw _ (List.mem_of_getElem? (i := 78) rfl))) (mvT hZ (hw _ (List.mem_of_getElem? (i := 79) rfl))) (mvT hZ (hw _ (List.mem_of_getElem? (i := 80) rfl))) (by decide) (backOf (W := 0) (rm17 l Z a0 hw [] v30 T146.heap n0 Z146) hZ (hw _ (List.mem_of_getElem? (i := 80) rfl)) (hw _ (List.mem_of_getElem? (i := 79) rfl)) (by decide) (by decide)) (g := (mkF m 221 (own_AIIIIIIIIIIRU p0 p1 p2 p3 p4 v6 v14 v22 v30 v39 b124) [(.int v30)])) rfl (by rw [hml]; rfl) (argsL := [(.int v30)]) (rest := []) (lenOf pd_0_2 rfl) rfl (by show 2 * 0 + _ ≤ _; exact Nat.le_of_eq rfl) (hb hby at_221) (fun _ _ => ⟨rfl, hq207, (by decide : 3 + 0 ≤ _), (by decide : 10 + 0 ≤ _)⟩)
                dsimp only [Pt.U, Pt.locs, Pt.cells, Pt.slots] at X221 l221 y221 z221 st221 hQ221
                subst l221 y221 z221
                obtain ⟨rfl, N221q, hq221⟩ := hQ221
                have N221 := Fr.app N207 N221q
                by_cases hc224 : (if v30 = (42 : Int32) then (1 : Int32) else if v30 = (63 : Int32) then (1 : Int32) else (0 : Int32)) = (0 : Int32)
                · rw [if_pos hc224] at hr186_s0
                  have sg246 : ∀ t, own_S p e below T221 (mkF m 246 (own_AIIIIIIIIIIRU p0 p1 p2 p3 p4 v6 v14 v22 v30 v39 b124) [(.int (0 : Int32))]) t → own_S p e below T221 (mkF m 224 (own_AIIIIIIIIIIRU p0 p1 p2 p3 p4 v6 v14 v22 v30 v39 b124) [(.int (if v30 = (42 : Int32) then (1 : Int32) else if v30 = (63 : Int32) then (1 : Int32) else (0 : Int32)))]) t := by
                    intro t k
                    show own_S p e below T221 (mkF m 224 (own_AIIIIIIIIIIRU p0 p1 p2 p3 p4 v6 v14 v22 v30 v39 b124) [(.int (if v30 = (42 : Int32) then (1 : Int32) else if v30 = (63 : Int32) then (1 : Int32) else (0 : Int32)))]) _
                    refine XS.ifNo X221.here hx rfl (hb hby at_224) rfl ((if0 _ _).trans (teq hc224).2) ?_
                    show own_S p e below T221 (mkF m 227 (own_AIIIIIIIIIIRU p0 p1 p2 p3 p4 v6 v14 v22 v30 v39 b124) []) _
                    refine XS.iload X221.here hx rfl (hb hby at_227) rfl ?_
                    show own_S p e below T221 (mkF m 229 (own_AIIIIIIIIIIRU p0 p1 p2 p3 p4 v6 v14 v22 v30 v39 b124) [(.int v6)]) _
                    refine XS.iconst X221.here hx rfl (hb hby at_229) ?_
                    show own_S p e below T221 (mkF m 230 (own_AIIIIIIIIIIRU p0 p1 p2 p3 p4 v6 v14 v22 v30 v39 b124) [(.int (3 : Int32)), (.int v6)]) _
                    refine XS.icmpYes X221.here hx rfl (pc0 := 230) (pc' := 245) rfl (hb hby at_230) rfl (flt (by rw [hn3]; decide : ¬ ((3 : Int32) < v6))).2.2.2 (by decide) (by decide) ?_
                    show own_S p e below T221 (mkF m 245 (own_AIIIIIIIIIIRU p0 p1 p2 p3 p4 v6 v14 v22 v30 v39 b124) []) _
                    refine XS.iconst X221.here hx rfl (hb hby at_245) ?_
                    exact k
                  rw [hr186_s0]
                  exact ⟨T221, _, X221, N221, hq221, fun t k => (sg193 t (st193 t (sg207 t (st207 t (sg221 t (st221 t (sg246 t k)))))))⟩
                · rw [if_neg hc224] at hr186_s0
                  have sg246 : ∀ t, own_S p e below T221 (mkF m 246 (own_AIIIIIIIIIIRU p0 p1 p2 p3 p4 v6 v14 v22 v30 v39 b124) [(.int (1 : Int32))]) t → own_S p e below T221 (mkF m 224 (own_AIIIIIIIIIIRU p0 p1 p2 p3 p4 v6 v14 v22 v30 v39 b124) [(.int (if v30 = (42 : Int32) then (1 : Int32) else if v30 = (63 : Int32) then (1 : Int32) else (0 : Int32)))]) t := by
                    intro t k
                    show own_S p e below T221 (mkF m 224 (own_AIIIIIIIIIIRU p0 p1 p2 p3 p4 v6 v14 v22 v30 v39 b124) [(.int (if v30 = (42 : Int32) then (1 : Int32) else if v30 = (63 : Int32) then (1 : Int32) else (0 : Int32)))]) _
                    refine XS.ifYes X221.here hx rfl (pc0 := 224) (pc' := 241) rfl (hb hby at_224) rfl ((if0 _ _).trans (feq hc224).2) (by decide) (by decide) ?_
                    show own_S p e below T221 (mkF m 241 (own_AIIIIIIIIIIRU p0 p1 p2 p3 p4 v6 v14 v22 v30 v39 b124) []) _
                    refine XS.iconst X221.here hx rfl (hb hby at_241) ?_
                    show own_S p e below T221 (mkF m 242 (own_AIIIIIIIIIIRU p0 p1 p2 p3 p4 v6 v14 v22 v30 v39 b124) [(.int (1 : Int32))]) _
                    refine XS.goto X221.here hx rfl (pc0 := 242) (pc' := 246) rfl (hb hby at_242) (by decide) (by decide) ?_
                    exact k
                  rw [hr186_s0]
                  exact ⟨T221, _, X221, N221, hq221, fun t k => (sg193 t (st193 t (sg207 t (st207 t (sg221 t (st221 t (sg246 t k)))))))⟩
              · rw [if_neg hc210] at hr186_s0
                have sg246 : ∀ t, own_S p e below T207 (mkF m 246 (own_AIIIIIIIIIIRU p0 p1 p2 p3 p4 v6 v14 v22 v30 v39 b124) [(.int (1 : Int32))]) t → own_S p e below T207 (mkF m 210 (own_AIIIIIIIIIIRU p0 p1 p2 p3 p4 v6 v14 v22 v30 v39 b124) [(.int (if v22 = (42 : Int32) then (1 : Int32) else if v22 = (63 : Int32) then (1 : Int32) else (0 : Int32)))]) t := by
                  intro t k
                  show own_S p e below T207 (mkF m 210 (own_AIIIIIIIIIIRU p0 p1 p2 p3 p4 v6 v14 v22 v30 v39 b124) [(.int (if v22 = (42 : Int32) then (1 : Int32) else if v22 = (63 : Int32) then (1 : Int32) else (0 : Int32)))]) _
                  refine XS.ifYes X207.here hx rfl (pc0 := 210) (pc' := 241) rfl (hb hby at_210) rfl ((if0 _ _).trans (feq hc210).2) (by decide) (by decide) ?_
                  show own_S p e below T207 (mkF m 241 (own_AIIIIIIIIIIRU p0 p1 p2 p3 p4 v6 v14 v22 v30 v39 b124) []) _
                  refine XS.iconst X207.here hx rfl (hb hby at_241) ?_
                  show own_S p e below T207 (mkF m 242 (own_AIIIIIIIIIIRU p0 p1 p2 p3 p4 v6 v14 v22 v30 v39 b124) [(.int (1 : Int32))]) _
                  refine XS.goto X207.here hx rfl (pc0 := 242) (pc' := 246) rfl (hb hby at_242) (by decide) (by decide) ?_
                  exact k
                rw [hr186_s0]
                exact ⟨T207, _, X207, N207, hq207, fun t k => (sg193 t (st193 t (sg207 t (st207 t (sg246 t k)))))⟩
            · rw [if_neg hc196] at hr186_s0
              have sg246 : ∀ t, own_S p e below T193 (mkF m 246 (own_AIIIIIIIIIIRU p0 p1 p2 p3 p4 v6 v14 v22 v30 v39 b124) [(.int (1 : Int32))]) t → own_S p e below T193 (mkF m 196 (own_AIIIIIIIIIIRU p0 p1 p2 p3 p4 v6 v14 v22 v30 v39 b124) [(.int (if v14 = (42 : Int32) then (1 : Int32) else if v14 = (63 : Int32) then (1 : Int32) else (0 : Int32)))]) t := by
                intro t k
                show own_S p e below T193 (mkF m 196 (own_AIIIIIIIIIIRU p0 p1 p2 p3 p4 v6 v14 v22 v30 v39 b124) [(.int (if v14 = (42 : Int32) then (1 : Int32) else if v14 = (63 : Int32) then (1 : Int32) else (0 : Int32)))]) _
                refine XS.ifYes X193.here hx rfl (pc0 := 196) (pc' := 241) rfl (hb hby at_196) rfl ((if0 _ _).trans (feq hc196).2) (by decide) (by decide) ?_
                show own_S p e below T193 (mkF m 241 (own_AIIIIIIIIIIRU p0 p1 p2 p3 p4 v6 v14 v22 v30 v39 b124) []) _
                refine XS.iconst X193.here hx rfl (hb hby at_241) ?_
                show own_S p e below T193 (mkF m 242 (own_AIIIIIIIIIIRU p0 p1 p2 p3 p4 v6 v14 v22 v30 v39 b124) [(.int (1 : Int32))]) _
                refine XS.goto X193.here hx rfl (pc0 := 242) (pc' := 246) rfl (hb hby at_242) (by decide) (by decide) ?_
                exact k
              rw [hr186_s0]
              exact ⟨T193, _, X193, N193, hq193, fun t k => (sg193 t (st193 t (sg246 t k)))⟩
          refine own_by str186 ?_
          have sg250 : ∀ t, own_S p e below Tr186 (mkF m 250 (own_AIIIIIIIIIIRI p0 p1 p2 p3 p4 v6 v14 v22 v30 v39 b124 r186_s0) [(.ref b124)]) t → own_S p e below Tr186 (mkF m 246 (own_AIIIIIIIIIIRU p0 p1 p2 p3 p4 v6 v14 v22 v30 v39 b124) [(.int r186_s0)]) t := by
            intro t k
            show own_S p e below Tr186 (mkF m 246 (own_AIIIIIIIIIIRU p0 p1 p2 p3 p4 v6 v14 v22 v30 v39 b124) [(.int r186_s0)]) _
            refine XS.istore Xr186.here hx rfl (hb hby at_246) rfl (l' := (own_AIIIIIIIIIIRI p0 p1 p2 p3 p4 v6 v14 v22 v30 v39 b124 r186_s0)) rfl ?_
            show own_S p e below Tr186 (mkF m 248 (own_AIIIIIIIIIIRI p0 p1 p2 p3 p4 v6 v14 v22 v30 v39 b124 r186_s0) []) _
            refine XS.aload Xr186.here hx rfl (hb hby at_248) rfl rfl ?_
            exact k
          refine own_by sg250 ?_
          obtain ⟨_, _, ⟨T250, L250, k250, n250⟩, -, X250, ⟨Lc250, hQ250, l250, y250, z250⟩, st250⟩ := Jvm.LawKit.callS Xr186 hx (y := (⟨"com/example/spojka/spojka/PathPattern", "holdsWildcards", "(Ljava/lang/String;)Z"⟩ : MethodName)) hown (mvT hZ (hw _ (List.mem_of_getElem? (i := 23) rfl))) (mvT hZ (hw _ (List.mem_of_getElem? (i := 24) rfl))) (mvT hZ (hw _ (List.mem_of_getElem? (i := 25) rfl))) (mvT hZ (hw _ (List.mem_of_getElem? (i := 26) rfl))) (by decide) (backOf (W := 0) (rm4 l Z a0 hw [] b124 t146 kb146 ([v14, v22, v30] : List Int32) gz T146.heap n0 Z146 Eq146 Vq146 Cq146 Aq146 hp146 (Nat.le_of_ble_eq_true rfl) (O2.ext ((((((O.ext E124).ext E129).wr W135 g_b129).wr W140 g_b129).wr W145 g_b129).keep Kq146 (allS g_b124 all0)).2) P5) hZ (hw _ (List.mem_of_getElem? (i := 26) rfl)) (hw _ (List.mem_of_getElem? (i := 25) rfl)) (by decide) (by decide)) (g := (mkF m 250 (own_AIIIIIIIIIIRI p0 p1 p2 p3 p4 v6 v14 v22 v30 v39 b124 r186_s0) [(.ref b124)])) rfl (by rw [hml]; rfl) (argsL := [(.ref b124)]) (rest := []) (lenOf pd_0_1 rfl) rfl (by show 2 * 0 + _ ≤ _; exact Nat.le_of_eq rfl) (hb hby at_250) (fun _ _ => ⟨rfl, er186, (by decide : 3 + 0 ≤ _), (by decide : 10 + 0 ≤ _)⟩)
          dsimp only [Pt.U, Pt.locs, Pt.cells, Pt.slots] at X250 l250 y250 z250 st250 hQ250
          subst l250 y250 z250
          obtain ⟨rfl, N250q, hq250⟩ := hQ250
          have N250 := Fr.app Nr186 N250q
          obtain ⟨c250, hc250⟩ : ∃ z : Int32, z = (if (42 : Int32) ∈ ([v14, v22, v30] : List Int32) ∨ (63 : Int32) ∈ ([v14, v22, v30] : List Int32) then (1 : Int32) else (0 : Int32)) := ⟨_, rfl⟩
          rw [← hc250] at st250
          refine own_by st250 ?_
          have sg263 : ∀ t, own_S p e below T250 (mkF m 263 (own_AIIIIIIIIIIRI p0 p1 p2 p3 p4 v6 v14 v22 v30 v39 b124 r186_s0) [(.int (1 : Int32))]) t → own_S p e below T250 (mkF m 253 (own_AIIIIIIIIIIRI p0 p1 p2 p3 p4 v6 v14 v22 v30 v39 b124 r186_s0) [(.int c250)]) t := by
            intro t k
            show own_S p e below T250 (mkF m 253 (own_AIIIIIIIIIIRI p0 p1 p2 p3 p4 v6 v14 v22 v30 v39 b124 r186_s0) [(.int c250)]) _
            refine XS.iload X250.here hx rfl (hb hby at_253) rfl ?_
            show own_S p e below T250 (mkF m 255 (own_AIIIIIIIIIIRI p0 p1 p2 p3 p4 v6 v14 v22 v30 v39 b124 r186_s0) [(.int r186_s0), (.int c250)]) _
            refine XS.icmpNo X250.here hx rfl (hb hby at_255) rfl (teq (by rw [hc250, hr186_s0]; exact own_law3 _ _ _ : c250 = r186_s0)).2 ?_
            show own_S p e below T250 (mkF m 258 (own_AIIIIIIIIIIRI p0 p1 p2 p3 p4 v6 v14 v22 v30 v39 b124 r186_s0) []) _
            refine XS.iconst X250.here hx rfl (hb hby at_258) ?_
            show own_S p e below T250 (mkF m 259 (own_AIIIIIIIIIIRI p0 p1 p2 p3 p4 v6 v14 v22 v30 v39 b124 r186_s0) [(.int (1 : Int32))]) _
            refine XS.goto X250.here hx rfl (pc0 := 259) (pc' := 263) rfl (hb hby at_259) (by decide) (by decide) ?_
            exact k
          refine own_by sg263 ?_
          obtain ⟨fs, hr, hrun, hended, hW⟩ := X250.leaveW hS0 (by rw [hq250]; exact (Nat.le_trans (Nat.le_trans (Nat.le_trans (Nat.le_trans (Nat.le_trans (Nat.le_trans (Nat.zero_le _) E124.1) E129.1) (Keep.of_wr W135).1) (Keep.of_wr W140).1) (Keep.of_wr W145).1) Kq146.1)) (v := some (.int (1 : Int32))) (fun h => by rw [Bd.returns] at h; cases h)
          refine ⟨_, _, ?_, hrun, hended, _, _, rfl, ?_, (by rw [hh]; show CHr Z consts_1 s.vm h0 T250.vm T250.heap; rw [hq250]; exact CR146.trans (CHv.at X250 hZ hEL CC146.1)), hW.1, hW.2.1, hW.2.2.1, hW.2.2.2.mono (by decide) (by decide)⟩
          · exact retN X250 hx (t := .boolean) Bd.returns (by simp) (hb hby at_263) hr
          · show Q0 Z p0 p1 p2 p3 p4 gz h0 n0 _ T250.heap _
            rw [hq250]
            exact ⟨rfl, N250⟩
        · have sg154 : ∀ t, own_S p e below s₁ (mkF m 154 (own_AIIIIIIIIIIUU p0 p1 p2 p3 p4 v6 v14 v22 v30 v39) []) t → own_S p e below s₁ (mkF m 121 (own_AIIIIIIIIIIUU p0 p1 p2 p3 p4 v6 v14 v22 v30 v39) [(.int (3 : Int32)), (.int v6)]) t := by
            intro t k
            show own_S p e below s₁ (mkF m 121 (own_AIIIIIIIIIIUU p0 p1 p2 p3 p4 v6 v14 v22 v30 v39) [(.int (3 : Int32)), (.int v6)]) _
            refine XS.icmpYes X0.here hx rfl (pc0 := 121) (pc' := 154) rfl (hb hby at_121) rfl (feq hc121).2 (by decide) (by decide) ?_
            exact k
          refine own_by sg154 ?_
          obtain ⟨T154, h154, X154, e154, E154, A154, D154, -, st154⟩ := newO X0 hx hZ hown (hw _ (List.mem_of_getElem? (i := 1) rfl)) (hw _ (List.mem_of_getElem? (i := 2) rfl)) (hw _ (List.mem_of_getElem? (i := 3) rfl)) e0 (g := (mkF m 154 (own_AIIIIIIIIIIUU p0 p1 p2 p3 p4 v6 v14 v22 v30 v39) [])) rfl (hb hby at_154) (by decide) (by decide)
          obtain ⟨b154, g154⟩ : ∃ z, z = h0.size := ⟨_, rfl⟩
          rw [← g154] at A154 D154 st154
          have g_b154 : n0 ≤ b154 := Nat.le_trans Z0 (Nat.le_of_eq g154.symm)
          have sz_b154 : h0.size ≤ b154 := Nat.le_trans K0.1 (Nat.le_of_eq g154.symm)
          have K154 := K0.ext E154
          have Z154 : n0 ≤ h154.size := Nat.le_trans Z0 E154.1
          have CC154 := CHr.ext E154 hH0
          have CR154 := (CHr.refl hH0).trans CC154
          have F_value_b154 : Fld Z h154 b154 "java/lang/String" "value" "[B" .null := D154 (Or.inr (hw _ (List.mem_of_getElem? (i := 17) rfl))) (ty := (.array .byte)) (by decide)
          have F_coder_b154 : Fld Z h154 b154 "java/lang/String" "coder" "B" (.int (0 : Int32)) := D154 (Or.inr (hw _ (List.mem_of_getElem? (i := 18) rfl))) (ty := .byte) (by decide)
          refine own_by st154 ?_
          have sg159 : ∀ t, own_S p e below T154 (mkF m 159 (own_AIIIIIIIIIIUU p0 p1 p2 p3 p4 v6 v14 v22 v30 v39) [(.int (4 : Int32)), (.ref b154), (.ref b154)]) t → own_S p e below T154 (mkF m 157 (own_AIIIIIIIIIIUU p0 p1 p2 p3 p4 v6 v14 v22 v30 v39) [(.ref b154)]) t := by
            intro t k
            show own_S p e below T154 (mkF m 157 (own_AIIIIIIIIIIUU p0 p1 p2 p3 p4 v6 v14 v22 v30 v39) [(.ref b154)]) _
            refine XS.dup X154.here hx rfl (hb hby at_157) rfl rfl ?_
            show own_S p e below T154 (mkF m 158 (own_AIIIIIIIIIIUU p0 p1 p2 p3 p4 v6 v14 v22 v30 v39) [(.ref b154), (.ref b154)]) _
            refine XS.iconst X154.here hx rfl (hb hby at_158) ?_
            exact k
          refine own_by sg159 ?_
          obtain ⟨T159, h159, kc159, X159, e159, E159, A159, st159⟩ := newP X154 hx hZ (hw _ (List.mem_of_getElem? (i := 4) rfl)) e154 (g := (mkF m 159 (own_AIIIIIIIIIIUU p0 p1 p2 p3 p4 v6 v14 v22 v30 v39) [(.int (4 : Int32)), (.ref b154), (.ref b154)])) rfl (hb hby at_159) rfl (by decide) (cap := 4) (by decide) (by decide) (by decide) (by decide)
          obtain ⟨b159, g159⟩ : ∃ z, z = h154.size := ⟨_, rfl⟩
          rw [← g159] at A159 st159
          have ne_b154_b159 : b154 ≠ b159 := Nat.ne_of_lt (Nat.lt_of_lt_of_le A154.lt (Nat.le_of_eq g159.symm))
          have g_b159 : n0 ≤ b159 := Nat.le_trans Z154 (Nat.le_of_eq g159.symm)
          have sz_b159 : h0.size ≤ b159 := Nat.le_trans K154.1 (Nat.le_of_eq g159.symm)
          have K159 := K154.ext E159
          have Z159 : n0 ≤ h159.size := Nat.le_trans Z154 E159.1
          have CC159 := CHr.ext E159 CC154.1
          have CR159 := CR154.trans CC159
          have V159 : Arv Z h159 b159 kc159 .char (4 : Int32) [(.int (0 : Int32)), (.int (0 : Int32)), (.int (0 : Int32)), (.int (0 : Int32))] (.int (0 : Int32)) := (Arv.new A159 (by decide)).pad (pad_rep [] (.int (0 : Int32)) 4)
          refine own_by st159 ?_
          have sg165 : ∀ t, own_S p e below T159 (mkF m 165 (own_AIIIIIIIIIIUU p0 p1 p2 p3 p4 v6 v14 v22 v30 v39) [(.int v14), (.int (0 : Int32)), (.ref b159), (.ref b159), (.ref b154), (.ref b154)]) t → own_S p e below T159 (mkF m 161 (own_AIIIIIIIIIIUU p0 p1 p2 p3 p4 v6 v14 v22 v30 v39) [(.ref b159), (.ref b154), (.ref b154)]) t := by
            intro t k
            show own_S p e below T159 (mkF m 161 (own_AIIIIIIIIIIUU p0 p1 p2 p3 p4 v6 v14 v22 v30 v39) [(.ref b159), (.ref b154), (.ref b154)]) _
            refine XS.dup X159.here hx rfl (hb hby at_161) rfl rfl ?_
            show own_S p e below T159 (mkF m 162 (own_AIIIIIIIIIIUU p0 p1 p2 p3 p4 v6 v14 v22 v30 v39) [(.ref b159), (.ref b159), (.ref b154), (.ref b154)]) _
            refine XS.iconst X159.here hx rfl (hb hby at_162) ?_
            show own_S p e below T159 (mkF m 163 (own_AIIIIIIIIIIUU p0 p1 p2 p3 p4 v6 v14 v22 v30 v39) [(.int (0 : Int32)), (.ref b159), (.ref b159), (.ref b154), (.ref b154)]) _
            refine XS.iload X159.here hx rfl (hb hby at_163) rfl ?_
            exact k
          refine own_by sg165 ?_
          obtain ⟨cl165, Ar165, qa165, Sa165, Na165, Ha165, Ga165⟩ := id V159
          obtain ⟨T165, h165, X165, e165, W165, st165⟩ := stC X159 hx hZ e159 Ar165 (j := (0 : Int32)) (inb_of Sa165 ⟨by decide, by decide⟩) (g := (mkF m 165 (own_AIIIIIIIIIIUU p0 p1 p2 p3 p4 v6 v14 v22 v30 v39) [(.int v14), (.int (0 : Int32)), (.ref b159), (.ref b159), (.ref b154), (.ref b154)])) rfl rfl (hb hby at_165)
          have V165 : Arv Z h165 b159 kc159 .char (4 : Int32) [(.int v14), (.int (0 : Int32)), (.int (0 : Int32)), (.int (0 : Int32))] (.int (0 : Int32)) := by
            have q := Arv.set Ar165 qa165 Sa165 Na165 Ha165 Ga165 (fits_nar_char _) W165 0 rfl (Nat.le_of_ble_eq_true rfl)
            rw [own_narc hk_v14] at q
            exact q
          have K165 : Keep h0 h165 [] := K159.wr W165 (Or.inr sz_b159)
          have Z165 : n0 ≤ h165.size := Nat.le_trans Z159 (Keep.of_wr W165).1
          have CC165 := CHr.wr W165 (Safe.arv hZ.alike V159 (by decide)) CC159.1
          have CR165 := CR159.trans CC165
          have N165 := Fr.snoc X165 N0 g_b159
          refine own_by st165 ?_
          have sg170 : ∀ t, own_S p e below T165 (mkF m 170 (own_AIIIIIIIIIIUU p0 p1 p2 p3 p4 v6 v14 v22 v30 v39) [(.int v22), (.int (1 : Int32)), (.ref b159), (.ref b159), (.ref b154), (.ref b154)]) t → own_S p e below T165 (mkF m 166 (own_AIIIIIIIIIIUU p0 p1 p2 p3 p4 v6 v14 v22 v30 v39) [(.ref b159), (.ref b154), (.ref b154)]) t := by
            intro t k
            show own_S p e below T165 (mkF m 166 (own_AIIIIIIIIIIUU p0 p1 p2 p3 p4 v6 v14 v22 v30 v39) [(.ref b159), (.ref b154), (.ref b154)]) _
            refine XS.dup X165.here hx rfl (hb hby at_166) rfl rfl ?_
            show own_S p e below T165 (mkF m 167 (own_AIIIIIIIIIIUU p0 p1 p2 p3 p4 v6 v14 v22 v30 v39) [(.ref b159), (.ref b159), (.ref b154), (.ref b154)]) _
            refine XS.iconst X165.here hx rfl (hb hby at_167) ?_
            show own_S p e below T165 (mkF m 168 (own_AIIIIIIIIIIUU p0 p1 p2 p3 p4 v6 v14 v22 v30 v39) [(.int (1 : Int32)), (.ref b159), (.ref b159), (.ref b154), (.ref b154)]) _
            refine XS.iload X165.here hx rfl (hb hby at_168) rfl ?_
            exact k
          refine own_by sg170 ?_
          obtain ⟨cl170, Ar170, qa170, Sa170, Na170, Ha170, Ga170⟩ := id V165
          obtain ⟨T170, h170, X170, e170, W170, st170⟩ := stC X165 hx hZ e165 Ar170 (j := (1 : Int32)) (inb_of Sa170 ⟨by decide, by decide⟩) (g := (mkF m 170 (own_AIIIIIIIIIIUU p0 p1 p2 p3 p4 v6 v14 v22 v30 v39) [(.int v22), (.int (1 : Int32)), (.ref b159), (.ref b159), (.ref b154), (.ref b154)])) rfl rfl (hb hby at_170)
          have V170 : Arv Z h170 b159 kc159 .char (4 : Int32) [(.int v14), (.int v22), (.int (0 : Int32)), (.int (0 : Int32))] (.int (0 : Int32)) := by
            have q := Arv.set Ar170 qa170 Sa170 Na170 Ha170 Ga170 (fits_nar_char _) W170 1 rfl (Nat.le_of_ble_eq_true rfl)
            rw [own_narc hk_v22] at q
            exact q
          have fc := (((F_value_b154.ext E159).other W165 (Or.inl ne_b154_b159)).other W170 (Or.inl ne_b154_b159))
          have fc_2 := (((F_coder_b154.ext E159).other W165 (Or.inl ne_b154_b159)).other W170 (Or.inl ne_b154_b159))
          have K170 : Keep h0 h170 [] := K165.wr W170 (Or.inr sz_b159)
          have Z170 : n0 ≤ h170.size := Nat.le_trans Z165 (Keep.of_wr W170).1
          have CC170 := CHr.wr W170 (Safe.arv hZ.alike V165 (by decide)) CC165.1
          have CR170 := CR165.trans CC170
          have N170 := Fr.snoc X170 N165 g_b159
          refine own_by st170 ?_
          have sg175 : ∀ t, own_S p e below T170 (mkF m 175 (own_AIIIIIIIIIIUU p0 p1 p2 p3 p4 v6 v14 v22 v30 v39) [(.int v30), (.int (2 : Int32)), (.ref b159), (.ref b159), (.ref b154), (.ref b154)]) t → own_S p e below T170 (mkF m 171 (own_AIIIIIIIIIIUU p0 p1 p2 p3 p4 v6 v14 v22 v30 v39) [(.ref b159), (.ref b154), (.ref b154)]) t := by
            intro t k
            show own_S p e below T170 (mkF m 171 (own_AIIIIIIIIIIUU p0 p1 p2 p3 p4 v6 v14 v22 v30 v39) [(.ref b159), (.ref b154), (.ref b154)]) _
            refine XS.dup X170.here hx rfl (hb hby at_171) rfl rfl ?_
            show own_S p e below T170 (mkF m 172 (own_AIIIIIIIIIIUU p0 p1 p2 p3 p4 v6 v14 v22 v30 v39) [(.ref b159), (.ref b159), (.ref b154), (.ref b154)]) _
            refine XS.iconst X170.here hx rfl (hb hby at_172) ?_
            show own_S p e below T170 (mkF m 173 (own_AIIIIIIIIIIUU p0 p1 p2 p3 p4 v6 v14 v22 v30 v39) [(.int (2 : Int32)), (.ref b159), (.ref b159), (.ref b154), (.ref b154)]) _
            refine XS.iload X170.here hx rfl (hb hby at_173) rfl ?_
            exact k
          refine own_by sg175 ?_
          obtain ⟨cl175, Ar175, qa175, Sa175, Na175, Ha175, Ga175⟩ := id V170
          obtain ⟨T175, h175, X175, e175, W175, st175⟩ := stC X170 hx hZ e170 Ar175 (j := (2 : Int32)) (inb_of Sa175 ⟨by decide, by decide⟩) (g := (mkF m 175 (own_AIIIIIIIIIIUU p0 p1 p2 p3 p4 v6 v14 v22 v30 v39) [(.int v30), (.int (2 : Int32)), (.ref b159), (.ref b159), (.ref b154), (.ref b154)])) rfl rfl (hb hby at_175)
          have V175 : Arv Z h175 b159 kc159 .char (4 : Int32) [(.int v14), (.int v22), (.int v30), (.int (0 : Int32))] (.int (0 : Int32)) := by
            have q := Arv.set Ar175 qa175 Sa175 Na175 Ha175 Ga175 (fits_nar_char _) W175 2 rfl (Nat.le_of_ble_eq_true rfl)
            rw [own_narc hk_v30] at q
            exact q
          have K175 : Keep h0 h175 [] := K170.wr W175 (Or.inr sz_b159)
          have Z175 : n0 ≤ h175.size := Nat.le_trans Z170 (Keep.of_wr W175).1
          have CC175 := CHr.wr W175 (Safe.arv hZ.alike V170 (by decide)) CC170.1
          have CR175 := CR170.trans CC175
          have N175 := Fr.snoc X175 N170 g_b159
          refine own_by st175 ?_
          have sg180 : ∀ t, own_S p e below T175 (mkF m 180 (own_AIIIIIIIIIIUU p0 p1 p2 p3 p4 v6 v14 v22 v30 v39) [(.int v39), (.int (3 : Int32)), (.ref b159), (.ref b159), (.ref b154), (.ref b154)]) t → own_S p e below T175 (mkF m 176 (own_AIIIIIIIIIIUU p0 p1 p2 p3 p4 v6 v14 v22 v30 v39) [(.ref b159), (.ref b154), (.ref b154)]) t := by
            intro t k
            show own_S p e below T175 (mkF m 176 (own_AIIIIIIIIIIUU p0 p1 p2 p3 p4 v6 v14 v22 v30 v39) [(.ref b159), (.ref b154), (.ref b154)]) _
            refine XS.dup X175.here hx rfl (hb hby at_176) rfl rfl ?_
            show own_S p e below T175 (mkF m 177 (own_AIIIIIIIIIIUU p0 p1 p2 p3 p4 v6 v14 v22 v30 v39) [(.ref b159), (.ref b159), (.ref b154), (.ref b154)]) _
            refine XS.iconst X175.here hx rfl (hb hby at_177) ?_
            show own_S p e below T175 (mkF m 178 (own_AIIIIIIIIIIUU p0 p1 p2 p3 p4 v6 v14 v22 v30 v39) [(.int (3 : Int32)), (.ref b159), (.ref b159), (.ref b154), (.ref b154)]) _
            refine XS.iload X175.here hx rfl (hb hby at_178) rfl ?_
            exact k
          refine own_by sg180 ?_
          obtain ⟨cl180, Ar180, qa180, Sa180, Na180, Ha180, Ga180⟩ := id V175
          obtain ⟨T180, h180, X180, e180, W180, st180⟩ := stC X175 hx hZ e175 Ar180 (j := (3 : Int32)) (inb_of Sa180 ⟨by decide, by decide⟩) (g := (mkF m 180 (own_AIIIIIIIIIIUU p0 p1 p2 p3 p4 v6 v14 v22 v30 v39) [(.int v39), (.int (3 : Int32)), (.ref b159), (.ref b159), (.ref b154), (.ref b154)])) rfl rfl (hb hby at_180)
          have V180 : Arv Z h180 b159 kc159 .char (4 : Int32) [(.int v14), (.int v22), (.int v30), (.int v39)] (.int (0 : Int32)) := by
            have q := Arv.set Ar180 qa180 Sa180 Na180 Ha180 Ga180 (fits_nar_char _) W180 3 rfl (Nat.le_of_ble_eq_true rfl)
            rw [own_narc hk_v39] at q
            exact q
          have fc_3 := ((fc.other W175 (Or.inl ne_b154_b159)).other W180 (Or.inl ne_b154_b159))
          have fc_4 := ((fc_2.other W175 (Or.inl ne_b154_b159)).other W180 (Or.inl ne_b154_b159))
          have K180 : Keep h0 h180 [] := K175.wr W180 (Or.inr sz_b159)
          have Z180 : n0 ≤ h180.size := Nat.le_trans Z175 (Keep.of_wr W180).1
          have CC180 := CHr.wr W180 (Safe.arv hZ.alike V175 (by decide)) CC175.1
          have CR180 := CR175.trans CC180
          have N180 := Fr.snoc X180 N175 g_b159
          refine own_by st180 ?_
          have hn4 : v6 = (4 : Int32) := by
            have q := own_m5 p0; rw [← hv6] at q; rcases q with q | q | q | q | q <;> first | exact q | contradiction
          have hp181 : ∀ c ∈ ([v14, v22, v30, v39] : List Int32), ¬ c < 0 ∧ ¬ (255 : Int32) < c := by
            intro c hc
            simp only [List.mem_cons, List.not_mem_nil, or_false] at hc
            rcases hc with rfl | rfl | rfl | rfl
            · exact hk_v14
            · exact hk_v22
            · exact hk_v30
            · exact hk_v39
          obtain ⟨_, _, ⟨T181, L181, k181, n181⟩, -, X181, ⟨Lc181, hQ181, l181, y181, z181⟩, st181⟩ := X180.specialBack hx (y := (⟨"java/lang/String", "<init>", "([C)V"⟩ : MethodName)) rfl hown (mvT hZ (hw _ (List.mem_of_getElem? (i := 5) rfl))) (mvT hZ (hw _ (List.mem_of_getElem? (i := 6) rfl))) (mvT hZ (hw _ (List.mem_of_getElem? (i := 7) rfl))) (by decide) (StrChars.Road.backV (W := 1) hZ hws (kI := 4) (hw _ (List.mem_of_getElem? (i := 2) rfl)) (cs := ([v14, v22, v30, v39] : List Int32)) (bs := ([v14, v22, v30, v39] : List Int32).map (fun c => c.toInt8.toInt32)) (n := 4) g_b154 Z180 (((((A154.ext E159).wr W165).wr W170).wr W175).wr W180) fc_3 fc_4 V180 (O2.ext ((((((O.ext E154).ext E159).wr W165 g_b159).wr W170 g_b159).wr W175 g_b159).wr W180 g_b159).2) P5 rfl rfl (by decide) (by decide) hp181 rfl (by decide) (by decide)) (g := (mkF m 181 (own_AIIIIIIIIIIUU p0 p1 p2 p3 p4 v6 v14 v22 v30 v39) [(.ref b159), (.ref b154), (.ref b154)])) rfl (by rw [hml]; rfl) (Steps.refl _) (a := b154) (argsL := [(.ref b159)]) (rest := [(.ref b154)]) (lenOf pd_0_0 rfl) rfl (by show 2 * 0 + _ ≤ _; exact Nat.le_of_eq rfl) (hb hby at_181) (fun _ _ => ⟨rfl, e180, (by decide : 2 + 1 ≤ _), (by decide : 8 + 4 ≤ _)⟩)
          dsimp only [Pt.U, Pt.locs, Pt.cells, Pt.slots] at X181 l181 y181 z181 st181 hQ181
          subst l181 y181 z181
          obtain ⟨rfl, N181q, Kq181, Eq181, Cq181, t181, kb181, u1181, u2181, u3181, Vq181, Aq181⟩ := hQ181
          have N181 := Fr.app N180 N181q
          have ne_b154_t181 : b154 ≠ t181 := Nat.ne_of_lt (Nat.lt_of_lt_of_le (((((A154.ext E159).wr W165).wr W170).wr W175).wr W180).lt u2181)
          have ne_b159_t181 : b159 ≠ t181 := Nat.ne_of_lt (Nat.lt_of_lt_of_le V180.lt u2181)
          have g_t181 : n0 ≤ t181 := Nat.le_trans Z180 u2181
          have sz_t181 : h0.size ≤ t181 := Nat.le_trans K180.1 u2181
          have fc_5 := ((((((A154.ext E159).wr W165).wr W170).wr W175).wr W180).keep Kq181)
          have fc_6 := (V180.keep Kq181 (fun h => (Ne.symm ne_b154_b159) (List.mem_singleton.mp h)))
          have K181 : Keep h0 T181.heap [] := K180.trans Kq181 (fun x hx => by cases List.mem_singleton.mp hx; exact Or.inr sz_b154)
          have Z181 : n0 ≤ T181.heap.size := Nat.le_trans Z180 Kq181.1
          have CC181 := CHr.keep Kq181 (sfS (own_safe0 hZ.alike (((((A154.ext E159).wr W165).wr W170).wr W175).wr W180) fc_3 (hw _ (List.mem_of_getElem? (i := 2) rfl))) sf0) CC180.1
          have CR181 := CR180.trans CC181
          refine own_by (fun t k => st181.trans k) ?_
          have sg186 : ∀ t, own_S p e below T181 (mkF m 186 (own_AIIIIIIIIIIRU p0 p1 p2 p3 p4 v6 v14 v22 v30 v39 b154) []) t → own_S p e below T181 (mkF m 184 (own_AIIIIIIIIIIUU p0 p1 p2 p3 p4 v6 v14 v22 v30 v39) [(.ref b154)]) t := by
            intro t k
            show own_S p e below T181 (mkF m 184 (own_AIIIIIIIIIIUU p0 p1 p2 p3 p4 v6 v14 v22 v30 v39) [(.ref b154)]) _
            refine XS.astore X181.here hx rfl (hb hby at_184) rfl rfl (l' := (own_AIIIIIIIIIIRU p0 p1 p2 p3 p4 v6 v14 v22 v30 v39 b154)) rfl ?_
            exact k
          refine own_by sg186 ?_
          obtain ⟨r186_s0, hr186_s0⟩ : ∃ z : Int32, z = (if (if v14 = (42 : Int32) then (1 : Int32) else if v14 = (63 : Int32) then (1 : Int32) else (0 : Int32)) = (0 : Int32) then (if (if v22 = (42 : Int32) then (1 : Int32) else if v22 = (63 : Int32) then (1 : Int32) else (0 : Int32)) = (0 : Int32) then (if (if v30 = (42 : Int32) then (1 : Int32) else if v30 = (63 : Int32) then (1 : Int32) else (0 : Int32)) = (0 : Int32) then (if (if v39 = (42 : Int32) then (1 : Int32) else if v39 = (63 : Int32) then (1 : Int32) else (0 : Int32)) = (0 : Int32) then (0 : Int32) else (1 : Int32)) else (1 : Int32)) else (1 : Int32)) else (1 : Int32)) := ⟨_, rfl⟩
          obtain ⟨Tr186, Lr186, Xr186, Nr186, er186, str186⟩ : ∃ T' L', Stand p l e room_1 (s.setVm s.vm) m #[(.int p0), (.int p1), (.int p2), (.int p3), (.int p4)] below meth c T' L' 3 12 ∧ Fr n0 L' ∧ T'.heap = T181.heap ∧ ∀ t, own_S p e below T' (mkF m 246 (own_AIIIIIIIIIIRU p0 p1 p2 p3 p4 v6 v14 v22 v30 v39 b154) [(.int r186_s0)]) t → own_S p e below T181 (mkF m 186 (own_AIIIIIIIIIIRU p0 p1 p2 p3 p4 v6 v14 v22 v30 v39 b154) []) t := by
            have sg193 : ∀ t, own_S p e below T181 (mkF m 193 (own_AIIIIIIIIIIRU p0 p1 p2 p3 p4 v6 v14 v22 v30 v39 b154) [(.int v14)]) t → own_S p e below T181 (mkF m 186 (own_AIIIIIIIIIIRU p0 p1 p2 p3 p4 v6 v14 v22 v30 v39 b154) []) t := by
              intro t k
              show own_S p e below T181 (mkF m 186 (own_AIIIIIIIIIIRU p0 p1 p2 p3 p4 v6 v14 v22 v30 v39 b154) []) _
              refine XS.iload X181.here hx rfl (hb hby at_186) rfl ?_
              show own_S p e below T181 (mkF m 188 (own_AIIIIIIIIIIRU p0 p1 p2 p3 p4 v6 v14 v22 v30 v39 b154) [(.int v6)]) _
              refine XS.ifNo X181.here hx rfl (hb hby at_188) rfl ((if0 _ _).trans (tlt (by rw [hn4]; decide : (0 : Int32) < v6)).2.2.2) ?_
              show own_S p e below T181 (mkF m 191 (own_AIIIIIIIIIIRU p0 p1 p2 p3 p4 v6 v14 v22 v30 v39 b154) []) _
              refine XS.iload X181.here hx rfl (hb hby at_191) rfl ?_
              exact k
            obtain ⟨_, _, ⟨T193, L193, k193, n193⟩, -, X193, ⟨Lc193, hQ193, l193, y193, z193⟩, st193⟩ := Jvm.LawKit.callS X181 hx (y := (⟨"com/example/spojka/spojka/PathPatternHoldsWildcardsPinLaw", "wild", "(C)Z"⟩ : MethodName)) hown (mvT hZ (hw _ (List.mem_of_getElem? (i := 77) rfl))) (mvT hZ (hw _ (List.mem_of_getElem? (i := 78) rfl))) (mvT hZ (hw _ (List.mem_of_getElem? (i := 79) rfl))) (mvT hZ (hw _ (List.mem_of_getElem? (i := 80) rfl))) (by decide) (backOf (W := 0) (rm17 l Z a0 hw [] v14 T181.heap n0 Z181) hZ (hw _ (List.mem_of_getElem? (i := 80) rfl)) (hw _ (List.mem_of_getElem? (i := 79) rfl)) (by decide) (by decide)) (g := (mkF m 193 (own_AIIIIIIIIIIRU p0 p1 p2 p3 p4 v6 v14 v22 v30 v39 b154) [(.int v14)])) rfl (by rw [hml]; rfl) (argsL := [(.int v14)]) (rest := []) (lenOf pd_0_2 rfl) rfl (by show 2 * 0 + _ ≤ _; exact Nat.le_of_eq rfl) (hb hby at_193) (fun _ _ => ⟨rfl, rfl, (by decide : 3 + 0 ≤ _), (by decide : 12 + 0 ≤ _)⟩)
            dsimp only [Pt.U, Pt.locs, Pt.cells, Pt.slots] at X193 l193 y193 z193 st193 hQ193
            subst l193 y193 z193
            obtain ⟨rfl, N193q, hq193⟩ := hQ193
            have N193 := Fr.app N181 N193q
            by_cases hc196 : (if v14 = (42 : Int32) then (1 : Int32) else if v14 = (63 : Int32) then (1 : Int32) else (0 : Int32)) = (0 : Int32)
            · rw [if_pos hc196] at hr186_s0
              have sg207 : ∀ t, own_S p e below T193 (mkF m 207 (own_AIIIIIIIIIIRU p0 p1 p2 p3 p4 v6 v14 v22 v30 v39 b154) [(.int v22)]) t → own_S p e below T193 (mkF m 196 (own_AIIIIIIIIIIRU p0 p1 p2 p3 p4 v6 v14 v22 v30 v39 b154) [(.int (if v14 = (42 : Int32) then (1 : Int32) else if v14 = (63 : Int32) then (1 : Int32) else (0 : Int32)))]) t := by
                intro t k
                show own_S p e below T193 (mkF m 196 (own_AIIIIIIIIIIRU p0 p1 p2 p3 p4 v6 v14 v22 v30 v39 b154) [(.int (if v14 = (42 : Int32) then (1 : Int32) else if v14 = (63 : Int32) then (1 : Int32) else (0 : Int32)))]) _
                refine XS.ifNo X193.here hx rfl (hb hby at_196) rfl ((if0 _ _).trans (teq hc196).2) ?_
                show own_S p e below T193 (mkF m 199 (own_AIIIIIIIIIIRU p0 p1 p2 p3 p4 v6 v14 v22 v30 v39 b154) []) _
                refine XS.iload X193.here hx rfl (hb hby at_199) rfl ?_
                show own_S p e below T193 (mkF m 201 (own_AIIIIIIIIIIRU p0 p1 p2 p3 p4 v6 v14 v22 v30 v39 b154) [(.int v6)]) _
                refine XS.iconst X193.here hx rfl (hb hby at_201) ?_
                show own_S p e below T193 (mkF m 202 (own_AIIIIIIIIIIRU p0 p1 p2 p3 p4 v6 v14 v22 v30 v39 b154) [(.int (1 : Int32)), (.int v6)]) _
                refine XS.icmpNo X193.here hx rfl (hb hby at_202) rfl (tlt (by rw [hn4]; decide : (1 : Int32) < v6)).2.2.2 ?_
                show own_S p e below T193 (mkF m 205 (own_AIIIIIIIIIIRU p0 p1 p2 p3 p4 v6 v14 v22 v30 v39 b154) []) _
                refine XS.iload X193.here hx rfl (hb hby at_205) rfl ?_
                exact k
              obtain ⟨_, _, ⟨T207, L207, k207, n207⟩, -, X207, ⟨Lc207, hQ207, l207, y207, z207⟩, st207⟩ := Jvm.LawKit.callS X193 hx (y := (⟨"com/example/spojka/spojka/PathPatternHoldsWildcardsPinLaw", "wild", "(C)Z"⟩ : MethodName)) hown (mvT hZ (hw _ (List.mem_of_getElem? (i := 77) rfl))) (mvT hZ (hw _ (List.mem_of_getElem? (i := 78) rfl))) (mvT hZ (hw _ (List.mem_of_getElem? (i := 79) rfl))) (mvT hZ (hw _ (List.mem_of_getElem? (i := 80) rfl))) (by decide) (backOf (W := 0) (rm17 l Z a0 hw [] v22 T181.heap n0 Z181) hZ (hw _ (List.mem_of_getElem? (i := 80) rfl)) (hw _ (List.mem_of_getElem? (i := 79) rfl)) (by decide) (by decide)) (g := (mkF m 207 (own_AIIIIIIIIIIRU p0 p1 p2 p3 p4 v6 v14 v22 v30 v39 b154) [(.int v22)])) rfl (by rw [hml]; rfl) (argsL := [(.int v22)]) (rest := []) (lenOf pd_0_2 rfl) rfl (by show 2 * 0 + _ ≤ _; exact Nat.le_of_eq rfl) (hb hby at_207) (fun _ _ => ⟨rfl, hq193, (by decide : 3 + 0 ≤ _), (by decide : 12 + 0 ≤ _)⟩)
              dsimp only [Pt.U, Pt.locs, Pt.cells, Pt.slots] at X207 l207 y207 z207 st207 hQ207
              subst l207 y207 z207
              obtain ⟨rfl, N207q, hq207⟩ := hQ207
              have N207 := Fr.app N193 N207q
              by_cases hc210 : (if v22 = (42 : Int32) then (1 : Int32) else if v22 = (63 : Int32) then (1 : Int32) else (0 : Int32)) = (0 : Int32)
              · rw [if_pos hc210] at hr186_s0
                have sg221 : ∀ t, own_S p e below T207 (mkF m 221 (own_AIIIIIIIIIIRU p0 p1 p2 p3 p4 v6 v14 v22 v30 v39 b154) [(.int v30)]) t → own_S p e below T207 (mkF m 210 (own_AIIIIIIIIIIRU p0 p1 p2 p3 p4 v6 v14 v22 v30 v39 b154) [(.int (if v22 = (42 : Int32) then (1 : Int32) else if v22 = (63 : Int32) then (1 : Int32) else (0 : Int32)))]) t := by
                  intro t k
                  show own_S p e below T207 (mkF m 210 (own_AIIIIIIIIIIRU p0 p1 p2 p3 p4 v6 v14 v22 v30 v39 b154) [(.int (if v22 = (42 : Int32) then (1 : Int32) else if v22 = (63 : Int32) then (1 : Int32) else (0 : Int32)))]) _
                  refine XS.ifNo X207.here hx rfl (hb hby at_210) rfl ((if0 _ _).trans (teq hc210).2) ?_
                  show own_S p e below T207 (mkF m 213 (own_AIIIIIIIIIIRU p0 p1 p2 p3 p4 v6 v14 v22 v30 v39 b154) []) _
                  refine XS.iload X207.here hx rfl (hb hby at_213) rfl ?_
                  show own_S p e below T207 (mkF m 215 (own_AIIIIIIIIIIRU p0 p1 p2 p3 p4 v6 v14 v22 v30 v39 b154) [(.int v6)]) _
                  refine XS.iconst X207.here hx rfl (hb hby at_215) ?_
                  show own_S p e below T207 (mkF m 216 (own_AIIIIIIIIIIRU p0 p1 p2 p3 p4 v6 v14 v22 v30 v39 b154) [(.int (2 : Int32)), (.int v6)]) _
                  refine XS.icmpNo X207.here hx rfl (hb hby at_216) rfl (tlt (by rw [hn4]; decide : (2 : Int32) < v6)).2.2.2 ?_
                  show own_S p e below T207 (mkF m 219 (own_AIIIIIIIIIIRU p0 p1 p2 p3 p4 v6 v14 v22 v30 v39 b154) []) _
                  refine XS.iload X207.here hx rfl (hb hby at_219) rfl ?_
                  exact k
                obtain ⟨_, _, ⟨T221, L221, k221, n221⟩, -, X221, ⟨Lc221, hQ221, l221, y221, z221⟩, st221⟩ := Jvm.LawKit.callS X207 hx (y := (⟨"com/example/spojka/spojka/PathPatternHoldsWildcardsPinLaw", "wild", "(C)Z"⟩ : MethodName)) hown (mvT hZ (hw _ (List.mem_of_getElem? (i := 77) rfl))) (mvT hZ (hw _ (List.mem_of_getElem? (i := 78) rfl))) (mvT hZ (hw _ (List.mem_of_getElem? (i := 79) rfl))) (mvT hZ (hw _ (List.mem_of_getElem? (i := 80) rfl))) (by decide) (backOf (W := 0) (rm17 l Z a0 hw [] v30 T181.heap n0 Z181) hZ (hw _ (List.mem_of_getElem? (i := 80) rfl)) (hw _ (List.mem_of_getElem? (i := 79) rfl)) (by decide) (by decide)) (g := (mkF m 221 (own_AIIIIIIIIIIRU p0 p1 p2 p3 p4 v6 v14 v22 v30 v39 b154) [(.int v30)])) rfl (by rw [hml]; rfl) (argsL := [(.int v30)]) (rest := []) (lenOf pd_0_2 rfl) rfl (by show 2 * 0 + _ ≤ _; exact Nat.le_of_eq rfl) (hb hby at_221) (fun _ _ => ⟨rfl, hq207, (by decide : 3 + 0 ≤ _), (by decide : 12 + 0 ≤ _)⟩)
                dsimp only [Pt.U, Pt.locs, Pt.cells, Pt.slots] at X221 l221 y221 z221 st221 hQ221
                subst l221 y221 z221
                obtain ⟨rfl, N221q, hq221⟩ := hQ221
                have N221 := Fr.app N207 N221q
                by_cases hc224 : (if v30 = (42 : Int32) then (1 : Int32) else if v30 = (63 : Int32) then (1 : Int32) else (0 : Int32)) = (0 : Int32)
                · rw [if_pos hc224] at hr186_s0
                  have sg235 : ∀ t, own_S p e below T221 (mkF m 235 (own_AIIIIIIIIIIRU p0 p1 p2 p3 p4 v6 v14 v22 v30 v39 b154) [(.int v39)]) t → own_S p e below T221 (mkF m 224 (own_AIIIIIIIIIIRU p0 p1 p2 p3 p4 v6 v14 v22 v30 v39 b154) [(.int (if v30 = (42 : Int32) then (1 : Int32) else if v30 = (63 : Int32) then (1 : Int32) else (0 : Int32)))]) t := by
                    intro t k
                    show own_S p e below T221 (mkF m 224 (own_AIIIIIIIIIIRU p0 p1 p2 p3 p4 v6 v14 v22 v30 v39 b154) [(.int (if v30 = (42 : Int32) then (1 : Int32) else if v30 = (63 : Int32) then (1 : Int32) else (0 : Int32)))]) _
                    refine XS.ifNo X221.here hx rfl (hb hby at_224) rfl ((if0 _ _).trans (teq hc224).2) ?_
                    show own_S p e below T221 (mkF m 227 (own_AIIIIIIIIIIRU p0 p1 p2 p3 p4 v6 v14 v22 v30 v39 b154) []) _
                    refine XS.iload X221.here hx rfl (hb hby at_227) rfl ?_
                    show own_S p e below T221 (mkF m 229 (own_AIIIIIIIIIIRU p0 p1 p2 p3 p4 v6 v14 v22 v30 v39 b154) [(.int v6)]) _
                    refine XS.iconst X221.here hx rfl (hb hby at_229) ?_
                    show own_S p e below T221 (mkF m 230 (own_AIIIIIIIIIIRU p0 p1 p2 p3 p4 v6 v14 v22 v30 v39 b154) [(.int (3 : Int32)), (.int v6)]) _
                    refine XS.icmpNo X221.here hx rfl (hb hby at_230) rfl (tlt (by rw [hn4]; decide : (3 : Int32) < v6)).2.2.2 ?_
                    show own_S p e below T221 (mkF m 233 (own_AIIIIIIIIIIRU p0 p1 p2 p3 p4 v6 v14 v22 v30 v39 b154) []) _
                    refine XS.iload X221.here hx rfl (hb hby at_233) rfl ?_
                    exact k
                  obtain ⟨_, _, ⟨T235, L235, k235, n235⟩, -, X235, ⟨Lc235, hQ235, l235, y235, z235⟩, st235⟩ := Jvm.LawKit.callS X221 hx (y := (⟨"com/example/spojka/spojka/PathPatternHoldsWildcardsPinLaw", "wild", "(C)Z"⟩ : MethodName)) hown (mvT hZ (hw _ (List.mem_of_getElem? (i := 77) rfl))) (mvT hZ (hw _ (List.mem_of_getElem? (i := 78) rfl))) (mvT hZ (hw _ (List.mem_of_getElem? (i := 79) rfl))) (mvT hZ (hw _ (List.mem_of_getElem? (i := 80) rfl))) (by decide) (backOf (W := 0) (rm17 l Z a0 hw [] v39 T181.heap n0 Z181) hZ (hw _ (List.mem_of_getElem? (i := 80) rfl)) (hw _ (List.mem_of_getElem? (i := 79) rfl)) (by decide) (by decide)) (g := (mkF m 235 (own_AIIIIIIIIIIRU p0 p1 p2 p3 p4 v6 v14 v22 v30 v39 b154) [(.int v39)])) rfl (by rw [hml]; rfl) (argsL := [(.int v39)]) (rest := []) (lenOf pd_0_2 rfl) rfl (by show 2 * 0 + _ ≤ _; exact Nat.le_of_eq rfl) (hb hby at_235) (fun _ _ => ⟨rfl, hq221, (by decide : 3 + 0 ≤ _), (by decide : 12 + 0 ≤ _)⟩)
                  dsimp only [Pt.U, Pt.locs, Pt.cells, Pt.slots] at X235 l235 y235 z235 st235 hQ235
                  subst l235 y235 z235
                  obtain ⟨rfl, N235q, hq235⟩ := hQ235
                  have N235 := Fr.app N221 N235q
                  by_cases hc238 : (if v39 = (42 : Int32) then (1 : Int32) else if v39 = (63 : Int32) then (1 : Int32) else (0 : Int32)) = (0 : Int32)
                  · rw [if_pos hc238] at hr186_s0
                    have sg246 : ∀ t, own_S p e below T235 (mkF m 246 (own_AIIIIIIIIIIRU p0 p1 p2 p3 p4 v6 v14 v22 v30 v39 b154) [(.int (0 : Int32))]) t → own_S p e below T235 (mkF m 238 (own_AIIIIIIIIIIRU p0 p1 p2 p3 p4 v6 v14 v22 v30 v39 b154) [(.int (if v39 = (42 : Int32) then (1 : Int32) else if v39 = (63 : Int32) then (1 : Int32) else (0 : Int32)))]) t := by
                      intro t k
                      show own_S p e below T235 (mkF m 238 (own_AIIIIIIIIIIRU p0 p1 p2 p3 p4 v6 v14 v22 v30 v39 b154) [(.int (if v39 = (42 : Int32) then (1 : Int32) else if v39 = (63 : Int32) then (1 : Int32) else (0 : Int32)))]) _
                      refine XS.ifYes X235.here hx rfl (pc0 := 238) (pc' := 245) rfl (hb hby at_238) rfl ((if0 _ _).trans (teq hc238).1) (by decide) (by decide) ?_
                      show own_S p e below T235 (mkF m 245 (own_AIIIIIIIIIIRU p0 p1 p2 p3 p4 v6 v14 v22 v30 v39 b154) []) _
                      refine XS.iconst X235.here hx rfl (hb hby at_245) ?_
                      exact k
                    rw [hr186_s0]
                    exact ⟨T235, _, X235, N235, hq235, fun t k => (sg193 t (st193 t (sg207 t (st207 t (sg221 t (st221 t (sg235 t (st235 t (sg246 t k)))))))))⟩
                  · rw [if_neg hc238] at hr186_s0
                    have sg246 : ∀ t, own_S p e below T235 (mkF m 246 (own_AIIIIIIIIIIRU p0 p1 p2 p3 p4 v6 v14 v22 v30 v39 b154) [(.int (1 : Int32))]) t → own_S p e below T235 (mkF m 238 (own_AIIIIIIIIIIRU p0 p1 p2 p3 p4 v6 v14 v22 v30 v39 b154) [(.int (if v39 = (42 : Int32) then (1 : Int32) else if v39 = (63 : Int32) then (1 : Int32) else (0 : Int32)))]) t := by
                      intro t k
                      show own_S p e below T235 (mkF m 238 (own_AIIIIIIIIIIRU p0 p1 p2 p3 p4 v6 v14 v22 v30 v39 b154) [(.int (if v39 = (42 : Int32) then (1 : Int32) else if v39 = (63 : Int32) then (1 : Int32) else (0 : Int32)))]) _
                      refine XS.ifNo X235.here hx rfl (hb hby at_238) rfl ((if0 _ _).trans (feq hc238).1) ?_
                      show own_S p e below T235 (mkF m 241 (own_AIIIIIIIIIIRU p0 p1 p2 p3 p4 v6 v14 v22 v30 v39 b154) []) _
                      refine XS.iconst X235.here hx rfl (hb hby at_241) ?_
                      show own_S p e below T235 (mkF m 242 (own_AIIIIIIIIIIRU p0 p1 p2 p3 p4 v6 v14 v22 v30 v39 b154) [(.int (1 : Int32))]) _
                      refine XS.goto X235.here hx rfl (pc0 := 242) (pc' := 246) rfl (hb hby at_242) (by decide) (by decide) ?_
                      exact k
                    rw [hr186_s0]
                    exact ⟨T235, _, X235, N235, hq235, fun t k => (sg193 t (st193 t (sg207 t (st207 t (sg221 t (st221 t (sg235 t (st235 t (sg246 t k)))))))))⟩
                · rw [if_neg hc224] at hr186_s0
                  have sg246 : ∀ t, own_S p e below T221 (mkF m 246 (own_AIIIIIIIIIIRU p0 p1 p2 p3 p4 v6 v14 v22 v30 v39 b154) [(.int (1 : Int32))]) t → own_S p e below T221 (mkF m 224 (own_AIIIIIIIIIIRU p0 p1 p2 p3 p4 v6 v14 v22 v30 v39 b154) [(.int (if v30 = (42 : Int32) then (1 : Int32) else if v30 = (63 : Int32) then (1 : Int32) else (0 : Int32)))]) t := by
                    intro t k
                    show own_S p e below T221 (mkF m 224 (own_AIIIIIIIIIIRU p0 p1 p2 p3 p4 v6 v14 v22 v30 v39 b154) [(.int (if v30 = (42 : Int32) then (1 : Int32) else if v30 = (63 : Int32) then (1 : Int32) else (0 : Int32)))]) _
                    refine XS.ifYes X221.here hx rfl (pc0 := 224) (pc' := 241) rfl (hb hby at_224) rfl ((if0 _ _).trans (feq hc224).2) (by decide) (by decide) ?_
                    show own_S p e below T221 (mkF m 241 (own_AIIIIIIIIIIRU p0 p1 p2 p3 p4 v6 v14 v22 v30 v39 b154) []) _
                    refine XS.iconst X221.here hx rfl (hb hby at_241) ?_
                    show own_S p e below T221 (mkF m 242 (own_AIIIIIIIIIIRU p0 p1 p2 p3 p4 v6 v14 v22 v30 v39 b154) [(.int (1 : Int32))]) _
                    refine XS.goto X221.here hx rfl (pc0 := 242) (pc' := 246) rfl (hb hby at_242) (by decide) (by decide) ?_
                    exact k
                  rw [hr186_s0]
                  exact ⟨T221, _, X221, N221, hq221, fun t k => (sg193 t (st193 t (sg207 t (st207 t (sg221 t (st221 t (sg246 t k)))))))⟩
              · rw [if_neg hc210] at hr186_s0
                have sg246 : ∀ t, own_S p e below T207 (mkF m 246 (own_AIIIIIIIIIIRU p0 p1 p2 p3 p4 v6 v14 v22 v30 v39 b154) [(.int (1 : Int32))]) t → own_S p e below T207 (mkF m 210 (own_AIIIIIIIIIIRU p0 p1 p2 p3 p4 v6 v14 v22 v30 v39 b154) [(.int (if v22 = (42 : Int32) then (1 : Int32) else if v22 = (63 : Int32) then (1 : Int32) else (0 : Int32)))]) t := by
                  intro t k
                  show own_S p e below T207 (mkF m 210 (own_AIIIIIIIIIIRU p0 p1 p2 p3 p4 v6 v14 v22 v30 v39 b154) [(.int (if v22 = (42 : Int32) then (1 : Int32) else if v22 = (63 : Int32) then (1 : Int32) else (0 : Int32)))]) _
                  refine XS.ifYes X207.here hx rfl (pc0 := 210) (pc' := 241) rfl (hb hby at_210) rfl ((if0 _ _).trans (feq hc210).2) (by decide) (by decide) ?_
                  show own_S p e below T207 (mkF m 241 (own_AIIIIIIIIIIRU p0 p1 p2 p3 p4 v6 v14 v22 v30 v39 b154) []) _
                  refine XS.iconst X207.here hx rfl (hb hby at_241) ?_
                  show own_S p e below T207 (mkF m 242 (own_AIIIIIIIIIIRU p0 p1 p2 p3 p4 v6 v14 v22 v30 v39 b154) [(.int (1 : Int32))]) _
                  refine XS.goto X207.here hx rfl (pc0 := 242) (pc' := 246) rfl (hb hby at_242) (by decide) (by decide) ?_
                  exact k
                rw [hr186_s0]
                exact ⟨T207, _, X207, N207, hq207, fun t k => (sg193 t (st193 t (sg207 t (st207 t (sg246 t k)))))⟩
            · rw [if_neg hc196] at hr186_s0
              have sg246 : ∀ t, own_S p e below T193 (mkF m 246 (own_AIIIIIIIIIIRU p0 p1 p2 p3 p4 v6 v14 v22 v30 v39 b154) [(.int (1 : Int32))]) t → own_S p e below T193 (mkF m 196 (own_AIIIIIIIIIIRU p0 p1 p2 p3 p4 v6 v14 v22 v30 v39 b154) [(.int (if v14 = (42 : Int32) then (1 : Int32) else if v14 = (63 : Int32) then (1 : Int32) else (0 : Int32)))]) t := by
                intro t k
                show own_S p e below T193 (mkF m 196 (own_AIIIIIIIIIIRU p0 p1 p2 p3 p4 v6 v14 v22 v30 v39 b154) [(.int (if v14 = (42 : Int32) then (1 : Int32) else if v14 = (63 : Int32) then (1 : Int32) else (0 : Int32)))]) _
                refine XS.ifYes X193.here hx rfl (pc0 := 196) (pc' := 241) rfl (hb hby at_196) rfl ((if0 _ _).trans (feq hc196).2) (by decide) (by decide) ?_
                show own_S p e below T193 (mkF m 241 (own_AIIIIIIIIIIRU p0 p1 p2 p3 p4 v6 v14 v22 v30 v39 b154) []) _
                refine XS.iconst X193.here hx rfl (hb hby at_241) ?_
                show own_S p e below T193 (mkF m 242 (own_AIIIIIIIIIIRU p0 p1 p2 p3 p4 v6 v14 v22 v30 v39 b154) [(.int (1 : Int32))]) _
                refine XS.goto X193.here hx rfl (pc0 := 242) (pc' := 246) rfl (hb hby at_242) (by decide) (by decide) ?_
                exact k
              rw [hr186_s0]
              exact ⟨T193, _, X193, N193, hq193, fun t k => (sg193 t (st193 t (sg246 t k)))⟩
          refine own_by str186 ?_
          have sg250 : ∀ t, own_S p e below Tr186 (mkF m 250 (own_AIIIIIIIIIIRI p0 p1 p2 p3 p4 v6 v14 v22 v30 v39 b154 r186_s0) [(.ref b154)]) t → own_S p e below Tr186 (mkF m 246 (own_AIIIIIIIIIIRU p0 p1 p2 p3 p4 v6 v14 v22 v30 v39 b154) [(.int r186_s0)]) t := by
            intro t k
            show own_S p e below Tr186 (mkF m 246 (own_AIIIIIIIIIIRU p0 p1 p2 p3 p4 v6 v14 v22 v30 v39 b154) [(.int r186_s0)]) _
            refine XS.istore Xr186.here hx rfl (hb hby at_246) rfl (l' := (own_AIIIIIIIIIIRI p0 p1 p2 p3 p4 v6 v14 v22 v30 v39 b154 r186_s0)) rfl ?_
            show own_S p e below Tr186 (mkF m 248 (own_AIIIIIIIIIIRI p0 p1 p2 p3 p4 v6 v14 v22 v30 v39 b154 r186_s0) []) _
            refine XS.aload Xr186.here hx rfl (hb hby at_248) rfl rfl ?_
            exact k
          refine own_by sg250 ?_
          obtain ⟨_, _, ⟨T250, L250, k250, n250⟩, -, X250, ⟨Lc250, hQ250, l250, y250, z250⟩, st250⟩ := Jvm.LawKit.callS Xr186 hx (y := (⟨"com/example/spojka/spojka/PathPattern", "holdsWildcards", "(Ljava/lang/String;)Z"⟩ : MethodName)) hown (mvT hZ (hw _ (List.mem_of_getElem? (i := 23) rfl))) (mvT hZ (hw _ (List.mem_of_getElem? (i := 24) rfl))) (mvT hZ (hw _ (List.mem_of_getElem? (i := 25) rfl))) (mvT hZ (hw _ (List.mem_of_getElem? (i := 26) rfl))) (by decide) (backOf (W := 0) (rm4 l Z a0 hw [] b154 t181 kb181 ([v14, v22, v30, v39] : List Int32) gz T181.heap n0 Z181 Eq181 Vq181 Cq181 Aq181 hp181 (Nat.le_of_ble_eq_true rfl) (O2.ext (((((((O.ext E154).ext E159).wr W165 g_b159).wr W170 g_b159).wr W175 g_b159).wr W180 g_b159).keep Kq181 (allS g_b154 all0)).2) P5) hZ (hw _ (List.mem_of_getElem? (i := 26) rfl)) (hw _ (List.mem_of_getElem? (i := 25) rfl)) (by decide) (by decide)) (g := (mkF m 250 (own_AIIIIIIIIIIRI p0 p1 p2 p3 p4 v6 v14 v22 v30 v39 b154 r186_s0) [(.ref b154)])) rfl (by rw [hml]; rfl) (argsL := [(.ref b154)]) (rest := []) (lenOf pd_0_1 rfl) rfl (by show 2 * 0 + _ ≤ _; exact Nat.le_of_eq rfl) (hb hby at_250) (fun _ _ => ⟨rfl, er186, (by decide : 3 + 0 ≤ _), (by decide : 12 + 0 ≤ _)⟩)
          dsimp only [Pt.U, Pt.locs, Pt.cells, Pt.slots] at X250 l250 y250 z250 st250 hQ250
          subst l250 y250 z250
          obtain ⟨rfl, N250q, hq250⟩ := hQ250
          have N250 := Fr.app Nr186 N250q
          obtain ⟨c250, hc250⟩ : ∃ z : Int32, z = (if (42 : Int32) ∈ ([v14, v22, v30, v39] : List Int32) ∨ (63 : Int32) ∈ ([v14, v22, v30, v39] : List Int32) then (1 : Int32) else (0 : Int32)) := ⟨_, rfl⟩
          rw [← hc250] at st250
          refine own_by st250 ?_
          have sg263 : ∀ t, own_S p e below T250 (mkF m 263 (own_AIIIIIIIIIIRI p0 p1 p2 p3 p4 v6 v14 v22 v30 v39 b154 r186_s0) [(.int (1 : Int32))]) t → own_S p e below T250 (mkF m 253 (own_AIIIIIIIIIIRI p0 p1 p2 p3 p4 v6 v14 v22 v30 v39 b154 r186_s0) [(.int c250)]) t := by
            intro t k
            show own_S p e below T250 (mkF m 253 (own_AIIIIIIIIIIRI p0 p1 p2 p3 p4 v6 v14 v22 v30 v39 b154 r186_s0) [(.int c250)]) _
            refine XS.iload X250.here hx rfl (hb hby at_253) rfl ?_
            show own_S p e below T250 (mkF m 255 (own_AIIIIIIIIIIRI p0 p1 p2 p3 p4 v6 v14 v22 v30 v39 b154 r186_s0) [(.int r186_s0), (.int c250)]) _
            refine XS.icmpNo X250.here hx rfl (hb hby at_255) rfl (teq (by rw [hc250, hr186_s0]; exact own_law4 _ _ _ _ : c250 = r186_s0)).2 ?_
            show own_S p e below T250 (mkF m 258 (own_AIIIIIIIIIIRI p0 p1 p2 p3 p4 v6 v14 v22 v30 v39 b154 r186_s0) []) _
            refine XS.iconst X250.here hx rfl (hb hby at_258) ?_
            show own_S p e below T250 (mkF m 259 (own_AIIIIIIIIIIRI p0 p1 p2 p3 p4 v6 v14 v22 v30 v39 b154 r186_s0) [(.int (1 : Int32))]) _
            refine XS.goto X250.here hx rfl (pc0 := 259) (pc' := 263) rfl (hb hby at_259) (by decide) (by decide) ?_
            exact k
          refine own_by sg263 ?_
          obtain ⟨fs, hr, hrun, hended, hW⟩ := X250.leaveW hS0 (by rw [hq250]; exact (Nat.le_trans (Nat.le_trans (Nat.le_trans (Nat.le_trans (Nat.le_trans (Nat.le_trans (Nat.le_trans (Nat.zero_le _) E154.1) E159.1) (Keep.of_wr W165).1) (Keep.of_wr W170).1) (Keep.of_wr W175).1) (Keep.of_wr W180).1) Kq181.1)) (v := some (.int (1 : Int32))) (fun h => by rw [Bd.returns] at h; cases h)
          refine ⟨_, _, ?_, hrun, hended, _, _, rfl, ?_, (by rw [hh]; show CHr Z consts_1 s.vm h0 T250.vm T250.heap; rw [hq250]; exact CR181.trans (CHv.at X250 hZ hEL CC181.1)), hW.1, hW.2.1, hW.2.2.1, hW.2.2.2.mono (by decide) (by decide)⟩
          · exact retN X250 hx (t := .boolean) Bd.returns (by simp) (hb hby at_263) hr
          · show Q0 Z p0 p1 p2 p3 p4 gz h0 n0 _ T250.heap _
            rw [hq250]
            exact ⟨rfl, N250⟩
set_option maxRecDepth 65536 in
set_option maxHeartbeats 40000000 in
theorem comes_1 {Post : Tables → Env → Array Value → State → Outcome → State → Prop} (hpost : ∀ tb e args s v u, (limb_1_1.after args s (.returned v) u = true ∧ limb_1_2.after args s (.returned v) u = true ∧ True) → ReturnedEndW s (.returned v) u (Jvm.fieldLocs frame_1_writes args s ++ Jvm.arrayLocs frame_1_arrays args s ++ Jvm.staticLocs frame_1_statics s) 16 1152 → Post tb e args s (.returned v) u) :
    ArmFor flags0 classFile x code maxLocals ret World_1 tables_1 room_1 Calls_1 rest_1 Pre_1 Post := by
  intro l hfl _ _ p e ha hc hk s m args below hf hA hF happ hP
  obtain ⟨hcalls, hrest, hpre⟩ := hP
  obtain ⟨-, -, -, hnamed, -, -, -, hat⟩ := (Spec.applies_iff hf).mp happ
  obtain ⟨hg, nn⟩ := and_e (Cond.before_iff.mp (show (Jvm.Cond.and given_1 narrow_1).before args s = true from hpre))
  obtain ⟨hh0, hh1⟩ := and_e hg
  obtain ⟨hh2, hh3⟩ := and_e hh1
  obtain ⟨hh4, hh5⟩ := and_e hh3
  obtain ⟨hh6, hh7⟩ := and_e hh5
  obtain ⟨hh8, hh9⟩ := and_e hh7
  obtain ⟨w0, w1, w2, w3, w4, rfl⟩ : ∃ w0 w1 w2 w3 w4 : Value, args = #[w0, w1, w2, w3, w4] := by
    have hs : args.size = 5 := by simpa [Cond.value, given_1] using hh0
    obtain ⟨L⟩ := args
    match L, hs with
    | [w0, w1, w2, w3, w4], _ => exact ⟨w0, w1, w2, w3, w4, rfl⟩
  have hw := fun d (hd : d ∈ tables_1) => atoms_spec (ws := Jvm.Cond.code x code maxLocals ret :: tables_1) hat d (List.mem_cons_of_mem _ hd)
  have hfit : Fit s := fun {y c} hc i hi => by
    obtain ⟨ha, rfl⟩ := Array.getElem?_eq_some_iff.mp hc
    have q := List.all_eq_true.mp ((Array.all_eq_true_iff_forall_mem.mp hF) _ (Array.getElem_mem ha)) i (List.mem_range.mpr hi)
    simpa [Array.getElem?_eq_getElem hi] using q
  obtain ⟨hsets, hown0⟩ := atoms_of _ (rest_1_c_eq ▸ (show rest_1_c.before _ s = true from hrest))
  have hr0 := Cond.before_iff.mp hown0
  obtain ⟨gz, ez⟩ := is_v (Cond.before_iff.mp (hsets _ (List.mem_of_getElem? (i := 1) rfl)))
  have Sz : Sta s s.heap "java/lang/String" "COMPACT_STRINGS" "Z" (.int gz) := Sta.start ez (Or.inl (hsets _ (List.mem_of_getElem? (i := 0) rfl)))
  have cz : ¬ (gz = (0 : Int32)) := gotF (Cond.eq_ints ez (Term.int_eval (0))) (not_v (Cond.before_iff.mp (hsets _ (List.mem_of_getElem? (i := 2) rfl))))
  obtain ⟨gf, ef, rf⟩ := isR_v (Cond.before_iff.mp (hsets _ (List.mem_of_getElem? (i := 8) rfl)))
  have Sf : Sta s s.heap "jdk/internal/util/Preconditions" "SIOOBE_FORMATTER" "Ljava/util/function/BiFunction;" gf := Sta.start ef (Or.inl (hsets _ (List.mem_of_getElem? (i := 7) rfl)))
  obtain ⟨i0, ei0⟩ := is_v hh2
  obtain rfl : w0 = (.int i0) := Option.some.inj ei0
  obtain ⟨i1, ei1⟩ := is_v hh4
  obtain rfl : w1 = (.int i1) := Option.some.inj ei1
  obtain ⟨i2, ei2⟩ := is_v hh6
  obtain rfl : w2 = (.int i2) := Option.some.inj ei2
  obtain ⟨i3, ei3⟩ := is_v hh8
  obtain rfl : w3 = (.int i3) := Option.some.inj ei3
  obtain ⟨i4, ei4⟩ := is_v hh9
  obtain rfl : w4 = (.int i4) := Option.some.inj ei4
  have hEL : EW _ _ consts_1 := (EW.cons (hw _ (List.mem_of_getElem? (i := 15) rfl)) (by decide) EW.nil)
  have hH0 : CHv s consts_1 s.vm s.heap := CHv.start hEL hcalls.1 (hsets _ (List.mem_of_getElem? (i := 2) rfl)) (hw _ (List.mem_of_getElem? (i := 16) rfl)) (hw _ (List.mem_of_getElem? (i := 2) rfl))
  obtain ⟨n, o, h1, h2, h3, _, L, rfl, ⟨rfl, N⟩, -, hq⟩ := rm0 l s _ hw tables_1 i0 i1 i2 i3 i4 gz s.heap s.heap.size (Nat.le_refl _) (Old.start s) Sz cz p e ha hc hk s m _ below hf ((Spec.applies_iff_loose hf).mp happ).1 ⟨rfl, State.Warmed39.refl s, rfl, hH0⟩ trivial
  refine ⟨n, _, h1, h2, h3, hpost _ _ _ _ _ _ ⟨Cond.after_iff.mpr rfl, Cond.after_iff.mpr (eq_i res_at (Term.int_eval (1)) rfl), trivial⟩ ⟨hq.1, hq.2.1, hq.2.2.1, (hq.2.2.2.sift fun y hy => Or.inr (N y hy)).mono (by decide) (by decide)⟩⟩
theorem main_1_1 : Claimed_1_1 := comes_1 fun _ _ _ _ _ _ h hF => ⟨h.1, hF⟩
theorem main_1_2 : Claimed_1_2 := comes_1 fun _ _ _ _ _ _ h hF => ⟨h.2.1, hF⟩
end Jvm.Pilot.@@N@@
namespace Jvm.Pilot.@@N@@
open Jvm Jvm.ClassFile Sem Op Lib Jvm.Free Jvm.Stand Jvm.Pilot.@@N@@.Jvm.D
/-! MADE BY PROGRAM (witnessworld.py) out of the Statement's table words and the real class files: 21 classes; the members and pool entries that the words name. The judged class is class 1, her method 2. -/
namespace start1
open Jvm.ClassFile
def u (s : String) : CpInfo := .utf8 (stringToUtf16 s)
/-- a pool by its gaps: so many unusable entries, then the entry; so many at the end -/
def gap : Nat → List CpInfo → List CpInfo
  | 0, r => r
  | n + 1, r => .unusable :: gap n r
def poolList (es : List (Nat × CpInfo)) (last : Nat) : List CpInfo := es.foldr (fun e r => gap e.1 (e.2 :: r)) (gap last [])
def pool (es : List (Nat × CpInfo)) (last : Nat) : Array CpInfo := ⟨poolList es last⟩
def fileOf (pool : Array CpInfo) (this : Nat) (attrs : Array Attribute := #[]) (ms : Array MethodInfo := #[]) (fl : Nat := 33) (sup : Nat := 0) (ifs : Array Nat := #[]) (fds : Array FieldInfo := #[]) : ClassFile where
  minorVersion := 0
  majorVersion := 65
  constantPool := pool
  accessFlags := fl
  thisClass := this
  superClass := sup
  interfaces := ifs
  fields := fds
  methods := ms
  attributes := attrs
def plain (name : String) (sup : Option ClassId) : Class where
  name := name
  kind := .ordinary
  loader := none
  accessFlags := 33
  super := sup
  interfaces := #[]
  cf := none
  fields := #[]
  methods := #[]
  instanceTypes := #[]
  staticTypes := #[]
  resolved := #[]
  callSites := []
  init := .initialized
  statics := none
  mirror := none

def pool0 : Array CpInfo := pool [(5, u "<init>"), (0, u "()V"), (1, .class_ 10), (1, u "java/lang/Object")] 113

def k0c0 : Code := { maxStack := 0, maxLocals := 1, code := object_method_1_code, exceptionTable := #[], attributes := #[] }
def k0m0 : Method := { name := "<init>", desc := "()V", sig := { parameters := [], returnType := none }, accessFlags := 1, code := some k0c0 }
/-- java/lang/Object -/
def k0 : Class := { plain "java/lang/Object" none with
  accessFlags := 33
  interfaces := #[]
  cf := some (fileOf pool0 8 #[] #[{ accessFlags := 1, nameIndex := 5, descriptorIndex := 6, attributes := #[] }] 33 0 #[] #[])
  fields := #[]
  methods := #[k0m0]
  instanceTypes := #[]
  staticTypes := #[]
  resolved := Array.replicate 124 none
  statics := none }

def pool1 : Array CpInfo := pool [(2, .class_ 4), (1, u "java/lang/Object"), (0, u "<init>"), (0, u "()V"), (0, .integer 2147483647), (0, .class_ 9), (0, u "java/lang/String"), (0, .methodref 8 11), (0, .nameAndType 5 12), (0, u "([C)V"), (0, .methodref 14 15), (0, .class_ 16), (0, .nameAndType 17 18), (0, u "com/example/spojka/spojka/PathPatternHoldsWildcardsPinLaw"), (0, u "wild"), (0, u "(C)Z"), (0, .methodref 20 21), (0, .class_ 22), (0, .nameAndType 23 24), (0, u "com/example/spojka/spojka/PathPattern"), (0, u "holdsWildcards"), (0, u "(Ljava/lang/String;)Z"), (3, u "law"), (0, u "(IIIII)Z")] 2

def k1m0 : Method := { name := "<init>", desc := "()V", sig := { parameters := [], returnType := none }, accessFlags := 1, code := none }
def k1c1 : Code := { maxStack := 2, maxLocals := 1, code := method_2_code, exceptionTable := #[], attributes := #[] }
def k1m1 : Method := { name := "wild", desc := "(C)Z", sig := { parameters := [.char], returnType := some .boolean }, accessFlags := 10, code := some k1c1 }
def k1c2 : Code := { maxStack := 6, maxLocals := 12, code := code, exceptionTable := #[], attributes := #[] }
def k1m2 : Method := { name := "law", desc := "(IIIII)Z", sig := { parameters := [.int, .int, .int, .int, .int], returnType := some .boolean }, accessFlags := 9, code := some k1c2 }
/-- com/example/spojka/spojka/PathPatternHoldsWildcardsPinLaw -/
def k1 : Class := { plain "com/example/spojka/spojka/PathPatternHoldsWildcardsPinLaw" (some 0) with
  accessFlags := 49
  interfaces := #[]
  cf := some (fileOf pool1 14 #[] #[{ accessFlags := 1, nameIndex := 5, descriptorIndex := 6, attributes := #[] }, { accessFlags := 10, nameIndex := 17, descriptorIndex := 18, attributes := #[] }, { accessFlags := 9, nameIndex := 28, descriptorIndex := 29, attributes := #[] }] 49 2 #[] #[])
  fields := #[]
  methods := #[k1m0, k1m1, k1m2]
  instanceTypes := #[]
  staticTypes := #[]
  resolved := Array.replicate 32 none
  statics := none }

def pool2 : Array CpInfo := pool [(1, .class_ 2), (0, u "java/io/Serializable"), (0, .class_ 4), (0, u "java/lang/Object")] 2

/-- java/io/Serializable -/
def k2 : Class := { plain "java/io/Serializable" (some 0) with
  accessFlags := 1537
  interfaces := #[]
  cf := some (fileOf pool2 1 #[] #[] 1537 3 #[] #[])
  fields := #[]
  methods := #[]
  instanceTypes := #[]
  staticTypes := #[]
  resolved := Array.replicate 7 none
  statics := none }

def pool3 : Array CpInfo := pool [(1, .class_ 2), (0, u "java/lang/Comparable"), (0, .class_ 4), (0, u "java/lang/Object")] 7

/-- java/lang/Comparable -/
def k3 : Class := { plain "java/lang/Comparable" (some 0) with
  accessFlags := 1537
  interfaces := #[]
  cf := some (fileOf pool3 1 #[] #[] 1537 3 #[] #[])
  fields := #[]
  methods := #[]
  instanceTypes := #[]
  staticTypes := #[]
  resolved := Array.replicate 12 none
  statics := none }

def pool4 : Array CpInfo := pool [(2, .class_ 4), (1, u "java/lang/CharSequence"), (42, .class_ 48), (0, u "java/lang/CharSequence$1CodePointIterator"), (10, .class_ 60), (0, u "java/lang/CharSequence$1CharIterator"), (5, .class_ 67), (0, u "java/lang/Object")] 63

/-- java/lang/CharSequence -/
def k4 : Class := { plain "java/lang/CharSequence" (some 0) with
  accessFlags := 1537
  interfaces := #[]
  cf := some (fileOf pool4 2 #[.nestMembers #[47, 59]] #[] 1537 66 #[] #[])
  fields := #[]
  methods := #[]
  instanceTypes := #[]
  staticTypes := #[]
  resolved := Array.replicate 131 none
  statics := none }

def pool5 : Array CpInfo := pool [(1, .class_ 2), (0, u "java/lang/constant/Constable"), (0, .class_ 4), (0, u "java/lang/Object")] 6

/-- java/lang/constant/Constable -/
def k5 : Class := { plain "java/lang/constant/Constable" (some 0) with
  accessFlags := 1537
  interfaces := #[]
  cf := some (fileOf pool5 1 #[] #[] 1537 3 #[] #[])
  fields := #[]
  methods := #[]
  instanceTypes := #[]
  staticTypes := #[]
  resolved := Array.replicate 11 none
  statics := none }

def pool6 : Array CpInfo := pool [(1, .class_ 2), (0, u "java/lang/constant/ConstantDesc"), (0, .class_ 4), (0, u "java/lang/Object")] 32

/-- java/lang/constant/ConstantDesc -/
def k6 : Class := { plain "java/lang/constant/ConstantDesc" (some 0) with
  accessFlags := 1537
  interfaces := #[]
  cf := some (fileOf pool6 1 #[] #[] 1537 3 #[] #[])
  fields := #[]
  methods := #[]
  instanceTypes := #[]
  staticTypes := #[]
  resolved := Array.replicate 37 none
  statics := none }

def pool7 : Array CpInfo := pool [(1, .methodref 2 3), (0, .class_ 4), (0, .nameAndType 5 6), (0, u "java/lang/Object"), (0, u "<init>"), (0, u "()V"), (0, .string 8), (0, u ""), (0, .fieldref 10 11), (0, .class_ 12), (0, .nameAndType 13 14), (0, u "java/lang/String"), (0, u "value"), (0, u "[B"), (0, .fieldref 10 16), (0, .nameAndType 17 18), (0, u "coder"), (0, u "B"), (2, u "hash"), (0, u "I"), (2, u "hashIsZero"), (0, u "Z"), (0, .methodref 10 28), (0, .nameAndType 5 29), (0, u "([CIILjava/lang/Void;)V"), (8, .fieldref 10 39), (0, .nameAndType 40 26), (0, u "COMPACT_STRINGS"), (1, .class_ 44), (1, u "java/lang/StringUTF16"), (0, u "compress"), (1, .methodref 42 48), (0, .nameAndType 49 50), (0, u "coderFromArrayLen"), (0, u "([BI)B"), (56, .class_ 109), (1, u "java/lang/StringLatin1"), (32, u "()Z"), (34, .methodref 42 178), (0, .nameAndType 45 179), (0, u "([CII)[B"), (154, u "()I"), (0, .methodref 10 336), (0, .nameAndType 17 337), (0, u "()B"), (154, .methodref 10 493), (0, .nameAndType 494 142), (0, u "isLatin1"), (10, .methodref 10 506), (0, .nameAndType 507 334), (0, u "length"), (67, .class_ 576), (0, u "java/lang/CharSequence"), (22, u "CASE_INSENSITIVE_ORDER"), (0, u "Ljava/util/Comparator;"), (32, .methodref 10 634), (0, .nameAndType 635 636), (0, u "indexOf"), (0, u "(II)I"), (0, .methodref 107 638), (0, .nameAndType 635 639), (0, u "([BIII)I"), (125, u "(I)I"), (244, u "([C)V"), (90, u "serialPersistentFields"), (0, u "[Ljava/io/ObjectStreamField;"), (0, .class_ 1104), (0, u "java/lang/String$CaseInsensitiveComparator"), (1, .class_ 1107), (0, u "java/io/Serializable"), (0, .class_ 1109), (0, u "java/lang/Comparable"), (0, .class_ 1111), (0, u "java/lang/constant/Constable"), (0, .class_ 1113), (0, u "java/lang/constant/ConstantDesc"), (2, u "serialVersionUID"), (0, u "J"), (3, u "REPL"), (0, u "C"), (2, u "LATIN1"), (1, u "UTF16")] 323

def k7m0 : Method := { name := "<init>", desc := "()V", sig := { parameters := [], returnType := none }, accessFlags := 1, code := none }
def k7c1 : Code := { maxStack := 5, maxLocals := 2, code := jdk_42_method_3_code, exceptionTable := #[], attributes := #[] }
def k7m1 : Method := { name := "<init>", desc := "([C)V", sig := { parameters := [(.array .char)], returnType := none }, accessFlags := 1, code := some k7c1 }
def k7c2 : Code := { maxStack := 2, maxLocals := 1, code := jdk_42_method_54_code, exceptionTable := #[], attributes := #[] }
def k7m2 : Method := { name := "length", desc := "()I", sig := { parameters := [], returnType := some .int }, accessFlags := 1, code := some k7c2 }
def k7c3 : Code := { maxStack := 3, maxLocals := 2, code := jdk_42_method_79_code, exceptionTable := #[], attributes := #[] }
def k7m3 : Method := { name := "indexOf", desc := "(I)I", sig := { parameters := [.int], returnType := some .int }, accessFlags := 1, code := some k7c3 }
def k7c4 : Code := { maxStack := 4, maxLocals := 3, code := jdk_42_method_80_code, exceptionTable := #[], attributes := #[] }
def k7m4 : Method := { name := "indexOf", desc := "(II)I", sig := { parameters := [.int, .int], returnType := some .int }, accessFlags := 1, code := some k7c4 }
def k7c5 : Code := { maxStack := 4, maxLocals := 6, code := jdk_42_method_149_code, exceptionTable := #[], attributes := #[] }
def k7m5 : Method := { name := "<init>", desc := "([CIILjava/lang/Void;)V", sig := { parameters := [(.array .char), .int, .int, (.object "java/lang/Void")], returnType := none }, accessFlags := 2, code := some k7c5 }
def k7c6 : Code := { maxStack := 1, maxLocals := 1, code := jdk_42_method_152_code, exceptionTable := #[], attributes := #[] }
def k7m6 : Method := { name := "coder", desc := "()B", sig := { parameters := [], returnType := some .byte }, accessFlags := 0, code := some k7c6 }
def k7c7 : Code := { maxStack := 1, maxLocals := 1, code := jdk_42_method_154_code, exceptionTable := #[], attributes := #[] }
def k7m7 : Method := { name := "isLatin1", desc := "()Z", sig := { parameters := [], returnType := some .boolean }, accessFlags := 0, code := some k7c7 }
/-- java/lang/String -/
def k7 : Class := { plain "java/lang/String" (some 0) with
  accessFlags := 49
  interfaces := #[2, 3, 4, 5, 6]
  cf := some (fileOf pool7 10 #[.nestMembers #[1103]] #[{ accessFlags := 1, nameIndex := 5, descriptorIndex := 6, attributes := #[] }, { accessFlags := 1, nameIndex := 5, descriptorIndex := 1010, attributes := #[] }, { accessFlags := 1, nameIndex := 507, descriptorIndex := 334, attributes := #[] }, { accessFlags := 1, nameIndex := 635, descriptorIndex := 765, attributes := #[] }, { accessFlags := 1, nameIndex := 635, descriptorIndex := 636, attributes := #[] }, { accessFlags := 2, nameIndex := 5, descriptorIndex := 29, attributes := #[] }, { accessFlags := 0, nameIndex := 17, descriptorIndex := 337, attributes := #[] }, { accessFlags := 0, nameIndex := 494, descriptorIndex := 142, attributes := #[] }] 49 2 #[1106, 1108, 575, 1110, 1112] #[{ accessFlags := 18, nameIndex := 13, descriptorIndex := 14, attributes := #[] }, { accessFlags := 18, nameIndex := 17, descriptorIndex := 18, attributes := #[] }, { accessFlags := 2, nameIndex := 21, descriptorIndex := 22, attributes := #[] }, { accessFlags := 2, nameIndex := 25, descriptorIndex := 26, attributes := #[] }, { accessFlags := 26, nameIndex := 1116, descriptorIndex := 1117, attributes := #[] }, { accessFlags := 24, nameIndex := 40, descriptorIndex := 26, attributes := #[] }, { accessFlags := 26, nameIndex := 1101, descriptorIndex := 1102, attributes := #[] }, { accessFlags := 26, nameIndex := 1121, descriptorIndex := 1122, attributes := #[] }, { accessFlags := 25, nameIndex := 599, descriptorIndex := 600, attributes := #[] }, { accessFlags := 24, nameIndex := 1125, descriptorIndex := 18, attributes := #[] }, { accessFlags := 24, nameIndex := 1127, descriptorIndex := 18, attributes := #[] }])
  fields := #[{ name := "value", type := (.array .byte), accessFlags := 18, slot := 0, constantValue := 0 }, { name := "coder", type := .byte, accessFlags := 18, slot := 1, constantValue := 0 }, { name := "hash", type := .int, accessFlags := 2, slot := 2, constantValue := 0 }, { name := "hashIsZero", type := .boolean, accessFlags := 2, slot := 3, constantValue := 0 }, { name := "serialVersionUID", type := .long, accessFlags := 26, slot := 0, constantValue := 0 }, { name := "COMPACT_STRINGS", type := .boolean, accessFlags := 24, slot := 1, constantValue := 0 }, { name := "serialPersistentFields", type := (.array (.object "java/io/ObjectStreamField")), accessFlags := 26, slot := 2, constantValue := 0 }, { name := "REPL", type := .char, accessFlags := 26, slot := 3, constantValue := 0 }, { name := "CASE_INSENSITIVE_ORDER", type := (.object "java/util/Comparator"), accessFlags := 25, slot := 4, constantValue := 0 }, { name := "LATIN1", type := .byte, accessFlags := 24, slot := 5, constantValue := 0 }, { name := "UTF16", type := .byte, accessFlags := 24, slot := 6, constantValue := 0 }]
  methods := #[k7m0, k7m1, k7m2, k7m3, k7m4, k7m5, k7m6, k7m7]
  instanceTypes := #[(.array .byte), .byte, .int, .boolean]
  staticTypes := #[.long, .boolean, (.array (.object "java/io/ObjectStreamField")), .char, (.object "java/util/Comparator"), .byte, .byte]
  resolved := Array.replicate 1451 none
  statics := some 0 }

def pool8 : Array CpInfo := pool [(2, .class_ 4), (1, u "java/lang/Object"), (5, .class_ 12), (1, u "java/lang/String"), (3, .class_ 18), (1, u "com/example/spojka/spojka/PathPattern"), (0, u "holdsWildcards"), (0, u "(Ljava/lang/String;)Z"), (25, u "directory"), (0, u "Ljava/lang/String;"), (47, u "steps"), (0, u "Ljava/util/List;"), (0, .methodref 10 98), (0, .nameAndType 99 100), (0, u "indexOf"), (0, u "(I)I"), (49, .class_ 151), (0, u "com/example/spojka/spojka/PathPattern$1"), (21, u "ANY_STEPS")] 34

def k8c0 : Code := { maxStack := 2, maxLocals := 1, code := prog_34_method_2_code, exceptionTable := #[], attributes := #[] }
def k8m0 : Method := { name := "holdsWildcards", desc := "(Ljava/lang/String;)Z", sig := { parameters := [(.object "java/lang/String")], returnType := some .boolean }, accessFlags := 8, code := some k8c0 }
/-- com/example/spojka/spojka/PathPattern -/
def k8 : Class := { plain "com/example/spojka/spojka/PathPattern" (some 0) with
  accessFlags := 48
  interfaces := #[]
  cf := some (fileOf pool8 16 #[.nestMembers #[150]] #[{ accessFlags := 8, nameIndex := 19, descriptorIndex := 20, attributes := #[] }] 48 2 #[] #[{ accessFlags := 26, nameIndex := 173, descriptorIndex := 47, attributes := #[] }, { accessFlags := 18, nameIndex := 46, descriptorIndex := 47, attributes := #[] }, { accessFlags := 18, nameIndex := 95, descriptorIndex := 96, attributes := #[] }])
  fields := #[{ name := "ANY_STEPS", type := (.object "java/lang/String"), accessFlags := 26, slot := 0, constantValue := 0 }, { name := "directory", type := (.object "java/lang/String"), accessFlags := 18, slot := 0, constantValue := 0 }, { name := "steps", type := (.object "java/util/List"), accessFlags := 18, slot := 1, constantValue := 0 }]
  methods := #[k8m0]
  instanceTypes := #[(.object "java/lang/String"), (.object "java/util/List")]
  staticTypes := #[(.object "java/lang/String")]
  resolved := Array.replicate 208 none
  statics := none }

def pool9 : Array CpInfo := pool [(4, .class_ 6), (1, u "java/lang/Object"), (0, u "<init>"), (0, u "()V"), (5, .class_ 16), (1, u "java/lang/StringLatin1"), (21, .methodref 39 40), (0, .class_ 41), (0, .nameAndType 42 43), (0, u "java/lang/Math"), (0, u "min"), (0, u "(II)I"), (44, .methodref 14 89), (0, .nameAndType 90 91), (0, u "canEncode"), (0, u "(I)Z"), (0, .methodref 39 93), (0, .nameAndType 94 43), (0, u "max"), (0, .methodref 14 96), (0, .nameAndType 97 98), (0, u "indexOfChar"), (0, u "([BIII)I"), (2, u "indexOf"), (19, u "$assertionsDisabled"), (0, u "Z"), (98, .class_ 223), (1, u "java/lang/StringLatin1$LinesSpliterator"), (166, .class_ 391), (0, u "java/lang/StringLatin1$CharsSpliterator")] 3

def k9m0 : Method := { name := "<init>", desc := "()V", sig := { parameters := [], returnType := none }, accessFlags := 0, code := none }
def k9c1 : Code := { maxStack := 2, maxLocals := 1, code := jdk_43_method_4_code, exceptionTable := #[], attributes := #[] }
def k9m1 : Method := { name := "canEncode", desc := "(I)Z", sig := { parameters := [.int], returnType := some .boolean }, accessFlags := 9, code := some k9c1 }
def k9c2 : Code := { maxStack := 4, maxLocals := 4, code := jdk_43_method_22_code, exceptionTable := #[], attributes := #[] }
def k9m2 : Method := { name := "indexOf", desc := "([BIII)I", sig := { parameters := [(.array .byte), .int, .int, .int], returnType := some .int }, accessFlags := 9, code := some k9c2 }
def k9c3 : Code := { maxStack := 2, maxLocals := 6, code := jdk_43_method_23_code, exceptionTable := #[], attributes := #[] }
def k9m3 : Method := { name := "indexOfChar", desc := "([BIII)I", sig := { parameters := [(.array .byte), .int, .int, .int], returnType := some .int }, accessFlags := 10, code := some k9c3 }
/-- java/lang/StringLatin1 -/
def k9 : Class := { plain "java/lang/StringLatin1" (some 0) with
  accessFlags := 48
  interfaces := #[]
  cf := some (fileOf pool9 14 #[.nestMembers #[390, 221]] #[{ accessFlags := 0, nameIndex := 7, descriptorIndex := 8, attributes := #[] }, { accessFlags := 9, nameIndex := 90, descriptorIndex := 91, attributes := #[] }, { accessFlags := 9, nameIndex := 101, descriptorIndex := 98, attributes := #[] }, { accessFlags := 10, nameIndex := 97, descriptorIndex := 98, attributes := #[] }] 48 4 #[] #[{ accessFlags := 4120, nameIndex := 121, descriptorIndex := 122, attributes := #[] }])
  fields := #[{ name := "$assertionsDisabled", type := .boolean, accessFlags := 4120, slot := 0, constantValue := 0 }]
  methods := #[k9m0, k9m1, k9m2, k9m3]
  instanceTypes := #[]
  staticTypes := #[.boolean]
  resolved := Array.replicate 395 none
  statics := none }

def pool10 : Array CpInfo := pool [(1, .class_ 2), (0, u "java/lang/Math"), (1, .class_ 6), (1, u "java/lang/Object"), (0, u "<init>"), (0, u "()V"), (89, .class_ 100), (1, u "java/lang/Math$RandomNumberGeneratorHolder"), (71, u "negativeZeroFloatBits"), (0, u "J"), (2, u "negativeZeroDoubleBits"), (21, u "max"), (2, u "min"), (43, u "$assertionsDisabled"), (0, u "Z"), (88, u "(II)I"), (2, u "twoToTheDoubleScaleDown"), (0, u "D"), (4, u "twoToTheDoubleScaleUp"), (9, u "E"), (3, u "PI"), (2, u "TAU"), (2, u "DEGREES_TO_RADIANS"), (0, u "RADIANS_TO_DEGREES")] 94

def k10m0 : Method := { name := "<init>", desc := "()V", sig := { parameters := [], returnType := none }, accessFlags := 2, code := none }
def k10c1 : Code := { maxStack := 2, maxLocals := 2, code := jdk_29_method_65_code, exceptionTable := #[], attributes := #[] }
def k10m1 : Method := { name := "max", desc := "(II)I", sig := { parameters := [.int, .int], returnType := some .int }, accessFlags := 9, code := some k10c1 }
def k10c2 : Code := { maxStack := 2, maxLocals := 2, code := jdk_29_method_69_code, exceptionTable := #[], attributes := #[] }
def k10m2 : Method := { name := "min", desc := "(II)I", sig := { parameters := [.int, .int], returnType := some .int }, accessFlags := 9, code := some k10c2 }
/-- java/lang/Math -/
def k10 : Class := { plain "java/lang/Math" (some 0) with
  accessFlags := 49
  interfaces := #[]
  cf := some (fileOf pool10 1 #[.nestMembers #[98]] #[{ accessFlags := 2, nameIndex := 7, descriptorIndex := 8, attributes := #[] }, { accessFlags := 9, nameIndex := 198, descriptorIndex := 335, attributes := #[] }, { accessFlags := 9, nameIndex := 201, descriptorIndex := 335, attributes := #[] }] 49 4 #[] #[{ accessFlags := 25, nameIndex := 354, descriptorIndex := 339, attributes := #[] }, { accessFlags := 25, nameIndex := 358, descriptorIndex := 339, attributes := #[] }, { accessFlags := 25, nameIndex := 361, descriptorIndex := 339, attributes := #[] }, { accessFlags := 26, nameIndex := 364, descriptorIndex := 339, attributes := #[] }, { accessFlags := 26, nameIndex := 365, descriptorIndex := 339, attributes := #[] }, { accessFlags := 26, nameIndex := 172, descriptorIndex := 173, attributes := #[] }, { accessFlags := 26, nameIndex := 176, descriptorIndex := 173, attributes := #[] }, { accessFlags := 8, nameIndex := 344, descriptorIndex := 339, attributes := #[] }, { accessFlags := 8, nameIndex := 338, descriptorIndex := 339, attributes := #[] }, { accessFlags := 4120, nameIndex := 245, descriptorIndex := 246, attributes := #[] }])
  fields := #[{ name := "E", type := .double, accessFlags := 25, slot := 0, constantValue := 0 }, { name := "PI", type := .double, accessFlags := 25, slot := 1, constantValue := 0 }, { name := "TAU", type := .double, accessFlags := 25, slot := 2, constantValue := 0 }, { name := "DEGREES_TO_RADIANS", type := .double, accessFlags := 26, slot := 3, constantValue := 0 }, { name := "RADIANS_TO_DEGREES", type := .double, accessFlags := 26, slot := 4, constantValue := 0 }, { name := "negativeZeroFloatBits", type := .long, accessFlags := 26, slot := 5, constantValue := 0 }, { name := "negativeZeroDoubleBits", type := .long, accessFlags := 26, slot := 6, constantValue := 0 }, { name := "twoToTheDoubleScaleUp", type := .double, accessFlags := 8, slot := 7, constantValue := 0 }, { name := "twoToTheDoubleScaleDown", type := .double, accessFlags := 8, slot := 8, constantValue := 0 }, { name := "$assertionsDisabled", type := .boolean, accessFlags := 4120, slot := 9, constantValue := 0 }]
  methods := #[k10m0, k10m1, k10m2]
  instanceTypes := #[]
  staticTypes := #[.double, .double, .double, .double, .double, .long, .long, .double, .double, .boolean]
  resolved := Array.replicate 460 none
  statics := none }

def pool11 : Array CpInfo := pool [(6, .class_ 8), (1, u "java/lang/Object"), (0, u "<init>"), (0, u "()V"), (1, .class_ 14), (1, u "java/lang/StringUTF16"), (31, u "$assertionsDisabled"), (0, u "Z"), (13, u "HI_BYTE_SHIFT"), (0, u "I"), (2, u "LO_BYTE_SHIFT"), (49, .methodref 12 116), (0, .nameAndType 117 118), (0, u "compress"), (0, u "([CI[BII)I"), (3, u "([CII)[B"), (138, u "coderFromArrayLen"), (0, u "([BI)B"), (106, .class_ 371), (1, u "java/lang/StringUTF16$LinesSpliterator"), (58, u "MAX_LENGTH"), (196, .class_ 628), (0, u "java/lang/StringUTF16$CodePointsSpliterator"), (0, .class_ 630), (0, u "java/lang/StringUTF16$CharsSpliterator")] 4

def k11m0 : Method := { name := "<init>", desc := "()V", sig := { parameters := [], returnType := none }, accessFlags := 0, code := none }
def k11c1 : Code := { maxStack := 2, maxLocals := 2, code := jdk_52_method_15_code, exceptionTable := #[], attributes := #[] }
def k11m1 : Method := { name := "coderFromArrayLen", desc := "([BI)B", sig := { parameters := [(.array .byte), .int], returnType := some .byte }, accessFlags := 8, code := some k11c1 }
def k11c2 : Code := { maxStack := 5, maxLocals := 6, code := jdk_52_method_16_code, exceptionTable := #[], attributes := #[] }
def k11m2 : Method := { name := "compress", desc := "([CII)[B", sig := { parameters := [(.array .char), .int, .int], returnType := some (.array .byte) }, accessFlags := 9, code := some k11c2 }
def k11c3 : Code := { maxStack := 3, maxLocals := 7, code := jdk_52_method_21_code, exceptionTable := #[], attributes := #[] }
def k11m3 : Method := { name := "compress", desc := "([CI[BII)I", sig := { parameters := [(.array .char), .int, (.array .byte), .int, .int], returnType := some .int }, accessFlags := 9, code := some k11c3 }
/-- java/lang/StringUTF16 -/
def k11 : Class := { plain "java/lang/StringUTF16" (some 0) with
  accessFlags := 48
  interfaces := #[]
  cf := some (fileOf pool11 12 #[.nestMembers #[627, 629, 369]] #[{ accessFlags := 0, nameIndex := 9, descriptorIndex := 10, attributes := #[] }, { accessFlags := 8, nameIndex := 261, descriptorIndex := 262, attributes := #[] }, { accessFlags := 9, nameIndex := 117, descriptorIndex := 122, attributes := #[] }, { accessFlags := 9, nameIndex := 117, descriptorIndex := 118, attributes := #[] }] 48 6 #[] #[{ accessFlags := 26, nameIndex := 61, descriptorIndex := 62, attributes := #[] }, { accessFlags := 26, nameIndex := 65, descriptorIndex := 62, attributes := #[] }, { accessFlags := 24, nameIndex := 430, descriptorIndex := 62, attributes := #[] }, { accessFlags := 4120, nameIndex := 46, descriptorIndex := 47, attributes := #[] }])
  fields := #[{ name := "HI_BYTE_SHIFT", type := .int, accessFlags := 26, slot := 0, constantValue := 0 }, { name := "LO_BYTE_SHIFT", type := .int, accessFlags := 26, slot := 1, constantValue := 0 }, { name := "MAX_LENGTH", type := .int, accessFlags := 24, slot := 2, constantValue := 0 }, { name := "$assertionsDisabled", type := .boolean, accessFlags := 4120, slot := 3, constantValue := 0 }]
  methods := #[k11m0, k11m1, k11m2, k11m3]
  instanceTypes := #[]
  staticTypes := #[.int, .int, .int, .boolean]
  resolved := Array.replicate 635 none
  statics := none }

def pool12 : Array CpInfo := pool [(2, .class_ 4), (1, u "java/lang/Object"), (0, u "<init>"), (0, u "()V"), (17, .class_ 26), (1, u "jdk/internal/util/Preconditions"), (28, .class_ 56), (0, u "jdk/internal/util/Preconditions$4"), (57, .class_ 115), (0, u "jdk/internal/util/Preconditions$1"), (7, u "SIOOBE_FORMATTER"), (0, u "Ljava/util/function/BiFunction;"), (0, .class_ 126), (0, u "jdk/internal/util/Preconditions$2"), (3, u "AIOOBE_FORMATTER"), (0, .class_ 132), (0, u "jdk/internal/util/Preconditions$3"), (3, u "IOOBE_FORMATTER")] 57

def k12m0 : Method := { name := "<init>", desc := "()V", sig := { parameters := [], returnType := none }, accessFlags := 1, code := none }
/-- jdk/internal/util/Preconditions -/
def k12 : Class := { plain "jdk/internal/util/Preconditions" (some 0) with
  accessFlags := 33
  interfaces := #[]
  cf := some (fileOf pool12 24 #[.nestMembers #[55, 131, 125, 114]] #[{ accessFlags := 1, nameIndex := 5, descriptorIndex := 6, attributes := #[] }] 33 2 #[] #[{ accessFlags := 25, nameIndex := 123, descriptorIndex := 124, attributes := #[] }, { accessFlags := 25, nameIndex := 130, descriptorIndex := 124, attributes := #[] }, { accessFlags := 25, nameIndex := 136, descriptorIndex := 124, attributes := #[] }])
  fields := #[{ name := "SIOOBE_FORMATTER", type := (.object "java/util/function/BiFunction"), accessFlags := 25, slot := 0, constantValue := 0 }, { name := "AIOOBE_FORMATTER", type := (.object "java/util/function/BiFunction"), accessFlags := 25, slot := 1, constantValue := 0 }, { name := "IOOBE_FORMATTER", type := (.object "java/util/function/BiFunction"), accessFlags := 25, slot := 2, constantValue := 0 }]
  methods := #[k12m0]
  instanceTypes := #[]
  staticTypes := #[(.object "java/util/function/BiFunction"), (.object "java/util/function/BiFunction"), (.object "java/util/function/BiFunction")]
  resolved := Array.replicate 194 none
  statics := some 1 }

def pool13 : Array CpInfo := pool [(9, u "<init>"), (6, .class_ 18), (1, u "java/lang/Object"), (0, u "()V"), (1, .class_ 23), (1, u "jdk/internal/util/ArraysSupport"), (0, u "LOG2_ARRAY_LONG_INDEX_SCALE"), (0, u "I"), (2, u "U"), (0, u "Ljdk/internal/misc/Unsafe;"), (8, u "BIG_ENDIAN"), (0, u "Z"), (8, u "LOG2_BYTE_BIT_SIZE"), (4, u "LOG2_ARRAY_INT_INDEX_SCALE"), (54, u "JLA"), (0, u "Ljdk/internal/access/JavaLangAccess;"), (11, u "LOG2_ARRAY_BOOLEAN_INDEX_SCALE"), (9, u "LOG2_ARRAY_BYTE_INDEX_SCALE"), (5, u "LOG2_ARRAY_CHAR_INDEX_SCALE"), (5, u "LOG2_ARRAY_SHORT_INDEX_SCALE"), (18, u "LOG2_ARRAY_FLOAT_INDEX_SCALE"), (24, u "LOG2_ARRAY_DOUBLE_INDEX_SCALE"), (89, u "T_BOOLEAN"), (2, u "T_CHAR"), (1, u "T_FLOAT"), (1, u "T_DOUBLE"), (1, u "T_BYTE"), (1, u "T_SHORT"), (1, u "T_INT"), (1, u "T_LONG"), (1, u "SOFT_MAX_ARRAY_LENGTH")] 83

def k13m0 : Method := { name := "<init>", desc := "()V", sig := { parameters := [], returnType := none }, accessFlags := 2, code := none }
/-- jdk/internal/util/ArraysSupport -/
def k13 : Class := { plain "jdk/internal/util/ArraysSupport" (some 0) with
  accessFlags := 33
  interfaces := #[]
  cf := some (fileOf pool13 21 #[] #[{ accessFlags := 2, nameIndex := 9, descriptorIndex := 19, attributes := #[] }] 33 16 #[] #[{ accessFlags := 24, nameIndex := 28, descriptorIndex := 29, attributes := #[] }, { accessFlags := 26, nameIndex := 38, descriptorIndex := 39, attributes := #[] }, { accessFlags := 25, nameIndex := 121, descriptorIndex := 25, attributes := #[] }, { accessFlags := 25, nameIndex := 131, descriptorIndex := 25, attributes := #[] }, { accessFlags := 25, nameIndex := 137, descriptorIndex := 25, attributes := #[] }, { accessFlags := 25, nameIndex := 143, descriptorIndex := 25, attributes := #[] }, { accessFlags := 25, nameIndex := 53, descriptorIndex := 25, attributes := #[] }, { accessFlags := 25, nameIndex := 24, descriptorIndex := 25, attributes := #[] }, { accessFlags := 25, nameIndex := 162, descriptorIndex := 25, attributes := #[] }, { accessFlags := 25, nameIndex := 187, descriptorIndex := 25, attributes := #[] }, { accessFlags := 26, nameIndex := 48, descriptorIndex := 25, attributes := #[] }, { accessFlags := 25, nameIndex := 277, descriptorIndex := 25, attributes := #[] }, { accessFlags := 25, nameIndex := 280, descriptorIndex := 25, attributes := #[] }, { accessFlags := 25, nameIndex := 282, descriptorIndex := 25, attributes := #[] }, { accessFlags := 25, nameIndex := 284, descriptorIndex := 25, attributes := #[] }, { accessFlags := 25, nameIndex := 286, descriptorIndex := 25, attributes := #[] }, { accessFlags := 25, nameIndex := 288, descriptorIndex := 25, attributes := #[] }, { accessFlags := 25, nameIndex := 290, descriptorIndex := 25, attributes := #[] }, { accessFlags := 25, nameIndex := 292, descriptorIndex := 25, attributes := #[] }, { accessFlags := 26, nameIndex := 108, descriptorIndex := 109, attributes := #[] }, { accessFlags := 25, nameIndex := 294, descriptorIndex := 25, attributes := #[] }])
  fields := #[{ name := "U", type := (.object "jdk/internal/misc/Unsafe"), accessFlags := 24, slot := 0, constantValue := 0 }, { name := "BIG_ENDIAN", type := .boolean, accessFlags := 26, slot := 1, constantValue := 0 }, { name := "LOG2_ARRAY_BOOLEAN_INDEX_SCALE", type := .int, accessFlags := 25, slot := 2, constantValue := 0 }, { name := "LOG2_ARRAY_BYTE_INDEX_SCALE", type := .int, accessFlags := 25, slot := 3, constantValue := 0 }, { name := "LOG2_ARRAY_CHAR_INDEX_SCALE", type := .int, accessFlags := 25, slot := 4, constantValue := 0 }, { name := "LOG2_ARRAY_SHORT_INDEX_SCALE", type := .int, accessFlags := 25, slot := 5, constantValue := 0 }, { name := "LOG2_ARRAY_INT_INDEX_SCALE", type := .int, accessFlags := 25, slot := 6, constantValue := 0 }, { name := "LOG2_ARRAY_LONG_INDEX_SCALE", type := .int, accessFlags := 25, slot := 7, constantValue := 0 }, { name := "LOG2_ARRAY_FLOAT_INDEX_SCALE", type := .int, accessFlags := 25, slot := 8, constantValue := 0 }, { name := "LOG2_ARRAY_DOUBLE_INDEX_SCALE", type := .int, accessFlags := 25, slot := 9, constantValue := 0 }, { name := "LOG2_BYTE_BIT_SIZE", type := .int, accessFlags := 26, slot := 10, constantValue := 0 }, { name := "T_BOOLEAN", type := .int, accessFlags := 25, slot := 11, constantValue := 0 }, { name := "T_CHAR", type := .int, accessFlags := 25, slot := 12, constantValue := 0 }, { name := "T_FLOAT", type := .int, accessFlags := 25, slot := 13, constantValue := 0 }, { name := "T_DOUBLE", type := .int, accessFlags := 25, slot := 14, constantValue := 0 }, { name := "T_BYTE", type := .int, accessFlags := 25, slot := 15, constantValue := 0 }, { name := "T_SHORT", type := .int, accessFlags := 25, slot := 16, constantValue := 0 }, { name := "T_INT", type := .int, accessFlags := 25, slot := 17, constantValue := 0 }, { name := "T_LONG", type := .int, accessFlags := 25, slot := 18, constantValue := 0 }, { name := "JLA", type := (.object "jdk/internal/access/JavaLangAccess"), accessFlags := 26, slot := 19, constantValue := 0 }, { name := "SOFT_MAX_ARRAY_LENGTH", type := .int, accessFlags := 25, slot := 20, constantValue := 0 }]
  methods := #[k13m0]
  instanceTypes := #[]
  staticTypes := #[(.object "jdk/internal/misc/Unsafe"), .boolean, .int, .int, .int, .int, .int, .int, .int, .int, .int, .int, .int, .int, .int, .int, .int, .int, .int, (.object "jdk/internal/access/JavaLangAccess"), .int]
  resolved := Array.replicate 378 none
  statics := none }

def pool14 : Array CpInfo := pool [(1, u "java/lang/Cloneable"), (0, .class_ 1), (0, u "java/lang/Object"), (0, .class_ 3)] 3

/-- java/lang/Cloneable -/
def k14 : Class := { plain "java/lang/Cloneable" (some 0) with
  accessFlags := 1537
  interfaces := #[]
  cf := some (fileOf pool14 2 #[] #[] 1537 4 #[] #[])
  fields := #[]
  methods := #[]
  instanceTypes := #[]
  staticTypes := #[]
  resolved := Array.replicate 8 none
  statics := none }

/-- the primitive byte -/
def k15 : Class := { plain "byte" none with kind := .primitive 'B', accessFlags := 0x411 }
/-- [B -/
def k16 : Class := { plain "[B" (some 0) with kind := .array 15 .byte, interfaces := #[14, 2], accessFlags := 1041 }

/-- the primitive char -/
def k17 : Class := { plain "char" none with kind := .primitive 'C', accessFlags := 0x411 }
/-- [C -/
def k18 : Class := { plain "[C" (some 0) with kind := .array 17 .char, interfaces := #[14, 2], accessFlags := 1041 }

/-- the primitive int -/
def k19 : Class := { plain "int" none with kind := .primitive 'I', accessFlags := 0x411 }
/-- [I -/
def k20 : Class := { plain "[I" (some 0) with kind := .array 19 .int, interfaces := #[14, 2], accessFlags := 1041 }

def heap : Heap := #[{ cls := 7, slots := #[.long 0, .int 1, .null, .int 0, .null, .int 0, .int 0], vm := .statics 7 },
  { cls := 12, slots := #[.null, .null, .null], vm := .statics 12 }]
def classes : Array Class := #[k0, k1, k2, k3, k4, k5, k6, k7, k8, k9, k10, k11, k12, k13, k14, k15, k16, k17, k18, k19, k20]
def interned : List (Array UInt16 × Addr) := []
def slotsUsed : Nat := 10
def theMethod : MethodId := ⟨1, 2⟩
def args0 : Array Value := #[.int 1, .int 66, .int 7, .int 8, .int 9]
def aboutOver (below : List Frame) : State where
  vm := { classes := classes, interned := interned.toArray }
  heap := heap
  slotsUsed := slotsUsed
  threads := #[{ frames := .invoking theMethod args0 :: below }]
def below0 : List Frame := [.native { method := ⟨0, 0⟩, args := #[] }]
def about1 : State := aboutOver below0
def p0 : Program := .bare "" "" ""
def e0 : Env := launch0.env 0 0 0
theorem w_frames : about1.frames = Frame.invoking theMethod args0 :: below0 := rfl
set_option maxRecDepth 65536 in
theorem w_args : argsFit about1.vm theMethod args0 = true := by decide +kernel
set_option maxRecDepth 65536 in
theorem w_heap : heapFits about1 = true := by decide +kernel
set_option maxRecDepth 65536 in
theorem w_runnable : about1.curStatus? = some .runnable := by decide +kernel
set_option maxRecDepth 65536 in
theorem w_alone : about1.alone = true := by decide +kernel
set_option maxRecDepth 65536 in
theorem w_named : about1.methodNamed? x = some theMethod := by decide +kernel
set_option maxRecDepth 65536 in
theorem w_hears : about1.hears theMethod below0 = true := by decide +kernel
set_option maxRecDepth 65536 in
theorem w_ripe : about1.ripe theMethod args0 below0 = true := by decide +kernel
theorem w_running : about1.status = .running := rfl
set_option maxRecDepth 65536 in
theorem w_room : about1.hasRoom e0.platform room_1 = true :=
  launch0.hasRoom_least _ room_1 (by decide +kernel) (by decide +kernel) (by decide +kernel) (by decide +kernel) (by decide +kernel) (by decide +kernel)
theorem allAtoms_all (ts : List Jvm.Cond) (a : Array Jvm.Value) (st : Jvm.State) : (allAtoms ts).before a st = ts.all (fun c => c.before a st) := by
  induction ts with
  | nil => rfl
  | cons c t ih =>
    show (Jvm.Cond.and c (allAtoms t)).before a st = _
    rw [Jvm.Cond.before_and, ih, List.all_cons]
def words1 : List Jvm.Cond := Jvm.Cond.code x code maxLocals ret :: tables_1
/-- a 'code' word, met by the world's own term for the bytes: nothing is compared byte by byte -/
theorem code_word {y : MethodName} {bytes : ByteArray} {mx : Nat} {rt : Option FieldType} {a : Array Value} {s : State} {m : MethodId} {meth : Method} {c : Code} (h1 : s.methodNamed? y = some m) (h2 : s.vm.method? m = some meth) (h3 : meth.code = some c) (h4 : c.code = bytes)
    (h5 : (c.maxLocals == mx && c.exceptionTable.isEmpty && decide (c.maxStack ≤ mostOperands) && decide (meth.sig.returnType = rt) && !meth.locks && decide (parseMethodDescriptor y.desc = some meth.sig)) = true) : (Jvm.Cond.code y bytes mx rt).before a s = true := by
  simp only [Bool.and_eq_true, beq_iff_eq, Bool.not_eq_true', decide_eq_true_eq] at h5
  obtain ⟨⟨⟨⟨⟨g1, g2⟩, g3⟩, g4⟩, g5⟩, g6⟩ := h5
  simp [Cond.before, Cond.holds, Cond.value, h1, h2, h3, h4, g1, g2, g3, g4, g5, g6]
def isCode : Jvm.Cond → Bool
  | .code _ _ _ _ => true
  | _ => false
theorem all_split {L : List Jvm.Cond} {P : Jvm.Cond → Bool} (h1 : L.all (fun c => isCode c || P c) = true) (h2 : ∀ c ∈ L.filter isCode, P c = true) : L.all P = true := by
  refine List.all_eq_true.mpr fun c hc => ?_
  have h := List.all_eq_true.mp h1 c hc
  rcases Bool.eq_false_or_eq_true (isCode c) with hi | hi
  · exact h2 c (List.mem_filter.mpr ⟨hc, hi⟩)
  · simpa [hi] using h
set_option maxRecDepth 65536 in
theorem w_c0 : (Jvm.Cond.code x code maxLocals ret).before args0 about1 = true := code_word (m := ⟨1, 2⟩) (meth := k1m2) (c := k1c2) (by decide +kernel) rfl rfl rfl (by decide +kernel)
set_option maxRecDepth 65536 in
theorem w_c1 : (Jvm.Cond.code ({ cls := "java/lang/String", name := "<init>", desc := "([C)V" } : Jvm.MethodName) jdk_42_method_3_code (2 : Nat) (Option.none : Option Jvm.ClassFile.FieldType)).before args0 about1 = true := code_word (m := ⟨7, 1⟩) (meth := k7m1) (c := k7c1) (by decide +kernel) rfl rfl rfl (by decide +kernel)
set_option maxRecDepth 65536 in
theorem w_c2 : (Jvm.Cond.code ({ cls := "java/lang/String", name := "<init>", desc := "([CIILjava/lang/Void;)V" } : Jvm.MethodName) jdk_42_method_149_code (6 : Nat) (Option.none : Option Jvm.ClassFile.FieldType)).before args0 about1 = true := code_word (m := ⟨7, 5⟩) (meth := k7m5) (c := k7c5) (by decide +kernel) rfl rfl rfl (by decide +kernel)
set_option maxRecDepth 65536 in
theorem w_c3 : (Jvm.Cond.code ({ cls := "java/lang/Object", name := "<init>", desc := "()V" } : Jvm.MethodName) object_method_1_code (1 : Nat) (Option.none : Option Jvm.ClassFile.FieldType)).before args0 about1 = true := code_word (m := ⟨0, 0⟩) (meth := k0m0) (c := k0c0) (by decide +kernel) rfl rfl rfl (by decide +kernel)
set_option maxRecDepth 65536 in
theorem w_c4 : (Jvm.Cond.code ({ cls := "com/example/spojka/spojka/PathPattern", name := "holdsWildcards", desc := "(Ljava/lang/String;)Z" } : Jvm.MethodName) prog_34_method_2_code (1 : Nat) (Option.some Jvm.ClassFile.FieldType.boolean)).before args0 about1 = true := code_word (m := ⟨8, 0⟩) (meth := k8m0) (c := k8c0) (by decide +kernel) rfl rfl rfl (by decide +kernel)
set_option maxRecDepth 65536 in
theorem w_c5 : (Jvm.Cond.code ({ cls := "java/lang/String", name := "indexOf", desc := "(I)I" } : Jvm.MethodName) jdk_42_method_79_code (2 : Nat) (Option.some Jvm.ClassFile.FieldType.int)).before args0 about1 = true := code_word (m := ⟨7, 3⟩) (meth := k7m3) (c := k7c3) (by decide +kernel) rfl rfl rfl (by decide +kernel)
set_option maxRecDepth 65536 in
theorem w_c6 : (Jvm.Cond.code ({ cls := "java/lang/String", name := "indexOf", desc := "(II)I" } : Jvm.MethodName) jdk_42_method_80_code (3 : Nat) (Option.some Jvm.ClassFile.FieldType.int)).before args0 about1 = true := code_word (m := ⟨7, 4⟩) (meth := k7m4) (c := k7c4) (by decide +kernel) rfl rfl rfl (by decide +kernel)
set_option maxRecDepth 65536 in
theorem w_c7 : (Jvm.Cond.code ({ cls := "java/lang/String", name := "isLatin1", desc := "()Z" } : Jvm.MethodName) jdk_42_method_154_code (1 : Nat) (Option.some Jvm.ClassFile.FieldType.boolean)).before args0 about1 = true := code_word (m := ⟨7, 7⟩) (meth := k7m7) (c := k7c7) (by decide +kernel) rfl rfl rfl (by decide +kernel)
set_option maxRecDepth 65536 in
theorem w_c8 : (Jvm.Cond.code ({ cls := "java/lang/String", name := "length", desc := "()I" } : Jvm.MethodName) jdk_42_method_54_code (1 : Nat) (Option.some Jvm.ClassFile.FieldType.int)).before args0 about1 = true := code_word (m := ⟨7, 2⟩) (meth := k7m2) (c := k7c2) (by decide +kernel) rfl rfl rfl (by decide +kernel)
set_option maxRecDepth 65536 in
theorem w_c9 : (Jvm.Cond.code ({ cls := "java/lang/String", name := "coder", desc := "()B" } : Jvm.MethodName) jdk_42_method_152_code (1 : Nat) (Option.some Jvm.ClassFile.FieldType.byte)).before args0 about1 = true := code_word (m := ⟨7, 6⟩) (meth := k7m6) (c := k7c6) (by decide +kernel) rfl rfl rfl (by decide +kernel)
set_option maxRecDepth 65536 in
theorem w_c10 : (Jvm.Cond.code ({ cls := "java/lang/StringLatin1", name := "indexOf", desc := "([BIII)I" } : Jvm.MethodName) jdk_43_method_22_code (4 : Nat) (Option.some Jvm.ClassFile.FieldType.int)).before args0 about1 = true := code_word (m := ⟨9, 2⟩) (meth := k9m2) (c := k9c2) (by decide +kernel) rfl rfl rfl (by decide +kernel)
set_option maxRecDepth 65536 in
theorem w_c11 : (Jvm.Cond.code ({ cls := "java/lang/StringLatin1", name := "canEncode", desc := "(I)Z" } : Jvm.MethodName) jdk_43_method_4_code (1 : Nat) (Option.some Jvm.ClassFile.FieldType.boolean)).before args0 about1 = true := code_word (m := ⟨9, 1⟩) (meth := k9m1) (c := k9c1) (by decide +kernel) rfl rfl rfl (by decide +kernel)
set_option maxRecDepth 65536 in
theorem w_c12 : (Jvm.Cond.code ({ cls := "java/lang/Math", name := "max", desc := "(II)I" } : Jvm.MethodName) jdk_29_method_65_code (2 : Nat) (Option.some Jvm.ClassFile.FieldType.int)).before args0 about1 = true := code_word (m := ⟨10, 1⟩) (meth := k10m1) (c := k10c1) (by decide +kernel) rfl rfl rfl (by decide +kernel)
set_option maxRecDepth 65536 in
theorem w_c13 : (Jvm.Cond.code ({ cls := "java/lang/Math", name := "min", desc := "(II)I" } : Jvm.MethodName) jdk_29_method_69_code (2 : Nat) (Option.some Jvm.ClassFile.FieldType.int)).before args0 about1 = true := code_word (m := ⟨10, 2⟩) (meth := k10m2) (c := k10c2) (by decide +kernel) rfl rfl rfl (by decide +kernel)
set_option maxRecDepth 65536 in
theorem w_c14 : (Jvm.Cond.code ({ cls := "java/lang/StringUTF16", name := "compress", desc := "([CII)[B" } : Jvm.MethodName) jdk_52_method_16_code (6 : Nat) (Option.some (Jvm.ClassFile.FieldType.array Jvm.ClassFile.FieldType.byte))).before args0 about1 = true := code_word (m := ⟨11, 2⟩) (meth := k11m2) (c := k11c2) (by decide +kernel) rfl rfl rfl (by decide +kernel)
set_option maxRecDepth 65536 in
theorem w_c15 : (Jvm.Cond.code ({ cls := "java/lang/StringUTF16", name := "compress", desc := "([CI[BII)I" } : Jvm.MethodName) jdk_52_method_21_code (7 : Nat) (Option.some Jvm.ClassFile.FieldType.int)).before args0 about1 = true := code_word (m := ⟨11, 3⟩) (meth := k11m3) (c := k11c3) (by decide +kernel) rfl rfl rfl (by decide +kernel)
set_option maxRecDepth 65536 in
theorem w_c16 : (Jvm.Cond.code ({ cls := "java/lang/StringUTF16", name := "coderFromArrayLen", desc := "([BI)B" } : Jvm.MethodName) jdk_52_method_15_code (2 : Nat) (Option.some Jvm.ClassFile.FieldType.byte)).before args0 about1 = true := code_word (m := ⟨11, 1⟩) (meth := k11m1) (c := k11c1) (by decide +kernel) rfl rfl rfl (by decide +kernel)
set_option maxRecDepth 65536 in
theorem w_c17 : (Jvm.Cond.code ({ cls := "com/example/spojka/spojka/PathPatternHoldsWildcardsPinLaw", name := "wild", desc := "(C)Z" } : Jvm.MethodName) method_2_code (1 : Nat) (Option.some Jvm.ClassFile.FieldType.boolean)).before args0 about1 = true := code_word (m := ⟨1, 1⟩) (meth := k1m1) (c := k1c1) (by decide +kernel) rfl rfl rfl (by decide +kernel)
set_option maxRecDepth 65536 in
theorem w_c18 : (Jvm.Cond.code ({ cls := "java/lang/StringLatin1", name := "indexOfChar", desc := "([BIII)I" } : Jvm.MethodName) jdk_43_method_23_code (6 : Nat) (Option.some Jvm.ClassFile.FieldType.int)).before args0 about1 = true := code_word (m := ⟨9, 3⟩) (meth := k9m3) (c := k9c3) (by decide +kernel) rfl rfl rfl (by decide +kernel)
def codes1 : List Jvm.Cond := [Jvm.Cond.code x code maxLocals ret, Jvm.Cond.code ({ cls := "java/lang/String", name := "<init>", desc := "([C)V" } : Jvm.MethodName) jdk_42_method_3_code (2 : Nat) (Option.none : Option Jvm.ClassFile.FieldType), Jvm.Cond.code ({ cls := "java/lang/String", name := "<init>", desc := "([CIILjava/lang/Void;)V" } : Jvm.MethodName) jdk_42_method_149_code (6 : Nat) (Option.none : Option Jvm.ClassFile.FieldType), Jvm.Cond.code ({ cls := "java/lang/Object", name := "<init>", desc := "()V" } : Jvm.MethodName) object_method_1_code (1 : Nat) (Option.none : Option Jvm.ClassFile.FieldType), Jvm.Cond.code ({ cls := "com/example/spojka/spojka/PathPattern", name := "holdsWildcards", desc := "(Ljava/lang/String;)Z" } : Jvm.MethodName) prog_34_method_2_code (1 : Nat) (Option.some Jvm.ClassFile.FieldType.boolean), Jvm.Cond.code ({ cls := "java/lang/String", name := "indexOf", desc := "(I)I" } : Jvm.MethodName) jdk_42_method_79_code (2 : Nat) (Option.some Jvm.ClassFile.FieldType.int), Jvm.Cond.code ({ cls := "java/lang/String", name := "indexOf", desc := "(II)I" } : Jvm.MethodName) jdk_42_method_80_code (3 : Nat) (Option.some Jvm.ClassFile.FieldType.int), Jvm.Cond.code ({ cls := "java/lang/String", name := "isLatin1", desc := "()Z" } : Jvm.MethodName) jdk_42_method_154_code (1 : Nat) (Option.some Jvm.ClassFile.FieldType.boolean), Jvm.Cond.code ({ cls := "java/lang/String", name := "length", desc := "()I" } : Jvm.MethodName) jdk_42_method_54_code (1 : Nat) (Option.some Jvm.ClassFile.FieldType.int), Jvm.Cond.code ({ cls := "java/lang/String", name := "coder", desc := "()B" } : Jvm.MethodName) jdk_42_method_152_code (1 : Nat) (Option.some Jvm.ClassFile.FieldType.byte), Jvm.Cond.code ({ cls := "java/lang/StringLatin1", name := "indexOf", desc := "([BIII)I" } : Jvm.MethodName) jdk_43_method_22_code (4 : Nat) (Option.some Jvm.ClassFile.FieldType.int), Jvm.Cond.code ({ cls := "java/lang/StringLatin1", name := "canEncode", desc := "(I)Z" } : Jvm.MethodName) jdk_43_method_4_code (1 : Nat) (Option.some Jvm.ClassFile.FieldType.boolean), Jvm.Cond.code ({ cls := "java/lang/Math", name := "max", desc := "(II)I" } : Jvm.MethodName) jdk_29_method_65_code (2 : Nat) (Option.some Jvm.ClassFile.FieldType.int), Jvm.Cond.code ({ cls := "java/lang/Math", name := "min", desc := "(II)I" } : Jvm.MethodName) jdk_29_method_69_code (2 : Nat) (Option.some Jvm.ClassFile.FieldType.int), Jvm.Cond.code ({ cls := "java/lang/StringUTF16", name := "compress", desc := "([CII)[B" } : Jvm.MethodName) jdk_52_method_16_code (6 : Nat) (Option.some (Jvm.ClassFile.FieldType.array Jvm.ClassFile.FieldType.byte)), Jvm.Cond.code ({ cls := "java/lang/StringUTF16", name := "compress", desc := "([CI[BII)I" } : Jvm.MethodName) jdk_52_method_21_code (7 : Nat) (Option.some Jvm.ClassFile.FieldType.int), Jvm.Cond.code ({ cls := "java/lang/StringUTF16", name := "coderFromArrayLen", desc := "([BI)B" } : Jvm.MethodName) jdk_52_method_15_code (2 : Nat) (Option.some Jvm.ClassFile.FieldType.byte), Jvm.Cond.code ({ cls := "com/example/spojka/spojka/PathPatternHoldsWildcardsPinLaw", name := "wild", desc := "(C)Z" } : Jvm.MethodName) method_2_code (1 : Nat) (Option.some Jvm.ClassFile.FieldType.boolean), Jvm.Cond.code ({ cls := "java/lang/StringLatin1", name := "indexOfChar", desc := "([BIII)I" } : Jvm.MethodName) jdk_43_method_23_code (6 : Nat) (Option.some Jvm.ClassFile.FieldType.int)]
set_option maxRecDepth 65536 in
theorem codes_eq : words1.filter isCode = codes1 := rfl
theorem w_codes : ∀ c ∈ words1.filter isCode, c.before args0 about1 = true := by
  rw [codes_eq]
  intro c hc
  simp only [codes1, List.mem_cons, List.not_mem_nil, or_false] at hc
  rcases hc with rfl | rfl | rfl | rfl | rfl | rfl | rfl | rfl | rfl | rfl | rfl | rfl | rfl | rfl | rfl | rfl | rfl | rfl | rfl
  · exact w_c0
  · exact w_c1
  · exact w_c2
  · exact w_c3
  · exact w_c4
  · exact w_c5
  · exact w_c6
  · exact w_c7
  · exact w_c8
  · exact w_c9
  · exact w_c10
  · exact w_c11
  · exact w_c12
  · exact w_c13
  · exact w_c14
  · exact w_c15
  · exact w_c16
  · exact w_c17
  · exact w_c18
set_option maxRecDepth 65536 in
theorem w_t1 : (words1.take 24).all (fun c => isCode c || c.before args0 about1) = true := by decide +kernel
set_option maxRecDepth 65536 in
theorem w_t2 : ((words1.drop 24).take 24).all (fun c => isCode c || c.before args0 about1) = true := by decide +kernel
set_option maxRecDepth 65536 in
theorem w_t3 : (((words1.drop 24).drop 24).take 24).all (fun c => isCode c || c.before args0 about1) = true := by decide +kernel
set_option maxRecDepth 65536 in
theorem w_t4 : (((words1.drop 24).drop 24).drop 24).all (fun c => isCode c || c.before args0 about1) = true := by decide +kernel
theorem w_tables : (allAtoms (Jvm.Cond.code x code maxLocals ret :: tables_1)).before args0 about1 = true := by
  rw [allAtoms_all]
  show words1.all (fun c => c.before args0 about1) = true
  refine all_split ?_ w_codes
  rw [← List.take_append_drop 24 words1, List.all_append, w_t1, ← List.take_append_drop 24 (words1.drop 24), List.all_append, w_t2, ← List.take_append_drop 24 ((words1.drop 24).drop 24), List.all_append, w_t3, w_t4]
  rfl
set_option maxRecDepth 65536 in
theorem w_rest : rest_1_c.before args0 about1 = true := by decide +kernel
set_option maxRecDepth 65536 in
theorem w_case : (Jvm.Cond.and given_1 narrow_1).before args0 about1 = true := by decide +kernel
set_option maxRecDepth 65536 in
theorem w_consts : constsHeld consts_1 about1 := Jvm.Lit.constsHeldB_iff.mp (by decide +kernel)
theorem w_applies : (headSpec (Jvm.Cond.code x code maxLocals ret :: tables_1) room_1).applies x e0.platform about1 = true :=
  (Spec.applies_iff w_frames).mpr ⟨w_running, w_runnable, w_alone, w_named, w_hears, w_ripe, w_room, w_tables⟩
theorem atStart : AtStart classFile x code maxLocals ret World_1 tables_1 room_1 Calls_1 rest_1 Pre_1 launch0 p0 e0 about1 theMethod args0 below0 :=
  ⟨lists_1, trivial, launch0.admits_env _ _ _, launch0.least_env, fairChoices_fair.cas, fairChoices_fair.clock, w_frames, w_args, w_heap, w_applies, ⟨w_consts, trivial⟩, w_rest, w_case⟩
end start1
theorem witness_1 : WitnessClaimed_1 := ⟨start1.p0, start1.e0, start1.about1, start1.theMethod, start1.args0, start1.below0, start1.atStart⟩
end Jvm.Pilot.@@N@@
