import JvmDerived
import JvmDerived.Pilot.@@N@@Statement
import JvmDerived.Pilot.@@N@@Code
set_option linter.unusedVariables false
set_option linter.unusedSimpArgs false
namespace Jvm.RoadKit
open Sem ClassFile Op Lib Jvm.Stand Jvm.Free Jvm.LawKit
section New
variable {p : Program} {l : Launch} {e : Env} {R : Room} {s : State} {m : MethodId} {args : Array Value} {below : List Frame} {meth : Method} {c : Code} {T : State} {locs : List Loc} {cells slots : Nat}
theorem retI (X : Stand p l e R s m args below meth c T locs cells slots) (hx : p.tables.exec = Jvm.exec) {pc : Nat} {Ls : Array Slot} {z : Int32} {rest : List Value} (hret : meth.sig.returnType = some .int) (hd : decode c.code pc = .ok (.ireturn, 1)) {fs : List Frame}
    (hl : ∀ (f : JFrame) (acts : List Action), f.method = m → f.locked = none → f.entered = [] → (doReturn e (T.setTop f) acts (some (.int z))).1 = T.setFrames fs) : Steps p.tables e below (T.setTop (mkF m pc Ls (.int z :: rest))) (T.setFrames fs) := by
  have hm' : T.vm.method? m = some meth := X.method'
  have hn : narrow .int (.int z) = .int z := rfl
  show Steps p.tables e below (T.setTop { method := m, pc := pc, locals := Ls, stack := _ :: rest, locked := none }) _
  jvm_step X.here [X.here.top, hx, hd, hm', hret, hn]
  first | (intro acts; rw [hl _ acts rfl rfl rfl]) | rw [hl _ _ rfl rfl rfl]
  exact Steps.refl _
end New
end Jvm.RoadKit
/- laws to paste: Road.backV (cut by pick.py; bodies as the Statement names them) -/
namespace Jvm.Pilot.@@N@@
namespace StrChars
open Jvm Sem ClassFile Op Lib Jvm.Stand Jvm.Free.XT Jvm.Free.ALB Jvm.Free.JM Jvm.Free
open Jvm.Lib.Cold (StaticIs)
/-- a char array whose places are chars -/
def Ch (a : Addr) (A : Cell) (U : State) : Prop := Arr .char a A U ∧ Typed .char A
theorem Ch.mv {a : Addr} {A : Cell} {U U' : State} (h : Ch a A U) (hal : U.vm.Alike U'.vm) (hh : U'.heap = U.heap) : Ch a A U' := ⟨h.1.mv hal hh, h.2⟩
theorem Ch.keep {a : Addr} {A : Cell} {U U' : State} (h : Ch a A U) (hal : U.vm.Alike U'.vm) (hk : U'.heap[a]? = some A) : Ch a A U' := ⟨h.1.keep hal hk, h.2⟩
/-- what place i of a char[]'s cell holds -/
def cv (A : Cell) (i : Nat) : Int32 := match A.slots[i]? with | some (.int x) => x | _ => 0
theorem Ch.get {a : Addr} {A : Cell} {U : State} (h : Ch a A U) {i : Nat} (hi : i < A.slots.size) : A.slots[i]? = some (.int (cv A i)) := by
  have e := Array.getElem?_eq_getElem hi
  have f := h.2 i _ e
  unfold cv; rw [e]
  generalize A.slots[i] = v at f
  cases v <;> simp [fits] at f ⊢
/-- the byte that i2b leaves of a char -/
def lo8 (x : Int32) : Int32 := x.toInt8.toInt32
theorem fits_lo8 (y : Int32) : fits .byte (.int (lo8 y)) = true := by
  have h1 := y.toInt8.le_toInt
  have h2 := y.toInt8.toInt_lt
  simp only [lo8, fits, Bool.and_eq_true, decide_eq_true_eq, Int32.le_iff_toInt_le, Int8.toInt_toInt32, show (-128 : Int32).toInt = -128 from by decide, show (127 : Int32).toInt = 127 from by decide]
  omega
/-- A' is A but that each place j of lo .. hi - 1 holds f j -/
def Laid (A A' : Cell) (lo hi : Nat) (f : Nat → Value) : Prop := A'.cls = A.cls ∧ A'.vm = A.vm ∧ A'.slots.size = A.slots.size ∧ ∀ i, A'.slots[i]? = if lo ≤ i ∧ i < hi then some (f i) else A.slots[i]?
theorem Laid.zero (A : Cell) (lo : Nat) (f : Nat → Value) : Laid A A lo (lo + 0) f := ⟨rfl, rfl, rfl, fun i => by rw [if_neg (by omega)]⟩
theorem Laid.step {A Ak : Cell} {lo k : Nat} {f : Nat → Value} {v : Value} (h : Laid A Ak lo k f) (hlo : lo ≤ k) (hk : k < Ak.slots.size) (hv : v = f k) : Laid A (Ak.setSlot k v) lo (k + 1) f := by
  refine ⟨h.1, h.2.1, by simpa [Cell.setSlot] using h.2.2.1, fun i => ?_⟩
  by_cases e : k = i
  · subst e; rw [Cell.slots_setSlot_self v hk, if_pos (by omega), hv]
  · rw [Cell.slots_setSlot_ne v e, h.2.2.2 i]
    by_cases q : lo ≤ i ∧ i < k
    · rw [if_pos q, if_pos (by omega)]
    · rw [if_neg q, if_neg (by omega)]
def U16 : String := "java/lang/StringUTF16"
namespace Cmp5
def yN : MethodName := ⟨"java/lang/StringUTF16", "compress", "([CI[BII)I"⟩
abbrev yB : ByteArray := jdk_52_method_21_code
theorem d0 : decode yB 0 = .ok (.iconst 0, 1) := by decide +kernel
theorem d1 : decode yB 1 = .ok (.istore 5, 2) := by decide +kernel
theorem d3 : decode yB 3 = .ok (.iload 5, 2) := by decide +kernel
theorem d5 : decode yB 5 = .ok (.iload 4, 2) := by decide +kernel
theorem d7 : decode yB 7 = .ok (.if_icmp (.ge) 37, 3) := by decide +kernel
theorem d10 : decode yB 10 = .ok (.aload_n 0, 1) := by decide +kernel
theorem d11 : decode yB 11 = .ok (.iload_n 1, 1) := by decide +kernel
theorem d12 : decode yB 12 = .ok (.caload, 1) := by decide +kernel
theorem d13 : decode yB 13 = .ok (.istore 6, 2) := by decide +kernel
theorem d15 : decode yB 15 = .ok (.iload 6, 2) := by decide +kernel
theorem d17 : decode yB 17 = .ok (.sipush 255, 3) := by decide +kernel
theorem d20 : decode yB 20 = .ok (.if_icmp (.le) 6, 3) := by decide +kernel
theorem d26 : decode yB 26 = .ok (.aload_n 2, 1) := by decide +kernel
theorem d27 : decode yB 27 = .ok (.iload_n 3, 1) := by decide +kernel
theorem d28 : decode yB 28 = .ok (.iload 6, 2) := by decide +kernel
theorem d30 : decode yB 30 = .ok (.i2b, 1) := by decide +kernel
theorem d31 : decode yB 31 = .ok (.bastore, 1) := by decide +kernel
theorem d32 : decode yB 32 = .ok (.iinc 1 1, 3) := by decide +kernel
theorem d35 : decode yB 35 = .ok (.iinc 3 1, 3) := by decide +kernel
theorem d38 : decode yB 38 = .ok (.iinc 5 1, 3) := by decide +kernel
theorem d41 : decode yB 41 = .ok (.goto (-38), 3) := by decide +kernel
theorem d44 : decode yB 44 = .ok (.iload 4, 2) := by decide +kernel
theorem d46 : decode yB 46 = .ok (.ireturn, 1) := by decide +kernel
def site : List Cond := []
def tab : Cond := tabOf yN yB 7 (some .int) site
def P (b : Addr) (A : Cell) (d : Addr) (B : Cell) (o q len : Nat) (args : Array Value) (s : State) : Prop := args = #[.ref b, .int (Int32.ofNat o), .ref d, .int (Int32.ofNat q), .int (Int32.ofNat len)] ∧ Ch b A s ∧ Arr .byte d B s ∧ b ≠ d ∧ o + len ≤ A.slots.size ∧ q + len ≤ B.slots.size ∧ ∀ i, i < len → ¬ 255 < cv A (o + i)
def E (b : Addr) (A : Cell) (d : Addr) (B : Cell) (o q len : Nat) (r : Option Value) (s u : State) : Prop := r = some (.int (Int32.ofNat len)) ∧ ∃ B', Put d B' s u ∧ Laid B B' q (q + len) (fun j => Value.int (lo8 (cv A (o + (j - q)))))
/-- no char of the range above 255: len; the places written hold each char's low byte -/
theorem law (l : Launch) (b : Addr) (A : Cell) (d : Addr) (B : Cell) (o q len : Nat) : Law l yN 5 5 0 0 yB 7 (some .int) site (P b A d B o q len) (E b A d B o q len) (copyLocs d q len) 0 0 := by
  refine Law.of_walk (plainFor_of_name (by decide +kernel)) (by decide +kernel) (by decide +kernel) (by decide) (fun _ _ h => by rw [h.1]; rfl) (fun _ U U' hal hh h => ⟨h.1, h.2.1.mv hal hh, h.2.2.1.mv hal hh, h.2.2.2⟩) (fun r U U' V V' h1 hal h2 h => ⟨h.1, h.2.elim fun B' q => ⟨B', q.1.mv h1 h2, q.2⟩⟩) ?_
  intro p e s m args below meth c s₁ X0 hexec hbytes hml hret hlk hnm hown hh0 W hP
  obtain ⟨rfl, hA, hB, hne, l1, l2, hp⟩ := hP
  have c1 : Steps p.tables e below (s₁.setTop (entryFrame m #[.ref b, .int (Int32.ofNat o), .ref d, .int (Int32.ofNat q), .int (Int32.ofNat len)] 7)) (s₁.setTop (mkF m 0 #[.val (.ref b), .val (.int (Int32.ofNat o)), .val (.ref d), .val (.int (Int32.ofNat q)), .val (.int (Int32.ofNat len)), .unset, .unset] [])) := entry rfl
  have hA0 := hA.1.mv X0.warmed.alike hh0
  have hB0 := hB.mv X0.warmed.alike hh0
  have a31 := hA.1.2.2.2
  have c2 : Steps p.tables e below (s₁.setTop (entryFrame m #[.ref b, .int (Int32.ofNat o), .ref d, .int (Int32.ofNat q), .int (Int32.ofNat len)] 7)) (s₁.setTop (mkF m 3 #[.val (.ref b), .val (.int (Int32.ofNat o)), .val (.ref d), .val (.int (Int32.ofNat q)), .val (.int (Int32.ofNat len)), .val (.int 0), .unset] [])) := c1.trans (by
    refine iconstV X0.here hexec rfl 0 (hb hbytes d0) (by decide) ?_
    refine XS.istore X0.here hexec rfl (hb hbytes d1) rfl rfl ?_
    exact Steps.refl _)
  have loop : ∀ (r i : Nat), i + r = len → ∀ (z : Slot), (z = .unset ∨ ∃ w, z = .val w ∧ w.category = 1) → ∀ (Tl : State) (Bk : Cell), Stand p l e { frames := 0, locals := 0, cells := 0, slots := 0 } s m #[.ref b, .int (Int32.ofNat o), .ref d, .int (Int32.ofNat q), .int (Int32.ofNat len)] below meth c Tl ([] ++ copyLocs d q i) 0 0 → Put d Bk s₁ Tl → Laid B Bk q (q + i) (fun j => Value.int (lo8 (cv A (o + (j - q))))) →
      Steps p.tables e below (s₁.setTop (entryFrame m #[.ref b, .int (Int32.ofNat o), .ref d, .int (Int32.ofNat q), .int (Int32.ofNat len)] 7)) (Tl.setTop (mkF m 3 #[.val (.ref b), .val (.int (Int32.ofNat (o + i))), .val (.ref d), .val (.int (Int32.ofNat (q + i))), .val (.int (Int32.ofNat len)), .val (.int (Int32.ofNat i)), z] [])) → ∃ (T' : State) (B' : Cell) (z' : Slot), Stand p l e { frames := 0, locals := 0, cells := 0, slots := 0 } s m #[.ref b, .int (Int32.ofNat o), .ref d, .int (Int32.ofNat q), .int (Int32.ofNat len)] below meth c T' ([] ++ copyLocs d q len) 0 0 ∧ Put d B' s₁ T' ∧ Laid B B' q (q + len) (fun j => Value.int (lo8 (cv A (o + (j - q))))) ∧
      Steps p.tables e below (s₁.setTop (entryFrame m #[.ref b, .int (Int32.ofNat o), .ref d, .int (Int32.ofNat q), .int (Int32.ofNat len)] 7)) (T'.setTop (mkF m 3 #[.val (.ref b), .val (.int (Int32.ofNat (o + len))), .val (.ref d), .val (.int (Int32.ofNat (q + len))), .val (.int (Int32.ofNat len)), .val (.int (Int32.ofNat len)), z'] [])) := by
    intro r
    induction r with
    | zero =>
      intro i hi z hz Tl Bk Xl pl fl cl
      have hil : i = len := by omega
      rw [hil] at Xl fl cl
      exact ⟨Tl, Bk, z, Xl, pl, fl, cl⟩
    | succ r ih =>
      intro i hi z hz Tl Bk Xl pl fl cl
      have all := X0.warmed.alike.symm.trans Xl.warmed.alike
      have hAl := hA0.keep all (pl.other hne hA0.1)
      have hBk := hB0.like all pl.1 fl.1 fl.2.1 fl.2.2.1
      have hlt : q + i < Bk.slots.size := by rw [fl.2.2.1]; omega
      have c3 : Steps p.tables e below (s₁.setTop (entryFrame m #[.ref b, .int (Int32.ofNat o), .ref d, .int (Int32.ofNat q), .int (Int32.ofNat len)] 7)) (Tl.setTop (mkF m 12 #[.val (.ref b), .val (.int (Int32.ofNat (o + i))), .val (.ref d), .val (.int (Int32.ofNat (q + i))), .val (.int (Int32.ofNat len)), .val (.int (Int32.ofNat i)), z] [.int (Int32.ofNat (o + i)), .ref b])) := cl.trans (by
        refine XS.iload Xl.here hexec rfl (hb hbytes d3) rfl ?_
        refine XS.iload Xl.here hexec rfl (hb hbytes d5) rfl ?_
        refine XS.icmpNo Xl.here hexec rfl (hb hbytes d7) rfl (ii_ge_f (lt32 (by omega) (by omega))) ?_
        refine XS.aloadN Xl.here hexec rfl (hb hbytes d10) rfl rfl ?_
        refine XS.iloadN Xl.here hexec rfl (hb hbytes d11) rfl ?_
        exact Steps.refl _)
      have c4 : Steps p.tables e below (s₁.setTop (entryFrame m #[.ref b, .int (Int32.ofNat o), .ref d, .int (Int32.ofNat q), .int (Int32.ofNat len)] 7)) (Tl.setTop (mkF m 13 #[.val (.ref b), .val (.int (Int32.ofNat (o + i))), .val (.ref d), .val (.int (Int32.ofNat (q + i))), .val (.int (Int32.ofNat len)), .val (.int (Int32.ofNat i)), z] [.int (cv A (o + i))])) := c3.trans (by
        refine Xl.aget hexec hAl rfl (hA.get (i := o + i) (by omega)) rfl rfl (hb hbytes d12) ?_
        exact Steps.refl _)
      have c5 : Steps p.tables e below (s₁.setTop (entryFrame m #[.ref b, .int (Int32.ofNat o), .ref d, .int (Int32.ofNat q), .int (Int32.ofNat len)] 7)) (Tl.setTop (mkF m 15 #[.val (.ref b), .val (.int (Int32.ofNat (o + i))), .val (.ref d), .val (.int (Int32.ofNat (q + i))), .val (.int (Int32.ofNat len)), .val (.int (Int32.ofNat i)), .val (.int (cv A (o + i)))] [])) := c4.trans (by
        refine XS.istoreS Xl.here hexec rfl (hb hbytes d13) rfl rfl hz ?_
        exact Steps.refl _)
      have c6 : Steps p.tables e below (s₁.setTop (entryFrame m #[.ref b, .int (Int32.ofNat o), .ref d, .int (Int32.ofNat q), .int (Int32.ofNat len)] 7)) (Tl.setTop (mkF m 31 #[.val (.ref b), .val (.int (Int32.ofNat (o + i))), .val (.ref d), .val (.int (Int32.ofNat (q + i))), .val (.int (Int32.ofNat len)), .val (.int (Int32.ofNat i)), .val (.int (cv A (o + i)))] [.int (lo8 (cv A (o + i))), .int (Int32.ofNat (q + i)), .ref d])) := c5.trans (by
        refine XS.iload Xl.here hexec rfl (hb hbytes d15) rfl ?_
        refine sipushV Xl.here hexec rfl 255 (hb hbytes d17) (by decide) ?_
        refine XS.icmpYes Xl.here hexec rfl (pc0 := 20) rfl (hb hbytes d20) rfl (ii_le_t (hp i (by omega))) (by decide) rfl ?_
        refine XS.aloadN Xl.here hexec rfl (hb hbytes d26) rfl rfl ?_
        refine XS.iloadN Xl.here hexec rfl (hb hbytes d27) rfl ?_
        refine XS.iload Xl.here hexec rfl (hb hbytes d28) rfl ?_
        refine i2b Xl.here hexec rfl (hb hbytes d30) rfl ?_
        exact Steps.refl _)
      obtain ⟨T7, X7, p7, st7⟩ := Xl.aput hexec hBk rfl hlt rfl (fits_lo8 (cv A (o + i))) (g := (mkF m 31 #[.val (.ref b), .val (.int (Int32.ofNat (o + i))), .val (.ref d), .val (.int (Int32.ofNat (q + i))), .val (.int (Int32.ofNat len)), .val (.int (Int32.ofNat i)), .val (.int (cv A (o + i)))] [.int (lo8 (cv A (o + i))), .int (Int32.ofNat (q + i)), .ref d])) rfl (rest := []) rfl (hb hbytes d31)
      have c8 : Steps p.tables e below (s₁.setTop (entryFrame m #[.ref b, .int (Int32.ofNat o), .ref d, .int (Int32.ofNat q), .int (Int32.ofNat len)] 7)) (T7.setTop (mkF m 32 #[.val (.ref b), .val (.int (Int32.ofNat (o + i))), .val (.ref d), .val (.int (Int32.ofNat (q + i))), .val (.int (Int32.ofNat len)), .val (.int (Int32.ofNat i)), .val (.int (cv A (o + i)))] [])) := c6.trans (st7 _ (Steps.refl _))
      have c9 : Steps p.tables e below (s₁.setTop (entryFrame m #[.ref b, .int (Int32.ofNat o), .ref d, .int (Int32.ofNat q), .int (Int32.ofNat len)] 7)) (T7.setTop (mkF m 3 #[.val (.ref b), .val (.int (Int32.ofNat (o + i) + 1)), .val (.ref d), .val (.int (Int32.ofNat (q + i) + 1)), .val (.int (Int32.ofNat len)), .val (.int (Int32.ofNat i + 1)), .val (.int (cv A (o + i)))] [])) := c8.trans (by
        refine iincV X7.here hexec rfl 1 (hb hbytes d32) (by decide) rfl rfl ?_
        refine iincV X7.here hexec rfl 1 (hb hbytes d35) (by decide) rfl rfl ?_
        refine iincV X7.here hexec rfl 1 (hb hbytes d38) (by decide) rfl rfl ?_
        refine XS.goto X7.here hexec rfl (pc0 := 41) rfl (hb hbytes d41) (by decide) rfl ?_
        exact Steps.refl _)
      have c10 : Steps p.tables e below (s₁.setTop (entryFrame m #[.ref b, .int (Int32.ofNat o), .ref d, .int (Int32.ofNat q), .int (Int32.ofNat len)] 7)) (T7.setTop (mkF m 3 #[.val (.ref b), .val (.int (Int32.ofNat (o + (i + 1)))), .val (.ref d), .val (.int (Int32.ofNat (q + (i + 1)))), .val (.int (Int32.ofNat len)), .val (.int (Int32.ofNat (i + 1))), .val (.int (cv A (o + i)))] [])) := by
        have := c9
        rw [succ32, succ32, succ32] at this
        exact this
      exact ih (i + 1) (by omega) _ (Or.inr ⟨_, rfl, rfl⟩) T7 _ (by rw [copyLocs_step, ← List.append_assoc]; exact X7) (pl.trans p7) (fl.step (by omega) hlt (by simp)) c10
  obtain ⟨T9, B9, z9, X9, p9, f9, g9⟩ := loop len 0 (by omega) .unset (Or.inl rfl) s₁ B (by simpa [copyLocs] using X0) ⟨hB0.1, fun _ _ => rfl, rfl⟩ (Laid.zero _ _ _) c2
  have c11 : Steps p.tables e below (s₁.setTop (entryFrame m #[.ref b, .int (Int32.ofNat o), .ref d, .int (Int32.ofNat q), .int (Int32.ofNat len)] 7)) (T9.setTop (mkF m 46 #[.val (.ref b), .val (.int (Int32.ofNat (o + len))), .val (.ref d), .val (.int (Int32.ofNat (q + len))), .val (.int (Int32.ofNat len)), .val (.int (Int32.ofNat len)), z9] [.int (Int32.ofNat len)])) := g9.trans (by
    refine XS.iload X9.here hexec rfl (hb hbytes d3) rfl ?_
    refine XS.iload X9.here hexec rfl (hb hbytes d5) rfl ?_
    refine XS.icmpYes X9.here hexec rfl (pc0 := 7) rfl (hb hbytes d7) rfl (ii_ge_t (nlt32 (by omega) (Nat.le_refl _))) (by decide) rfl ?_
    refine XS.iload X9.here hexec rfl (hb hbytes d44) rfl ?_
    exact Steps.refl _)
  exact ⟨T9, some (.int (Int32.ofNat len)), _, _, _, X9, by simp, rfl, rfl, (fun h => by cases h), ⟨rfl, B9, p9.from hh0, f9⟩, fun fs hl => c11.trans (X9.ireturnOut hexec hret rfl (Or.inl rfl) (hb hbytes d46) hl)⟩
end Cmp5
namespace Cmp3
def yN : MethodName := ⟨"java/lang/StringUTF16", "compress", "([CII)[B"⟩
abbrev yB : ByteArray := jdk_52_method_16_code
theorem d0 : decode yB 0 = .ok (.iload_n 2, 1) := by decide +kernel
theorem d1 : decode yB 1 = .ok (.newarray .byte, 2) := by decide +kernel
theorem d3 : decode yB 3 = .ok (.astore_n 3, 1) := by decide +kernel
theorem d4 : decode yB 4 = .ok (.aload_n 0, 1) := by decide +kernel
theorem d5 : decode yB 5 = .ok (.iload_n 1, 1) := by decide +kernel
theorem d6 : decode yB 6 = .ok (.aload_n 3, 1) := by decide +kernel
theorem d7 : decode yB 7 = .ok (.iconst 0, 1) := by decide +kernel
theorem d8 : decode yB 8 = .ok (.iload_n 2, 1) := by decide +kernel
theorem d9 : decode yB 9 = .ok (.invokestatic 115, 3) := by decide +kernel
theorem d12 : decode yB 12 = .ok (.istore 4, 2) := by decide +kernel
theorem d14 : decode yB 14 = .ok (.iload 4, 2) := by decide +kernel
theorem d16 : decode yB 16 = .ok (.iload_n 2, 1) := by decide +kernel
theorem d17 : decode yB 17 = .ok (.if_icmp (.eq) 40, 3) := by decide +kernel
theorem d57 : decode yB 57 = .ok (.aload_n 3, 1) := by decide +kernel
theorem d58 : decode yB 58 = .ok (.areturn, 1) := by decide +kernel
def site : List Cond := [.arrayClass .byte, Cmp5.tab] ++ staticW U16 115 Cmp5.yN
def tab : Cond := tabOf yN yB 6 (some (.array .byte)) site
def P (b : Addr) (A : Cell) (o len : Nat) (args : Array Value) (s : State) : Prop := args = #[.ref b, .int (Int32.ofNat o), .int (Int32.ofNat len)] ∧ Ch b A s ∧ o + len ≤ A.slots.size ∧ len ≤ 536870912 ∧ ∀ i, i < len → ¬ 255 < cv A (o + i)
def E (b : Addr) (A : Cell) (o len : Nat) (r : Option Value) (s u : State) : Prop := NewArr .byte "[B" len (fun j => .int (lo8 (cv A (o + j)))) r s u ∧ u.heap.size = s.heap.size + 1
/-- no char of the range above 255: a new byte[] of their low bytes -/
theorem law (l : Launch) (b : Addr) (A : Cell) (o len : Nat) : Law l yN 3 3 1 18 yB 6 (some (.array .byte)) site (P b A o len) (E b A o len) [] 1 len := by
  refine Law.of_walk (plainFor_of_name (by decide +kernel)) (by decide +kernel) (by decide +kernel) (by decide) (fun _ _ h => by rw [h.1]; rfl) (fun _ U U' hal hh h => ⟨h.1, h.2.1.mv hal hh, h.2.2⟩) (fun r U U' V V' h1 hal h2 h => ⟨NewArr.mv r U U' V V' h1 hal h2 h.1, by rw [h1, h2]; exact h.2⟩) ?_
  intro p e s m args below meth c s₁ X0 hexec hbytes hml hret hlk hnm hown hh0 W hP
  obtain ⟨rfl, hA, l1, l2, hp⟩ := hP
  have a31 := hA.1.2.2.2
  have c1 : Steps p.tables e below (s₁.setTop (entryFrame m #[.ref b, .int (Int32.ofNat o), .int (Int32.ofNat len)] 6)) (s₁.setTop (mkF m 0 #[.val (.ref b), .val (.int (Int32.ofNat o)), .val (.int (Int32.ofNat len)), .unset, .unset, .unset] [])) := entry rfl
  have c2 : Steps p.tables e below (s₁.setTop (entryFrame m #[.ref b, .int (Int32.ofNat o), .int (Int32.ofNat len)] 6)) (s₁.setTop (mkF m 1 #[.val (.ref b), .val (.int (Int32.ofNat o)), .val (.int (Int32.ofNat len)), .unset, .unset, .unset] [.int (Int32.ofNat len)])) := c1.trans (by
    refine XS.iloadN X0.here hexec rfl (hb hbytes d0) rfl ?_
    exact Steps.refl _)
  obtain ⟨T3, B3, X3, ba3, bs3, bv3, bh3, bf3, st3⟩ := X0.anew hexec (atype := .byte) (wk W (.arrayClass .byte)) rfl (by show len * 1 ≤ _; omega) (by omega) (g := (mkF m 1 #[.val (.ref b), .val (.int (Int32.ofNat o)), .val (.int (Int32.ofNat len)), .unset, .unset, .unset] [.int (Int32.ofNat len)])) rfl (hb hbytes d1) (rest := []) rfl (Nat.le_refl _) (by show 0 + len ≤ len; omega)
  rw [hh0] at ba3 st3
  have kp3 : XT.Kept s T3 := (XT.Kept.of_eq hh0).push bh3
  have hA3 := hA.keep X3.warmed.alike (kp3 _ _ hA.1.1)
  have hne : b ≠ s.heap.size := hA.1.ne
  have c4 : Steps p.tables e below (s₁.setTop (entryFrame m #[.ref b, .int (Int32.ofNat o), .int (Int32.ofNat len)] 6)) (T3.setTop (mkF m 3 #[.val (.ref b), .val (.int (Int32.ofNat o)), .val (.int (Int32.ofNat len)), .unset, .unset, .unset] [.ref s.heap.size])) := c2.trans (st3 _ (Steps.refl _))
  have c5 : Steps p.tables e below (s₁.setTop (entryFrame m #[.ref b, .int (Int32.ofNat o), .int (Int32.ofNat len)] 6)) (T3.setTop (mkF m 9 #[.val (.ref b), .val (.int (Int32.ofNat o)), .val (.int (Int32.ofNat len)), .val (.ref s.heap.size), .unset, .unset] [.int (Int32.ofNat len), .int 0, .ref s.heap.size, .int (Int32.ofNat o), .ref b])) := c4.trans (by
    refine XS.astoreN X3.here hexec rfl (hb hbytes d3) rfl rfl rfl ?_
    refine XS.aloadN X3.here hexec rfl (hb hbytes d4) rfl rfl ?_
    refine XS.iloadN X3.here hexec rfl (hb hbytes d5) rfl ?_
    refine XS.aloadN X3.here hexec rfl (hb hbytes d6) rfl rfl ?_
    refine iconstV X3.here hexec rfl 0 (hb hbytes d7) (by decide) ?_
    refine XS.iloadN X3.here hexec rfl (hb hbytes d8) rfl ?_
    exact Steps.refl _)
  obtain ⟨v6, T6, X6, E6, g6⟩ := X3.callS hexec (Cmp5.law l b A s.heap.size B3 o 0 len) hown (wks W (staticW U16 115 Cmp5.yN)) (wk W Cmp5.tab) (W := 0) (Nat.le_of_ble_eq_true rfl) (Nat.le_of_ble_eq_true rfl) (Nat.le_refl _) (by show 0 + len + 0 ≤ len; omega) (g := (mkF m 9 #[.val (.ref b), .val (.int (Int32.ofNat o)), .val (.int (Int32.ofNat len)), .val (.ref s.heap.size), .unset, .unset] [.int (Int32.ofNat len), .int (Int32.ofNat 0), .ref s.heap.size, .int (Int32.ofNat o), .ref b])) rfl (by rw [hml]; rfl) c5 (argsL := [.ref b, .int (Int32.ofNat o), .ref s.heap.size, .int (Int32.ofNat 0), .int (Int32.ofNat len)]) (rest := []) rfl rfl (by show 2 * 0 + 0 ≤ _; decide) (hb hbytes d9) (⟨rfl, hA3, ba3, hne, l1, by rw [bs3]; simp, hp⟩)
  obtain ⟨rfl, B6, p6, f6⟩ := E6
  have c7 : Steps p.tables e below (s₁.setTop (entryFrame m #[.ref b, .int (Int32.ofNat o), .int (Int32.ofNat len)] 6)) (T6.setTop (mkF m 12 #[.val (.ref b), .val (.int (Int32.ofNat o)), .val (.int (Int32.ofNat len)), .val (.ref s.heap.size), .unset, .unset] [.int (Int32.ofNat len)])) := g6
  have c8 : Steps p.tables e below (s₁.setTop (entryFrame m #[.ref b, .int (Int32.ofNat o), .int (Int32.ofNat len)] 6)) (T6.setTop (mkF m 58 #[.val (.ref b), .val (.int (Int32.ofNat o)), .val (.int (Int32.ofNat len)), .val (.ref s.heap.size), .val (.int (Int32.ofNat len)), .unset] [.ref s.heap.size])) := c7.trans (by
    refine XS.istore X6.here hexec rfl (hb hbytes d12) rfl rfl ?_
    refine XS.iload X6.here hexec rfl (hb hbytes d14) rfl ?_
    refine XS.iloadN X6.here hexec rfl (hb hbytes d16) rfl ?_
    refine XS.icmpYes X6.here hexec rfl (pc0 := 17) rfl (hb hbytes d17) rfl (ii_eq_t rfl) (by decide) rfl ?_
    refine XS.aloadN X6.here hexec rfl (hb hbytes d57) rfl rfl ?_
    exact Steps.refl _)
  have X8 := X6.wide (L' := []) (cells' := 1) (slots' := len) (fun x hx hlt => by
    simp only [List.nil_append, copyLocs, List.mem_map, List.mem_range] at hx
    obtain ⟨i, -, rfl⟩ := hx
    exact absurd hlt (Nat.lt_irrefl _)) (Nat.le_refl _) (by omega)
  exact ⟨T6, some (.ref s.heap.size), _, _, _, X8, rfl, rfl, rfl, (fun h => by cases h), ⟨⟨rfl, B6, ba3.like (X3.warmed.alike.symm.trans X6.warmed.alike) p6.1 f6.1 f6.2.1 f6.2.2.1, f6.2.1.trans bv3, by rw [X6.warmed.alike.findClass, f6.1]; exact bf3, by rw [f6.2.2.1, bs3]; simp, fun j hj => by rw [f6.2.2.2 j, if_pos (by omega)]; rfl, kp3.put p6 (Nat.le_refl _)⟩, by rw [p6.2.2, bh3, hh0]; simp⟩, fun fs hl => c8.trans (X8.areturnOut hexec rfl hret rfl (hb hbytes d58) hl)⟩
end Cmp3
namespace CodL
def yN : MethodName := ⟨"java/lang/StringUTF16", "coderFromArrayLen", "([BI)B"⟩
abbrev yB : ByteArray := jdk_52_method_15_code
theorem d0 : decode yB 0 = .ok (.iload_n 1, 1) := by decide +kernel
theorem d1 : decode yB 1 = .ok (.aload_n 0, 1) := by decide +kernel
theorem d2 : decode yB 2 = .ok (.arraylength, 1) := by decide +kernel
theorem d3 : decode yB 3 = .ok (.isub, 1) := by decide +kernel
theorem d4 : decode yB 4 = .ok (.bipush 31, 2) := by decide +kernel
theorem d6 : decode yB 6 = .ok (.iushr, 1) := by decide +kernel
theorem d7 : decode yB 7 = .ok (.i2b, 1) := by decide +kernel
theorem d8 : decode yB 8 = .ok (.ireturn, 1) := by decide +kernel
def site : List Cond := []
def tab : Cond := tabOf yN yB 2 (some .byte) site
def P (d : Addr) (B : Cell) (args : Array Value) (s : State) : Prop := args = #[.ref d, .int (Int32.ofNat B.slots.size)] ∧ Arr .byte d B s
def E (r : Option Value) (s u : State) : Prop := XT.PureE (some (.int 0)) r s u
/-- an array as long as the number of chars: LATIN1 -/
theorem law (l : Launch) (d : Addr) (B : Cell) : Law l yN 2 2 0 0 yB 2 (some .byte) site (P d B) E [] 0 0 := by
  refine Law.of_walk (plainFor_of_name (by decide +kernel)) (by decide +kernel) (by decide +kernel) (by decide) (fun _ _ h => by rw [h.1]; rfl) (fun _ U U' hal hh h => ⟨h.1, h.2.mv hal hh⟩) (fun r U U' V V' h1 hal h2 h => XT.PureE.mv r U U' V V' h1 hal h2 h) ?_
  intro p e s m args below meth c s₁ X0 hexec hbytes hml hret hlk hnm hown hh0 W hP
  obtain ⟨rfl, hB⟩ := hP
  have hB0 := hB.mv X0.warmed.alike hh0
  have c1 : Steps p.tables e below (s₁.setTop (entryFrame m #[.ref d, .int (Int32.ofNat B.slots.size)] 2)) (s₁.setTop (mkF m 0 #[.val (.ref d), .val (.int (Int32.ofNat B.slots.size))] [])) := entry rfl
  have c2 : Steps p.tables e below (s₁.setTop (entryFrame m #[.ref d, .int (Int32.ofNat B.slots.size)] 2)) (s₁.setTop (mkF m 2 #[.val (.ref d), .val (.int (Int32.ofNat B.slots.size))] [.ref d, .int (Int32.ofNat B.slots.size)])) := c1.trans (by
    refine XS.iloadN X0.here hexec rfl (hb hbytes d0) rfl ?_
    refine XS.aloadN X0.here hexec rfl (hb hbytes d1) rfl rfl ?_
    exact Steps.refl _)
  have c3 : Steps p.tables e below (s₁.setTop (entryFrame m #[.ref d, .int (Int32.ofNat B.slots.size)] 2)) (s₁.setTop (mkF m 8 #[.val (.ref d), .val (.int (Int32.ofNat B.slots.size))] [.int (lo8 (ushr (Int32.ofNat B.slots.size - Int32.ofNat B.slots.size) 31))])) := c2.trans (by
    refine X0.alen hexec hB0 rfl rfl (hb hbytes d2) ?_
    refine XS.isub X0.here hexec rfl (hb hbytes d3) rfl ?_
    refine bipushV X0.here hexec rfl 31 (hb hbytes d4) (by decide) ?_
    refine iushr X0.here hexec rfl (hb hbytes d6) rfl ?_
    refine i2b X0.here hexec rfl (hb hbytes d7) rfl ?_
    exact Steps.refl _)
  have e0 : lo8 (ushr (Int32.ofNat B.slots.size - Int32.ofNat B.slots.size) 31) = 0 := by rw [Int32.sub_self]; decide
  rw [e0] at c3
  exact ⟨s₁, some (.int 0), _, _, _, X0, rfl, rfl, rfl, (fun h => by cases h), ⟨rfl, hh0⟩, fun fs hl => c3.trans (X0.ireturnOut hexec hret rfl (Or.inr (Or.inr (Or.inl rfl))) (hb hbytes d8) hl)⟩
end CodL
/-- the String at a is Latin-1 over a new byte[] (the heap's one new cell): the low bytes of the len chars of A from o on; every cell but a is kept -/
def Got (a : Addr) (D : Cell) (fV fC : Field) (A : Cell) (o len : Nat) (r : Option Value) (s u : State) : Prop := r = none ∧ ∃ D' V : Cell, Blank "java/lang/String" a D' u ∧ Same D D' [fV.slot, fC.slot] ∧ D'.slots[fV.slot]? = some (.ref s.heap.size) ∧ D'.slots[fC.slot]? = some (.int 0) ∧ Arr .byte s.heap.size V u ∧ V.vm = .none ∧ u.vm.findClass "[B" = some V.cls ∧ V.slots.size = len ∧ (∀ j, j < len → V.slots[j]? = some (.int (lo8 (cv A (o + j))))) ∧ (∀ (y : Addr) (c : Cell), y ≠ a → s.heap[y]? = some c → u.heap[y]? = some c) ∧ u.heap.size = s.heap.size + 1
theorem Got.mv {a : Addr} {D A : Cell} {fV fC : Field} {o len : Nat} : ∀ r (U U' V V' : State), U'.heap = U.heap → V.vm.Alike V'.vm → V'.heap = V.heap → Got a D fV fC A o len r U V → Got a D fV fC A o len r U' V' :=
  fun r U U' V V' h1 hal h2 ⟨e0, D', X, a1, a2, a3, a4, a5, a6, a7, a8, a9, a10, a11⟩ => ⟨e0, D', X, a1.mv hal h2, a2, by rw [h1]; exact a3, a4, by rw [h1]; exact a5.mv hal h2, a6, by rw [hal.findClass]; exact a7, a8, a9, by rw [h1, h2]; exact a10, by rw [h1, h2]; exact a11⟩
namespace New4
def yN : MethodName := ⟨"java/lang/String", "<init>", "([CIILjava/lang/Void;)V"⟩
abbrev yB : ByteArray := jdk_42_method_149_code
theorem d0 : decode yB 0 = .ok (.aload_n 0, 1) := by decide +kernel
theorem d1 : decode yB 1 = .ok (.invokespecial 1, 3) := by decide +kernel
theorem d4 : decode yB 4 = .ok (.iload_n 3, 1) := by decide +kernel
theorem d5 : decode yB 5 = .ok (.ifCond (.ne) 22, 3) := by decide +kernel
theorem d27 : decode yB 27 = .ok (.getstatic 38, 3) := by decide +kernel
theorem d30 : decode yB 30 = .ok (.ifCond (.eq) 28, 3) := by decide +kernel
theorem d33 : decode yB 33 = .ok (.aload_n 1, 1) := by decide +kernel
theorem d34 : decode yB 34 = .ok (.iload_n 2, 1) := by decide +kernel
theorem d35 : decode yB 35 = .ok (.iload_n 3, 1) := by decide +kernel
theorem d36 : decode yB 36 = .ok (.invokestatic 177, 3) := by decide +kernel
theorem d39 : decode yB 39 = .ok (.astore 5, 2) := by decide +kernel
theorem d41 : decode yB 41 = .ok (.aload_n 0, 1) := by decide +kernel
theorem d42 : decode yB 42 = .ok (.aload 5, 2) := by decide +kernel
theorem d44 : decode yB 44 = .ok (.iload_n 3, 1) := by decide +kernel
theorem d45 : decode yB 45 = .ok (.invokestatic 47, 3) := by decide +kernel
theorem d48 : decode yB 48 = .ok (.putfield 15, 3) := by decide +kernel
theorem d51 : decode yB 51 = .ok (.aload_n 0, 1) := by decide +kernel
theorem d52 : decode yB 52 = .ok (.aload 5, 2) := by decide +kernel
theorem d54 : decode yB 54 = .ok (.putfield 9, 3) := by decide +kernel
theorem d57 : decode yB 57 = .ok (.return_, 1) := by decide +kernel
def site : List Cond := [.fieldLink "java/lang/String" 38 "java/lang/String" "COMPACT_STRINGS" "Z", Cmp3.tab, CodL.tab, .laysFinal "java/lang/String" "java/lang/String" "value" "[B", .fieldLink "java/lang/String" 9 "java/lang/String" "value" "[B", .laysFinal "java/lang/String" "java/lang/String" "coder" "B", .fieldLink "java/lang/String" 15 "java/lang/String" "coder" "B"] ++ objW "java/lang/String" 1 ++ staticW "java/lang/String" 177 Cmp3.yN ++ staticW "java/lang/String" 47 CodL.yN
def tab : Cond := tabOf yN yB 6 none site
def P (a : Addr) (D : Cell) (fV fC : Field) (b : Addr) (A : Cell) (z : Int32) (o len : Nat) (args : Array Value) (s : State) : Prop := args = #[.ref a, .ref b, .int (Int32.ofNat o), .int (Int32.ofNat len), .null] ∧ Blank "java/lang/String" a D s ∧ Found "java/lang/String" "value" "[B" fV s ∧ Found "java/lang/String" "coder" "B" fC s ∧ Ch b A s ∧ StaticIs s "java/lang/String" "COMPACT_STRINGS" "Z" (.int z) ∧ ¬ z = 0 ∧ 0 < len ∧ o + len ≤ A.slots.size ∧ len ≤ 536870912 ∧ ∀ i, i < len → ¬ 255 < cv A (o + i)
def E (a : Addr) (D : Cell) (fV fC : Field) (A : Cell) (o len : Nat) (r : Option Value) (s u : State) : Prop := Got a D fV fC A o len r s u
/-- len > 0, no char of the range above 255: a Latin-1 String of their low bytes -/
theorem law (l : Launch) (a : Addr) (D : Cell) (fV fC : Field) (b : Addr) (A : Cell) (z : Int32) (o len : Nat) : Law l yN 5 4 2 35 yB 6 none site (P a D fV fC b A z o len) (E a D fV fC A o len) [⟨a, fC.slot⟩, ⟨a, fV.slot⟩] 1 len := by
  refine Law.of_walk (plainFor_of_name (by decide +kernel)) (by decide +kernel) (by decide +kernel) (by decide) (fun _ _ h => by rw [h.1]; rfl) (fun _ U U' hal hh h => ⟨h.1, h.2.1.mv hal hh, h.2.2.1.al hal, h.2.2.2.1.al hal, h.2.2.2.2.1.mv hal hh, h.2.2.2.2.2.1.there hal hh, h.2.2.2.2.2.2⟩) (fun r U U' V V' h1 hal h2 h => Got.mv r U U' V V' h1 hal h2 h) ?_
  intro p e s m args below meth c s₁ X0 hexec hbytes hml hret hlk hnm hown hh0 W hP
  obtain ⟨rfl, hB, f1, f2, hA, s1, hz, l0, l1, l2, hp⟩ := hP
  have a31 := hA.1.2.2.2
  have c1 : Steps p.tables e below (s₁.setTop (entryFrame m #[.ref a, .ref b, .int (Int32.ofNat o), .int (Int32.ofNat len), .null] 6)) (s₁.setTop (mkF m 0 #[.val (.ref a), .val (.ref b), .val (.int (Int32.ofNat o)), .val (.int (Int32.ofNat len)), .val .null, .unset] [])) := entry rfl
  have c2 : Steps p.tables e below (s₁.setTop (entryFrame m #[.ref a, .ref b, .int (Int32.ofNat o), .int (Int32.ofNat len), .null] 6)) (s₁.setTop (mkF m 1 #[.val (.ref a), .val (.ref b), .val (.int (Int32.ofNat o)), .val (.int (Int32.ofNat len)), .val .null, .unset] [.ref a])) := c1.trans (by
    refine XS.aloadN X0.here hexec rfl (hb hbytes d0) rfl rfl ?_
    exact Steps.refl _)
  obtain ⟨T3, X3, q3, st3⟩ := X0.oinit hexec hown (wks W (objW "java/lang/String" 1)) (g := (mkF m 1 #[.val (.ref a), .val (.ref b), .val (.int (Int32.ofNat o)), .val (.int (Int32.ofNat len)), .val .null, .unset] [.ref a])) rfl (by rw [hml]; rfl) (rest := []) rfl (hb hbytes d1) (W := 0) (by show 2 * 0 + 0 ≤ _; decide) (Nat.le_of_ble_eq_true rfl) (Nat.le_of_ble_eq_true rfl)
  have hh3 := q3.trans hh0
  have c4 : Steps p.tables e below (s₁.setTop (entryFrame m #[.ref a, .ref b, .int (Int32.ofNat o), .int (Int32.ofNat len), .null] 6)) (T3.setTop (mkF m 27 #[.val (.ref a), .val (.ref b), .val (.int (Int32.ofNat o)), .val (.int (Int32.ofNat len)), .val .null, .unset] [])) := (c2.trans (st3 _ (Steps.refl _))).trans (by
    refine XS.iloadN X3.here hexec rfl (hb hbytes d4) rfl ?_
    refine XS.ifYes X3.here hexec rfl (pc0 := 5) rfl (hb hbytes d5) rfl (i0_ne_t (nz32 (by omega) l0)) (by decide) rfl ?_
    exact Steps.refl _)
  obtain ⟨T5, X5, q5, st5⟩ := X3.sget hexec hown (wk W (.fieldLink "java/lang/String" 38 "java/lang/String" "COMPACT_STRINGS" "Z")) s1 (fun _ _ h => by rw [hh3]; exact h) (g := (mkF m 27 #[.val (.ref a), .val (.ref b), .val (.int (Int32.ofNat o)), .val (.int (Int32.ofNat len)), .val .null, .unset] [])) rfl (hb hbytes d27)
  have hh5 := q5.trans hh3
  have c6 : Steps p.tables e below (s₁.setTop (entryFrame m #[.ref a, .ref b, .int (Int32.ofNat o), .int (Int32.ofNat len), .null] 6)) (T5.setTop (mkF m 30 #[.val (.ref a), .val (.ref b), .val (.int (Int32.ofNat o)), .val (.int (Int32.ofNat len)), .val .null, .unset] [.int z])) := c4.trans (st5 _ (Steps.refl _))
  have c7 : Steps p.tables e below (s₁.setTop (entryFrame m #[.ref a, .ref b, .int (Int32.ofNat o), .int (Int32.ofNat len), .null] 6)) (T5.setTop (mkF m 36 #[.val (.ref a), .val (.ref b), .val (.int (Int32.ofNat o)), .val (.int (Int32.ofNat len)), .val .null, .unset] [.int (Int32.ofNat len), .int (Int32.ofNat o), .ref b])) := c6.trans (by
    refine XS.ifNo X5.here hexec rfl (hb hbytes d30) rfl (i0_eq_f hz) ?_
    refine XS.aloadN X5.here hexec rfl (hb hbytes d33) rfl rfl ?_
    refine XS.iloadN X5.here hexec rfl (hb hbytes d34) rfl ?_
    refine XS.iloadN X5.here hexec rfl (hb hbytes d35) rfl ?_
    exact Steps.refl _)
  obtain ⟨v8, T8, X8, E8, g8⟩ := X5.callS hexec (Cmp3.law l b A o len) hown (wks W (staticW "java/lang/String" 177 Cmp3.yN)) (wk W Cmp3.tab) (W := 0) (Nat.le_of_ble_eq_true rfl) (Nat.le_of_ble_eq_true rfl) (Nat.le_refl _) (by show 0 + len ≤ len; omega) (g := (mkF m 36 #[.val (.ref a), .val (.ref b), .val (.int (Int32.ofNat o)), .val (.int (Int32.ofNat len)), .val .null, .unset] [.int (Int32.ofNat len), .int (Int32.ofNat o), .ref b])) rfl (by rw [hml]; rfl) c7 (argsL := [.ref b, .int (Int32.ofNat o), .int (Int32.ofNat len)]) (rest := []) rfl rfl (by show 2 * 0 + 0 ≤ _; decide) (hb hbytes d36) (⟨rfl, hA.mv X5.warmed.alike hh5, l1, l2, hp⟩)
  obtain ⟨e8, z8⟩ := E8
  obtain ⟨rfl, N, n1, n2, n3, n4, n5, n6⟩ := NewArr.mv _ T5 s _ _ hh5.symm (Vm.Alike.refl _) rfl e8
  rw [hh5] at z8
  have hB1 := hB.keep X8.warmed.alike (n6 _ _ hB.1)
  have hne : s.heap.size ≠ a := (Nat.ne_of_lt (Array.getElem?_eq_some_iff.mp hB.1).1).symm
  have c9 : Steps p.tables e below (s₁.setTop (entryFrame m #[.ref a, .ref b, .int (Int32.ofNat o), .int (Int32.ofNat len), .null] 6)) (T8.setTop (mkF m 39 #[.val (.ref a), .val (.ref b), .val (.int (Int32.ofNat o)), .val (.int (Int32.ofNat len)), .val .null, .unset] [.ref s.heap.size])) := g8
  have c10 : Steps p.tables e below (s₁.setTop (entryFrame m #[.ref a, .ref b, .int (Int32.ofNat o), .int (Int32.ofNat len), .null] 6)) (T8.setTop (mkF m 45 #[.val (.ref a), .val (.ref b), .val (.int (Int32.ofNat o)), .val (.int (Int32.ofNat len)), .val .null, .val (.ref s.heap.size)] [.int (Int32.ofNat N.slots.size), .ref s.heap.size, .ref a])) := by
    have hc : Steps p.tables e below (s₁.setTop (entryFrame m #[.ref a, .ref b, .int (Int32.ofNat o), .int (Int32.ofNat len), .null] 6)) (T8.setTop (mkF m 45 #[.val (.ref a), .val (.ref b), .val (.int (Int32.ofNat o)), .val (.int (Int32.ofNat len)), .val .null, .val (.ref s.heap.size)] [.int (Int32.ofNat len), .ref s.heap.size, .ref a])) := c9.trans (by
      refine XS.astore X8.here hexec rfl (hb hbytes d39) rfl rfl rfl ?_
      refine XS.aloadN X8.here hexec rfl (hb hbytes d41) rfl rfl ?_
      refine XS.aload X8.here hexec rfl (hb hbytes d42) rfl rfl ?_
      refine XS.iloadN X8.here hexec rfl (hb hbytes d44) rfl ?_
      exact Steps.refl _)
    rw [n4]; exact hc
  obtain ⟨v11, T11, X11, E11, g11⟩ := X8.callS hexec (CodL.law l s.heap.size N) hown (wks W (staticW "java/lang/String" 47 CodL.yN)) (wk W CodL.tab) (W := 1) (Nat.le_of_ble_eq_true rfl) (Nat.le_of_ble_eq_true rfl) (Nat.le_refl _) (by show 0 + len + 0 ≤ len; omega) (g := (mkF m 45 #[.val (.ref a), .val (.ref b), .val (.int (Int32.ofNat o)), .val (.int (Int32.ofNat len)), .val .null, .val (.ref s.heap.size)] [.int (Int32.ofNat N.slots.size), .ref s.heap.size, .ref a])) rfl (by rw [hml]; rfl) c10 (argsL := [.ref s.heap.size, .int (Int32.ofNat N.slots.size)]) (rest := [.ref a]) rfl rfl (by show 2 * 0 + (1 + 0) ≤ _; decide) (hb hbytes d45) (⟨rfl, n1⟩)
  obtain ⟨rfl, q11⟩ := E11
  have hB11 := hB1.mv (X8.warmed.alike.symm.trans X11.warmed.alike) q11
  have c12 : Steps p.tables e below (s₁.setTop (entryFrame m #[.ref a, .ref b, .int (Int32.ofNat o), .int (Int32.ofNat len), .null] 6)) (T11.setTop (mkF m 48 #[.val (.ref a), .val (.ref b), .val (.int (Int32.ofNat o)), .val (.int (Int32.ofNat len)), .val .null, .val (.ref s.heap.size)] [.int 0, .ref a])) := g11
  obtain ⟨T13, X13, p13, bl13, sl13, st13⟩ := X11.finit hexec hown (wk W (.fieldLink "java/lang/String" 15 "java/lang/String" "coder" "B")) (Or.inr ⟨_, (wk W (.laysFinal "java/lang/String" "java/lang/String" "coder" "B"))⟩) (Or.inl ⟨rfl, hnm⟩) f2 (Or.inl rfl) hB11 (t := .byte) (by decide +kernel) rfl (g := (mkF m 48 #[.val (.ref a), .val (.ref b), .val (.int (Int32.ofNat o)), .val (.int (Int32.ofNat len)), .val .null, .val (.ref s.heap.size)] [.int 0, .ref a])) rfl (rest := []) rfl (hb hbytes d48)
  have c14 : Steps p.tables e below (s₁.setTop (entryFrame m #[.ref a, .ref b, .int (Int32.ofNat o), .int (Int32.ofNat len), .null] 6)) (T13.setTop (mkF m 54 #[.val (.ref a), .val (.ref b), .val (.int (Int32.ofNat o)), .val (.int (Int32.ofNat len)), .val .null, .val (.ref s.heap.size)] [.ref s.heap.size, .ref a])) := (c12.trans (st13 _ (Steps.refl _))).trans (by
    refine XS.aloadN X13.here hexec rfl (hb hbytes d51) rfl rfl ?_
    refine XS.aload X13.here hexec rfl (hb hbytes d52) rfl rfl ?_
    exact Steps.refl _)
  obtain ⟨T15, X15, p15, bl15, sl15, st15⟩ := X13.finit hexec hown (wk W (.fieldLink "java/lang/String" 9 "java/lang/String" "value" "[B")) (Or.inr ⟨_, (wk W (.laysFinal "java/lang/String" "java/lang/String" "value" "[B"))⟩) (Or.inl ⟨rfl, hnm⟩) f1 (Or.inl rfl) bl13 (t := (.array .byte)) (by decide +kernel) rfl (g := (mkF m 54 #[.val (.ref a), .val (.ref b), .val (.int (Int32.ofNat o)), .val (.int (Int32.ofNat len)), .val .null, .val (.ref s.heap.size)] [.ref s.heap.size, .ref a])) rfl (rest := []) rfl (hb hbytes d54)
  have c16 : Steps p.tables e below (s₁.setTop (entryFrame m #[.ref a, .ref b, .int (Int32.ofNat o), .int (Int32.ofNat len), .null] 6)) (T15.setTop (mkF m 57 #[.val (.ref a), .val (.ref b), .val (.int (Int32.ofNat o)), .val (.int (Int32.ofNat len)), .val .null, .val (.ref s.heap.size)] [])) := c14.trans (st15 _ (Steps.refl _))
  have ap := apart (Or.inr ⟨_, (wk W (.laysFinal "java/lang/String" "java/lang/String" "value" "[B"))⟩) (Or.inr ⟨_, (wk W (.laysFinal "java/lang/String" "java/lang/String" "coder" "B"))⟩) f1 f2 (t₁ := .array .byte) (t₂ := .byte) (by decide +kernel) (by decide +kernel) (by decide)
  have al := X8.warmed.alike.symm.trans X15.warmed.alike
  have n7 : T11.heap[s.heap.size]? = some N := by rw [q11]; exact n1.1
  exact ⟨T15, none, _, _, _, X15, by simp, rfl, by omega, (fun _ => rfl), ⟨rfl, _, N, bl15, ((Same.refl D _).set _ (by simp)).set _ (by simp), sl15, (Cell.slots_setSlot_ne _ ap).trans sl13, n1.keep al (p15.other hne (p13.other hne n7)), n2, by rw [al.findClass]; exact n3, n4, n5, fun y c h1 h2 => p15.other h1 (p13.other h1 (by rw [q11]; exact n6 y c h2)), by rw [p15.2.2, p13.2.2, q11]; exact z8⟩, fun fs hl => c16.trans (X15.returnOut hexec hret (hb hbytes d57) hl)⟩
end New4
namespace New1
def yN : MethodName := ⟨"java/lang/String", "<init>", "([C)V"⟩
abbrev yB : ByteArray := jdk_42_method_3_code
theorem d0 : decode yB 0 = .ok (.aload_n 0, 1) := by decide +kernel
theorem d1 : decode yB 1 = .ok (.aload_n 1, 1) := by decide +kernel
theorem d2 : decode yB 2 = .ok (.iconst 0, 1) := by decide +kernel
theorem d3 : decode yB 3 = .ok (.aload_n 1, 1) := by decide +kernel
theorem d4 : decode yB 4 = .ok (.arraylength, 1) := by decide +kernel
theorem d5 : decode yB 5 = .ok (.aconst_null, 1) := by decide +kernel
theorem d6 : decode yB 6 = .ok (.invokespecial 27, 3) := by decide +kernel
theorem d9 : decode yB 9 = .ok (.return_, 1) := by decide +kernel
def site : List Cond := [New4.tab] ++ initW "java/lang/String" 27 New4.yN
def tab : Cond := tabOf yN yB 2 none site
def P (a : Addr) (D : Cell) (fV fC : Field) (b : Addr) (A : Cell) (z : Int32) (args : Array Value) (s : State) : Prop := args = #[.ref a, .ref b] ∧ Blank "java/lang/String" a D s ∧ Found "java/lang/String" "value" "[B" fV s ∧ Found "java/lang/String" "coder" "B" fC s ∧ Ch b A s ∧ StaticIs s "java/lang/String" "COMPACT_STRINGS" "Z" (.int z) ∧ ¬ z = 0 ∧ 0 < A.slots.size ∧ A.slots.size ≤ 536870912 ∧ ∀ i, i < A.slots.size → ¬ 255 < cv A i
def E (a : Addr) (D : Cell) (fV fC : Field) (A : Cell) (r : Option Value) (s u : State) : Prop := Got a D fV fC A 0 A.slots.size r s u
/-- new String(chars), not empty, no char above 255: a Latin-1 String of their low bytes -/
theorem law (l : Launch) (a : Addr) (D : Cell) (fV fC : Field) (b : Addr) (A : Cell) (z : Int32) : Law l yN 2 1 3 52 yB 2 none site (P a D fV fC b A z) (E a D fV fC A) [⟨a, fC.slot⟩, ⟨a, fV.slot⟩] 1 A.slots.size := by
  refine Law.of_walk (plainFor_of_name (by decide +kernel)) (by decide +kernel) (by decide +kernel) (by decide) (fun _ _ h => by rw [h.1]; rfl) (fun _ U U' hal hh h => ⟨h.1, h.2.1.mv hal hh, h.2.2.1.al hal, h.2.2.2.1.al hal, h.2.2.2.2.1.mv hal hh, h.2.2.2.2.2.1.there hal hh, h.2.2.2.2.2.2⟩) (fun r U U' V V' h1 hal h2 h => Got.mv r U U' V V' h1 hal h2 h) ?_
  intro p e s m args below meth c s₁ X0 hexec hbytes hml hret hlk hnm hown hh0 W hP
  obtain ⟨rfl, hB, f1, f2, hA, s1, hz, l0, l2, hp⟩ := hP
  have c1 : Steps p.tables e below (s₁.setTop (entryFrame m #[.ref a, .ref b] 2)) (s₁.setTop (mkF m 0 #[.val (.ref a), .val (.ref b)] [])) := entry rfl
  have c2 : Steps p.tables e below (s₁.setTop (entryFrame m #[.ref a, .ref b] 2)) (s₁.setTop (mkF m 6 #[.val (.ref a), .val (.ref b)] [.null, .int (Int32.ofNat A.slots.size), .int 0, .ref b, .ref a])) := c1.trans (by
    refine XS.aloadN X0.here hexec rfl (hb hbytes d0) rfl rfl ?_
    refine XS.aloadN X0.here hexec rfl (hb hbytes d1) rfl rfl ?_
    refine iconstV X0.here hexec rfl 0 (hb hbytes d2) (by decide) ?_
    refine XS.aloadN X0.here hexec rfl (hb hbytes d3) rfl rfl ?_
    refine X0.alen hexec (hA.1.mv X0.warmed.alike hh0) rfl rfl (hb hbytes d4) ?_
    refine XS.aconstNull X0.here hexec rfl (hb hbytes d5) ?_
    exact Steps.refl _)
  obtain ⟨v3, T3, X3, E3, g3⟩ := X0.callN hexec (New4.law l a D fV fC b A z 0 A.slots.size) rfl hown (wks W (initW "java/lang/String" 27 New4.yN)) (W New4.tab (by simp only [site, List.mem_cons, List.mem_append, true_or, or_true])) (W := 0) (Nat.le_of_ble_eq_true rfl) (Nat.le_of_ble_eq_true rfl) (Nat.le_refl _) (by show 0 + A.slots.size ≤ A.slots.size; omega) (g := (mkF m 6 #[.val (.ref a), .val (.ref b)] [.null, .int (Int32.ofNat A.slots.size), .int (Int32.ofNat 0), .ref b, .ref a])) rfl (by rw [hml]; rfl) c2 (argsL := [.ref b, .int (Int32.ofNat 0), .int (Int32.ofNat A.slots.size), .null]) (rest := []) rfl rfl (by show 2 * 0 + 0 ≤ _; decide) (hb hbytes d6) (⟨rfl, hB.mv X0.warmed.alike hh0, f1.al X0.warmed.alike, f2.al X0.warmed.alike, hA.mv X0.warmed.alike hh0, s1.there X0.warmed.alike hh0, hz, l0, by omega, l2, fun i hi => by rw [Nat.zero_add]; exact hp i hi⟩)
  have e0 := Got.mv _ s₁ s _ _ hh0.symm (Vm.Alike.refl _) rfl E3
  obtain rfl := e0.1
  have c4 : Steps p.tables e below (s₁.setTop (entryFrame m #[.ref a, .ref b] 2)) (T3.setTop (mkF m 9 #[.val (.ref a), .val (.ref b)] [])) := g3
  exact ⟨T3, none, _, _, _, X3, by simp, rfl, by omega, (fun _ => rfl), e0, fun fs hl => c4.trans (X3.returnOut hexec hret (hb hbytes d9) hl)⟩
theorem pays {l : Launch} {R : Room} {p : Program} {e : Env} {below : List Frame} {s : State} {sargs : Array Value} {len W : Nat} (a : Addr) (D : Cell) (fV fC : Field) (b : Addr) (A : Cell) (z : Int32) (htab : tab.before sargs s = true) (hfr : 4 ≤ R.frames) (hlo : W + 65 ≤ R.locals) :
    Back l R p e below s sargs yN len W (fun A₁ a₁ => A₁.cells + 1 ≤ R.cells ∧ A₁.slots + A.slots.size ≤ R.slots ∧ P a D fV fC b A z a₁ A₁.U) (fun A₁ _ v₁ B₁ => E a D fV fC A v₁ A₁.U B₁.U ∧ B₁.locs = A₁.locs ++ [⟨a, fC.slot⟩, ⟨a, fV.slot⟩] ∧ B₁.cells = A₁.cells + 1 ∧ B₁.slots = A₁.slots + A.slots.size) :=
  (law l a D fV fC b A z).pays htab hfr (by omega)
end New1
end StrChars
namespace StrChars.Road
open Jvm Sem ClassFile Op Lib Jvm.Stand Jvm.Free Jvm.Free.XT
open Jvm.Lib.Cold (StaticIs)
abbrev ST : String := "java/lang/String"
/-- every table word that New1's law asks, flat -/
abbrev words : List Jvm.Cond := [.code New1.yN New1.yB 2 none, .initialized ST, .methodLink ST 27 New4.yN, .instanceMethod New4.yN,
  .code New4.yN New4.yB 6 none, .fieldLink ST 38 ST "COMPACT_STRINGS" "Z", .laysFinal ST ST "value" "[B", .fieldLink ST 9 ST "value" "[B", .laysFinal ST ST "coder" "B", .fieldLink ST 15 ST "coder" "B",
  .methodLink ST 1 Lib.objectInit, .instanceMethod Lib.objectInit, .code Lib.objectInit ⟨#[0xb1]⟩ 1 none, .methodLink ST 177 Cmp3.yN, .static Cmp3.yN, .methodLink ST 47 CodL.yN, .static CodL.yN,
  .code Cmp3.yN Cmp3.yB 6 (some (.array .byte)), .initialized U16, .arrayClass .byte, .methodLink U16 115 Cmp5.yN, .static Cmp5.yN, .code Cmp5.yN Cmp5.yB 7 (some .int), .code CodL.yN CodL.yB 2 (some .byte)]
theorem tab_of {a : Array Value} {s : State} (h : ∀ w ∈ words, w.before a s = true) : New1.tab.before a s = true := by
  have h5 : Cmp5.tab.before a s = true := unparts (wk h (.code Cmp5.yN Cmp5.yB 7 (some .int))) (wks h (.initialized Cmp5.yN.cls :: Cmp5.site))
  have hc : CodL.tab.before a s = true := unparts (wk h (.code CodL.yN CodL.yB 2 (some .byte))) (wks h (.initialized CodL.yN.cls :: CodL.site))
  have q5 : ∀ w ∈ Cmp5.tab :: words, w.before a s = true := fun w hw => (List.mem_cons.mp hw).elim (fun e => e ▸ h5) (h w)
  have h3 : Cmp3.tab.before a s = true := unparts (wk q5 (.code Cmp3.yN Cmp3.yB 6 (some (.array .byte)))) (wks q5 (.initialized Cmp3.yN.cls :: Cmp3.site))
  have q3 : ∀ w ∈ Cmp3.tab :: CodL.tab :: words, w.before a s = true := fun w hw => (List.mem_cons.mp hw).elim (fun e => e ▸ h3) fun hw => (List.mem_cons.mp hw).elim (fun e => e ▸ hc) (h w)
  have h4 : New4.tab.before a s = true := unparts (wk q3 (.code New4.yN New4.yB 6 none)) (wks q3 (.initialized New4.yN.cls :: New4.site))
  have q4 : ∀ w ∈ New4.tab :: words, w.before a s = true := fun w hw => (List.mem_cons.mp hw).elim (fun e => e ▸ h4) (h w)
  exact unparts (wk q4 (.code New1.yN New1.yB 2 none)) (wks q4 (.initialized New1.yN.cls :: New1.site))
/-- the words ride from the start Z to the walk's own state -/
theorem moved {Z s : State} {a0 args : Array Value} (hZ : Z.Warmed39 s.vm) (hw : ∀ d ∈ words, d.before a0 Z = true) : ∀ d ∈ words, d.before args s = true := fun d hd => by
  have q := hw d hd
  have t : ∀ d ∈ words, d = .arrayClass .byte ∨ (d.onTables && d.keepsFace) = true := by decide +kernel
  rcases t d hd with rfl | t
  · exact RoadKit.mvA hZ q
  · exact RoadKit.mv hZ q t
/-- WHAT COMES BACK, over the tables of the start Z: h the heap at the call, h' behind it -/
def Q (Z : State) (x : Addr) (A : Cell) (h : Heap) (v : Option Value) (h' : Heap) (L : List Loc) : Prop := v = none ∧ (∀ y ∈ L, y.base = x) ∧ RoadKit.Keep h h' [x] ∧ h'.size = h.size + 1 ∧ RoadKit.Exa Z h' x ST ∧ RoadKit.Fld Z h' x ST "value" "[B" (.ref h.size) ∧ RoadKit.Fld Z h' x ST "coder" "B" (.int 0) ∧
  (∃ V : Cell, RoadKit.Arr Z h' h.size V .byte ∧ V.vm = .none ∧ Z.vm.findClass "[B" = some V.cls ∧ V.slots.size = A.slots.size ∧ ∀ j, j < A.slots.size → V.slots[j]? = some (.int (lo8 (cv A j)))) ∧
  ∀ (O n d : String) (w : Value), RoadKit.Fld Z h x O n d w → RoadKit.slotOf Z O n d ≠ RoadKit.slotOf Z ST "value" "[B" → RoadKit.slotOf Z O n d ≠ RoadKit.slotOf Z ST "coder" "B" → RoadKit.Fld Z h' x O n d w
/-- **new String(chars) AT A CALL, IN THE ROAD'S FORM**: for specialBack behind newO: x the fresh String, b the char[] with the cell A -/
theorem back {p : Program} {l : Launch} {e : Env} {R : Room} {s : State} {args : Array Value} {below : List Frame} {len W : Nat} {Z : State} {a0 : Array Value} {h : Heap} (hZ : Z.Warmed39 s.vm) (hw : ∀ d ∈ words, d.before a0 Z = true) {kI : Nat} (wi : (Jvm.Cond.instantiable ST kI).before a0 Z = true)
    {x b : Addr} {A : Cell} {z : Int32} {v0 c0 : Value} (E : RoadKit.Exa Z h x ST) (V : RoadKit.Fld Z h x ST "value" "[B" v0) (C : RoadKit.Fld Z h x ST "coder" "B" c0) (K : RoadKit.Arr Z h b A .char) (hty : Typed .char A) (S : RoadKit.Sta Z h ST "COMPACT_STRINGS" "Z" (.int z)) (hz : ¬ z = 0)
    (l0 : 0 < A.slots.size) (l2 : A.slots.size ≤ 536870912) (hp : ∀ i, i < A.slots.size → ¬ 255 < cv A i) (hfr : 4 ≤ R.frames) (hlo : W + 65 ≤ R.locals) :
    Back l R p e below s args New1.yN len W (fun P a => a = #[.ref x, .ref b] ∧ P.U.heap = h ∧ P.cells + 1 ≤ R.cells ∧ P.slots + A.slots.size ≤ R.slots)
      (fun P _ v B => ∃ L, Q Z x A h v B.U.heap L ∧ B.locs = P.locs ++ L ∧ B.cells = P.cells + 1 ∧ B.slots = P.slots + A.slots.size) := by
  intro m meth c P g ig mk a X hg hsize hdg hW hn hp'
  obtain ⟨rfl, rfl, r1, r2⟩ := hp'
  have al : Z.vm.Alike P.U.vm := hZ.alike.trans X.warmed.alike
  obtain ⟨D, cfV, kV, iV, fV, hD, gV, stV, knV, obV, asV, slV⟩ := id V
  obtain ⟨D', cfC, kC, iC, fC, hD', gC, stC, -, -, asC, slC⟩ := id C
  cases hD.symm.trans hD'
  obtain ⟨D2, kD, e1, e2, e3, e4, e5⟩ := id E
  cases hD.symm.trans e1
  obtain ⟨c2, k2, i1, i2, i3, -⟩ := Cond.instantiable_spec wi
  cases e2.symm.trans i1
  cases e3.symm.trans i2
  obtain ⟨kU, u1, u2⟩ := al.2.2 _ _ e3
  have hB : Blank ST x D P.U := ⟨hD, ⟨knV, fun q hq => by rw [hq] at obV; cases obV⟩, by rw [al.findClass]; exact e2, kU, u1, by rw [u2]; exact i3, by rw [u2]; exact e5 i3⟩
  have F1 : Found ST "value" "[B" fV P.U := ⟨SBG.found_only al ⟨cfV, kV, iV, gV⟩, stV⟩
  have F2 : Found ST "coder" "B" fC P.U := ⟨SBG.found_only al ⟨cfC, kC, iC, gC⟩, stC⟩
  have hA : Ch b A P.U := ⟨⟨K.1, State.isArrayOf_alike al K.2.1, K.2.2, by omega⟩, hty⟩
  have hS : StaticIs P.U ST "COMPACT_STRINGS" "Z" (.int z) := by
    obtain ⟨cfS, iS, kS, fS, st, cS, t1, t2, t3, t4, t5, t6, t7⟩ := S
    exact StaticIs.there (s := { Z with heap := P.U.heap }) ⟨cfS, iS, kS, fS, st, cS, t1, t2, t3, t4, t5, (fun q => by rw [q] at t6; cases t6), t7⟩ al rfl
  obtain ⟨v, B, X', ⟨⟨hv, E', V', q1, q2, q3, q4, q5, q6, q7, q8, q9, q10, q11⟩, hl, hc, hs⟩, st⟩ := New1.pays x D fV fC b A z (tab_of (moved hZ hw)) hfr hlo m meth c P g ig mk _ X hg hsize hdg hW hn ⟨r1, r2, rfl, hB, F1, F2, hA, hS, hz, l0, l2, hp⟩
  have al' : Z.vm.Alike B.U.vm := hZ.alike.trans X'.warmed.alike
  have hsz : E'.slots.size = D.slots.size := by
    obtain ⟨-, -, -, kB, w1, w2, w3⟩ := q1
    obtain ⟨kB', y1, y2⟩ := al'.2.2 _ _ e3
    rw [q2.2.1] at w1
    cases w1.symm.trans y1
    rw [w3, e5 i3, y2]
  refine ⟨v, B, X', ⟨_, ⟨hv, ?_, ⟨by omega, fun y cy hy hn' => q10 y cy (by simpa using hn') hy, fun y cy hy => ?_⟩, q11, ⟨E', _, q1.1, by rw [q2.2.1]; exact e2, by rw [q2.2.1]; exact e3, by rw [q2.1]; exact obV, fun _ => by rw [hsz]; exact e5 i3⟩,
    ⟨E', cfV, kV, iV, fV, q1.1, gV, stV, by rw [q2.1]; exact knV, by rw [q2.1]; exact obV, by rw [q2.2.1]; exact asV, q3⟩, ⟨E', cfC, kC, iC, fC, q1.1, gC, stC, by rw [q2.1]; exact knV, by rw [q2.1]; exact obV, by rw [q2.2.1]; exact asC, q4⟩,
    ⟨V', ⟨q5.1, State.isArrayOf_alike al'.symm q5.2.1, q5.2.2.1⟩, q6, by rw [← al'.findClass]; exact q7, q8, fun j hj => by have := q9 j hj; rwa [Nat.zero_add] at this⟩, fun O n d w F n1 n2 => ?_⟩, hl, hc, hs⟩, st⟩
  · intro y hy
    simp only [List.mem_cons, List.not_mem_nil, or_false] at hy
    rcases hy with rfl | rfl <;> rfl
  · by_cases q : y = x
    · subst q
      cases hD.symm.trans hy
      exact ⟨E', q1.1, q2.2.1, q2.1, hsz⟩
    · exact ⟨cy, q10 y cy q hy, rfl, rfl, rfl⟩
  · obtain ⟨D3, cf, k, i, f, g1, g2, g3, g4, g5, g6, g7⟩ := F
    cases hD.symm.trans g1
    simp only [RoadKit.slotOf, g2, gV, gC, Option.map_some, Option.getD_some] at n1 n2
    exact ⟨E', cf, k, i, f, q1.1, g2, g3, by rw [q2.1]; exact g4, by rw [q2.1]; exact g5, by rw [q2.2.1]; exact g6, by rw [q2.2.2 f.slot (by simp [n1, n2])]; exact g7⟩
end StrChars.Road
namespace StrChars.Road
open Jvm Sem ClassFile Op Lib Jvm.Stand Jvm.Free Jvm.Free.XT
/-- WHAT COMES BACK, the byte[] as a list of values -/
def QA (Z : State) (x : Addr) (zn : Int32) (cs : List Int32) (h : Heap) (v : Option Value) (h' : Heap) (L : List Loc) : Prop := v = none ∧ (∀ y ∈ L, y.base = x) ∧ RoadKit.Keep h h' [x] ∧ h'.size = h.size + 1 ∧ RoadKit.Exa Z h' x ST ∧ RoadKit.Fld Z h' x ST "value" "[B" (.ref h.size) ∧ RoadKit.Fld Z h' x ST "coder" "B" (.int 0) ∧
  (∃ kb, Z.vm.findClass "[B" = some kb ∧ RoadKit.Arv Z h' h.size kb .byte zn (cs.map fun c => .int (lo8 c)) (.int 0)) ∧
  ∀ (O n d : String) (w : Value), RoadKit.Fld Z h x O n d w → RoadKit.slotOf Z O n d ≠ RoadKit.slotOf Z ST "value" "[B" → RoadKit.slotOf Z O n d ≠ RoadKit.slotOf Z ST "coder" "B" → RoadKit.Fld Z h' x O n d w
/-- **new String(chars) AT A CALL, THE ARRAYS AS LISTS**: the char[] at b holds cs, not empty, no char above 255 -/
theorem backArv {p : Program} {l : Launch} {e : Env} {R : Room} {s : State} {args : Array Value} {below : List Frame} {len W : Nat} {Z : State} {a0 : Array Value} {h : Heap} (hZ : Z.Warmed39 s.vm) (hw : ∀ d ∈ words, d.before a0 Z = true) {kI : Nat} (wi : (Jvm.Cond.instantiable ST kI).before a0 Z = true)
    {x b : Addr} {k : ClassId} {zn z : Int32} {cs : List Int32} {dv v0 c0 : Value} (E : RoadKit.Exa Z h x ST) (V : RoadKit.Fld Z h x ST "value" "[B" v0) (C : RoadKit.Fld Z h x ST "coder" "B" c0) (K : RoadKit.Arv Z h b k .char zn (cs.map Value.int) dv) (S : RoadKit.Sta Z h ST "COMPACT_STRINGS" "Z" (.int z)) (hz : ¬ z = 0)
    (hlen : zn.toNatClampNeg = cs.length) (h0 : 0 < cs.length) (hbig : cs.length ≤ 536870912) (hall : ∀ c ∈ cs, ¬ 255 < c) (hfr : 4 ≤ R.frames) (hlo : W + 65 ≤ R.locals) :
    Back l R p e below s args New1.yN len W (fun P a => a = #[.ref x, .ref b] ∧ P.U.heap = h ∧ P.cells + 1 ≤ R.cells ∧ P.slots + cs.length ≤ R.slots)
      (fun P _ v B => ∃ L, QA Z x zn cs h v B.U.heap L ∧ B.locs = P.locs ++ L ∧ B.cells = P.cells + 1 ∧ B.slots = P.slots + cs.length) := by
  obtain ⟨A, K1, K2, K3, K4, K5, K6⟩ := K
  have e : A.slots.size = cs.length := K3.trans hlen
  have hat : ∀ (i : Nat) (hi : i < cs.length), A.slots[i]? = some (.int cs[i]) := fun i hi => by rw [K5 i (by omega)]; simp [List.getD_eq_getElem?_getD, hi]
  have hcv : ∀ (i : Nat) (hi : i < cs.length), cv A i = cs[i] := fun i hi => by unfold cv; rw [hat i hi]
  have hty : Typed .char A := fun i v hv => by
    have hi : i < A.slots.size := (Array.getElem?_eq_some_iff.mp hv).1
    have q := K5 i hi
    rw [hv] at q
    rw [Option.some.inj q]
    exact K6 i hi
  refine Back.mono (back hZ hw wi E V C K1 hty S hz (by omega) (by omega) (fun i hi => by rw [hcv i (by omega)]; exact hall _ (List.getElem_mem _)) hfr hlo) (fun P a hp => ⟨hp.1, hp.2.1, hp.2.2.1, by rw [e]; exact hp.2.2.2⟩) (fun P a v B hp hq => ?_)
  obtain ⟨L, ⟨q1, q2, q3, q4, q5, q6, q7, ⟨V', v1, v2, v3, v4, v5⟩, q9⟩, hl, hc, hs⟩ := hq
  refine ⟨L, ⟨q1, q2, q3, q4, q5, q6, q7, ⟨V'.cls, v3, V', v1, rfl, by rw [v4, e, hlen], K4, fun i hi => ?_, fun i hi => ?_⟩, q9⟩, hl, hc, by rw [hs, e]⟩
  · have hi' : i < cs.length := by omega
    rw [v5 i (by omega), hcv i hi']; simp [List.getD_eq_getElem?_getD, hi']
  · have hi' : i < cs.length := by omega
    simp only [List.getD_eq_getElem?_getD, List.getElem?_map, List.getElem?_eq_getElem hi', Option.map_some, Option.getD_some]
    exact fits_lo8 _
end StrChars.Road
namespace StrChars.Road
open Jvm Sem ClassFile Op Lib Jvm.Stand Jvm.Free Jvm.Free.XT
/-- WHAT COMES BACK, in the writer's own shape -/
def QV (Z : State) (x : Addr) (N : Int32) (bs : List Int32) (h : Heap) (n0 : Nat) (v : Option Value) (h' : Heap) (L : List Loc) : Prop := v = none ∧ RoadKit.Fr n0 L ∧ RoadKit.Keep h h' [x] ∧ RoadKit.Exa Z h' x ST ∧ RoadKit.Fld Z h' x ST "coder" "B" (.int 0) ∧
  ∃ (t : Addr) (kb : ClassId), n0 ≤ t ∧ h.size ≤ t ∧ ¬ t = x ∧ RoadKit.Fld Z h' x ST "value" "[B" (.ref t) ∧ RoadKit.Arv Z h' t kb .byte N (bs.map Value.int) (.int 0)
/-- **new String(chars) AT A CALL, FOR THE WRITER**: a char[] of n known ints, each 0 to 255 -/
theorem backV {p : Program} {l : Launch} {e : Env} {R : Room} {s : State} {args : Array Value} {below : List Frame} {len W : Nat} {Z : State} {a0 : Array Value} {h : Heap} (hZ : Z.Warmed39 s.vm) (hw : ∀ d ∈ words, d.before a0 Z = true) {kI : Nat} (wi : (Jvm.Cond.instantiable ST kI).before a0 Z = true)
    {x b : Addr} {kC : ClassId} {cs bs : List Int32} {d v0 c0 : Value} {z N : Int32} {n n0 : Nat} (hx0 : n0 ≤ x) (hh0 : n0 ≤ h.size) (E : RoadKit.Exa Z h x ST) (V : RoadKit.Fld Z h x ST "value" "[B" v0) (C : RoadKit.Fld Z h x ST "coder" "B" c0) (K : RoadKit.Arv Z h b kC .char N (cs.map Value.int) d) (S : RoadKit.Sta Z h ST "COMPACT_STRINGS" "Z" (.int z)) (hz : ¬ z = 0)
    (hn : cs.length = n) (hN : N = Int32.ofNat n) (l0 : 0 < n) (l2 : n ≤ 4000) (hp : ∀ c ∈ cs, ¬ c < 0 ∧ ¬ (255 : Int32) < c) (hb : bs = cs.map (fun c => c.toInt8.toInt32)) (hfr : 4 ≤ R.frames) (hlo : W + 65 ≤ R.locals) :
    Back l R p e below s args (⟨"java/lang/String", "<init>", "([C)V"⟩ : MethodName) len W (fun P a => a = #[.ref x, .ref b] ∧ P.U.heap = h ∧ P.cells + 1 ≤ R.cells ∧ P.slots + n ≤ R.slots)
      (fun P _ v B => ∃ L, QV Z x N bs h n0 v B.U.heap L ∧ B.locs = P.locs ++ L ∧ B.cells = P.cells + 1 ∧ B.slots = P.slots + n) := by
  subst hn hN hb
  refine Back.mono (backArv hZ hw wi E V C K S hz (n32 (by omega)) l0 (by omega) (fun c hc => (hp c hc).2) hfr hlo) (fun P a hp => hp) (fun P a v B hp hq => ?_)
  obtain ⟨L, ⟨q1, q2, q3, q4, q5, q6, q7, ⟨kb, v1, v2⟩, q9⟩, hl, hc, hs⟩ := hq
  exact ⟨L, ⟨q1, fun y hy => by rw [q2 y hy]; exact hx0, q3, q5, q7, h.size, kb, hh0, Nat.le_refl _, Nat.ne_of_gt E.lt, q6, by rw [List.map_map]; exact v2⟩, hl, hc, hs⟩
end StrChars.Road
end Jvm.Pilot.@@N@@

namespace Jvm.Pilot.@@N@@
open Jvm Jvm.ClassFile Sem Op Lib Jvm.Free Jvm.Stand Jvm.LawKit Jvm.RoadKit Bundle Jvm.Pilot.@@N@@.Jvm.D
/-- what is left of a walk: from the frame f of T the run comes to its end, where Qe holds -/
def own_Rest (p : Program) (e : Env) (below : List Frame) (Qe : Outcome → State → Prop) (T : State) (f : JFrame) : Prop :=
  ∃ s₂ o, Steps p.tables e below (T.setTop f) s₂ ∧ s₂.status = .running ∧ Ended s₂ below o ∧ Qe o s₂
abbrev own_S (p : Program) (e : Env) (below : List Frame) (T : State) (f : JFrame) (t : State) : Prop := Steps p.tables e below (T.setTop f) t
theorem own_by {p : Program} {e : Env} {below : List Frame} {Qe : Outcome → State → Prop} {T T' : State} {f f' : JFrame}
    (h : ∀ t, Steps p.tables e below (T'.setTop f') t → Steps p.tables e below (T.setTop f) t) (k : own_Rest p e below Qe T' f') : own_Rest p e below Qe T f := by
  obtain ⟨s₂, o, h1, h2⟩ := k
  exact ⟨s₂, o, h _ h1, h2⟩
theorem own_at {p : Program} {e : Env} {below : List Frame} {Qe : Outcome → State → Prop} {T : State} {f f' : JFrame}
    (h : ∀ {t}, Steps p.tables e below (T.setTop f') t → Steps p.tables e below (T.setTop f) t) (k : own_Rest p e below Qe T f') :
    ∃ s₂ o, Steps p.tables e below (T.setTop f) s₂ ∧ s₂.status = .running ∧ Ended s₂ below o ∧ Qe o s₂ := by
  obtain ⟨s₂, o, h1, h2⟩ := k
  exact ⟨s₂, o, h h1, h2⟩
theorem own_c255 (x : Int32) : ¬ (x &&& (255 : Int32)).toUInt32.toUInt16.toUInt32.toInt32 < 0 ∧ ¬ (255 : Int32) < (x &&& (255 : Int32)).toUInt32.toUInt16.toUInt32.toInt32 := by
  have h1 := c_mask x 255 8 (by decide) (by decide)
  have h2 := c_i2c (x &&& (255 : Int32))
  simp only [Int32.lt_iff_toInt_lt, Int32.reduceToInt]
  omega
theorem own_narc {z : Int32} (h : ¬ z < 0 ∧ ¬ (255 : Int32) < z) : nar .char z = z := by
  have h2 := c_i2c z
  obtain ⟨h3, h4⟩ := h
  simp only [Int32.lt_iff_toInt_lt, Int32.reduceToInt] at h3 h4
  have e : (nar .char z).toInt = z.toInt := by
    show z.toUInt32.toUInt16.toUInt32.toInt32.toInt = z.toInt
    omega
  exact Int32.toInt_inj.mp e
theorem own_nrb {z : Int32} (h : z = 0 ∨ z = 1) : narrow .boolean (.int z) = .int z := by rcases h with rfl | rfl <;> rfl
theorem own_ftb {z : Int32} (h : z = 0 ∨ z = 1) : fits .boolean (.int z) = true := by rcases h with rfl | rfl <;> rfl
theorem own_eqi {t : Term} {n : Int32} {args : Array Value} {Z : State} (h : (Jvm.Cond.eq t (.int n)).value args Z none Z [] = some true) : t.eval args Z none [] Z = some (.int n) := by
  obtain ⟨x, y, h1, h2, h3, -⟩ := cmp_v (Or.inl h)
  have e : y = .int n := (Option.some.inj h2).symm
  subst e
  cases x <;> simp [Kin, Value.isRef] at h3
  rename_i z
  have : z = n := by simpa [Cond.value, h1, Term.eval] using h
  rw [h1, this]
theorem own_fld {t : Term} {n : Int32} {args : Array Value} {Z : State} {a : Addr} {C f d : String} (ev : t.eval args Z none [] Z = some (.ref a)) (h : (Jvm.Cond.eq (.field t C f d) (.int n)).value args Z none Z [] = some true) : Fld Z Z.heap a C f d (.int n) :=
  Fld.start ((fld_at ev).symm.trans (own_eqi h))
theorem own_nb {z : Int32} (h : z = 0 ∨ z = 1) : nar .boolean z = z := by rcases h with rfl | rfl <;> rfl
abbrev own_ARRIIII (x0 : Addr) (x1 : Addr) (x2 : Int32) (x3 : Int32) (x4 : Int32) (x5 : Int32) : Array Slot := #[.val (.ref x0), .val (.ref x1), .val (.int x2), .val (.int x3), .val (.int x4), .val (.int x5)]
abbrev own_AIIIUUUUUUUUUUUUUUUUUUUUU (x0 : Int32) (x1 : Int32) (x2 : Int32) : Array Slot := #[.val (.int x0), .val (.int x1), .val (.int x2), .unset, .unset, .unset, .unset, .unset, .unset, .unset, .unset, .unset, .unset, .unset, .unset, .unset, .unset, .unset, .unset, .unset, .unset, .unset, .unset, .unset]
abbrev own_AIIIIUUUUUUUUUUUUUUUUUUUU (x0 : Int32) (x1 : Int32) (x2 : Int32) (x3 : Int32) : Array Slot := #[.val (.int x0), .val (.int x1), .val (.int x2), .val (.int x3), .unset, .unset, .unset, .unset, .unset, .unset, .unset, .unset, .unset, .unset, .unset, .unset, .unset, .unset, .unset, .unset, .unset, .unset, .unset, .unset]
abbrev own_AIIIIIUUUUUUUUUUUUUUUUUUU (x0 : Int32) (x1 : Int32) (x2 : Int32) (x3 : Int32) (x4 : Int32) : Array Slot := #[.val (.int x0), .val (.int x1), .val (.int x2), .val (.int x3), .val (.int x4), .unset, .unset, .unset, .unset, .unset, .unset, .unset, .unset, .unset, .unset, .unset, .unset, .unset, .unset, .unset, .unset, .unset, .unset, .unset]
abbrev own_AIIIIIIUUUUUUUUUUUUUUUUUU (x0 : Int32) (x1 : Int32) (x2 : Int32) (x3 : Int32) (x4 : Int32) (x5 : Int32) : Array Slot := #[.val (.int x0), .val (.int x1), .val (.int x2), .val (.int x3), .val (.int x4), .val (.int x5), .unset, .unset, .unset, .unset, .unset, .unset, .unset, .unset, .unset, .unset, .unset, .unset, .unset, .unset, .unset, .unset, .unset, .unset]
abbrev own_AIIIIIIIUUUUUUUUUUUUUUUUU (x0 : Int32) (x1 : Int32) (x2 : Int32) (x3 : Int32) (x4 : Int32) (x5 : Int32) (x6 : Int32) : Array Slot := #[.val (.int x0), .val (.int x1), .val (.int x2), .val (.int x3), .val (.int x4), .val (.int x5), .val (.int x6), .unset, .unset, .unset, .unset, .unset, .unset, .unset, .unset, .unset, .unset, .unset, .unset, .unset, .unset, .unset, .unset, .unset]
abbrev own_AIIIIIIIIUUUUUUUUUUUUUUUU (x0 : Int32) (x1 : Int32) (x2 : Int32) (x3 : Int32) (x4 : Int32) (x5 : Int32) (x6 : Int32) (x7 : Int32) : Array Slot := #[.val (.int x0), .val (.int x1), .val (.int x2), .val (.int x3), .val (.int x4), .val (.int x5), .val (.int x6), .val (.int x7), .unset, .unset, .unset, .unset, .unset, .unset, .unset, .unset, .unset, .unset, .unset, .unset, .unset, .unset, .unset, .unset]
abbrev own_AIIIIIIIIIUUUUUUUUUUUUUUU (x0 : Int32) (x1 : Int32) (x2 : Int32) (x3 : Int32) (x4 : Int32) (x5 : Int32) (x6 : Int32) (x7 : Int32) (x8 : Int32) : Array Slot := #[.val (.int x0), .val (.int x1), .val (.int x2), .val (.int x3), .val (.int x4), .val (.int x5), .val (.int x6), .val (.int x7), .val (.int x8), .unset, .unset, .unset, .unset, .unset, .unset, .unset, .unset, .unset, .unset, .unset, .unset, .unset, .unset, .unset]
abbrev own_AIIIIIIIIIIUUUUUUUUUUUUUU (x0 : Int32) (x1 : Int32) (x2 : Int32) (x3 : Int32) (x4 : Int32) (x5 : Int32) (x6 : Int32) (x7 : Int32) (x8 : Int32) (x9 : Int32) : Array Slot := #[.val (.int x0), .val (.int x1), .val (.int x2), .val (.int x3), .val (.int x4), .val (.int x5), .val (.int x6), .val (.int x7), .val (.int x8), .val (.int x9), .unset, .unset, .unset, .unset, .unset, .unset, .unset, .unset, .unset, .unset, .unset, .unset, .unset, .unset]
abbrev own_AIIIIIIIIIIIUUUUUUUUUUUUU (x0 : Int32) (x1 : Int32) (x2 : Int32) (x3 : Int32) (x4 : Int32) (x5 : Int32) (x6 : Int32) (x7 : Int32) (x8 : Int32) (x9 : Int32) (x10 : Int32) : Array Slot := #[.val (.int x0), .val (.int x1), .val (.int x2), .val (.int x3), .val (.int x4), .val (.int x5), .val (.int x6), .val (.int x7), .val (.int x8), .val (.int x9), .val (.int x10), .unset, .unset, .unset, .unset, .unset, .unset, .unset, .unset, .unset, .unset, .unset, .unset, .unset]
abbrev own_AIIIIIIIIIIIIUUUUUUUUUUUU (x0 : Int32) (x1 : Int32) (x2 : Int32) (x3 : Int32) (x4 : Int32) (x5 : Int32) (x6 : Int32) (x7 : Int32) (x8 : Int32) (x9 : Int32) (x10 : Int32) (x11 : Int32) : Array Slot := #[.val (.int x0), .val (.int x1), .val (.int x2), .val (.int x3), .val (.int x4), .val (.int x5), .val (.int x6), .val (.int x7), .val (.int x8), .val (.int x9), .val (.int x10), .val (.int x11), .unset, .unset, .unset, .unset, .unset, .unset, .unset, .unset, .unset, .unset, .unset, .unset]
abbrev own_AIIIIIIIIIIIIIUUUUUUUUUUU (x0 : Int32) (x1 : Int32) (x2 : Int32) (x3 : Int32) (x4 : Int32) (x5 : Int32) (x6 : Int32) (x7 : Int32) (x8 : Int32) (x9 : Int32) (x10 : Int32) (x11 : Int32) (x12 : Int32) : Array Slot := #[.val (.int x0), .val (.int x1), .val (.int x2), .val (.int x3), .val (.int x4), .val (.int x5), .val (.int x6), .val (.int x7), .val (.int x8), .val (.int x9), .val (.int x10), .val (.int x11), .val (.int x12), .unset, .unset, .unset, .unset, .unset, .unset, .unset, .unset, .unset, .unset, .unset]
abbrev own_AIIIIIIIIIIIIIRUUUUUUUUUU (x0 : Int32) (x1 : Int32) (x2 : Int32) (x3 : Int32) (x4 : Int32) (x5 : Int32) (x6 : Int32) (x7 : Int32) (x8 : Int32) (x9 : Int32) (x10 : Int32) (x11 : Int32) (x12 : Int32) (x13 : Addr) : Array Slot := #[.val (.int x0), .val (.int x1), .val (.int x2), .val (.int x3), .val (.int x4), .val (.int x5), .val (.int x6), .val (.int x7), .val (.int x8), .val (.int x9), .val (.int x10), .val (.int x11), .val (.int x12), .val (.ref x13), .unset, .unset, .unset, .unset, .unset, .unset, .unset, .unset, .unset, .unset]
abbrev own_AIIIIIIIIIIIIIRRUUUUUUUUU (x0 : Int32) (x1 : Int32) (x2 : Int32) (x3 : Int32) (x4 : Int32) (x5 : Int32) (x6 : Int32) (x7 : Int32) (x8 : Int32) (x9 : Int32) (x10 : Int32) (x11 : Int32) (x12 : Int32) (x13 : Addr) (x14 : Addr) : Array Slot := #[.val (.int x0), .val (.int x1), .val (.int x2), .val (.int x3), .val (.int x4), .val (.int x5), .val (.int x6), .val (.int x7), .val (.int x8), .val (.int x9), .val (.int x10), .val (.int x11), .val (.int x12), .val (.ref x13), .val (.ref x14), .unset, .unset, .unset, .unset, .unset, .unset, .unset, .unset, .unset]
abbrev own_AIIIIIIIIIIIIIRRRUUUUUUUU (x0 : Int32) (x1 : Int32) (x2 : Int32) (x3 : Int32) (x4 : Int32) (x5 : Int32) (x6 : Int32) (x7 : Int32) (x8 : Int32) (x9 : Int32) (x10 : Int32) (x11 : Int32) (x12 : Int32) (x13 : Addr) (x14 : Addr) (x15 : Addr) : Array Slot := #[.val (.int x0), .val (.int x1), .val (.int x2), .val (.int x3), .val (.int x4), .val (.int x5), .val (.int x6), .val (.int x7), .val (.int x8), .val (.int x9), .val (.int x10), .val (.int x11), .val (.int x12), .val (.ref x13), .val (.ref x14), .val (.ref x15), .unset, .unset, .unset, .unset, .unset, .unset, .unset, .unset]
abbrev own_AIIIIIIIIIIIIIRRRRUUUUUUU (x0 : Int32) (x1 : Int32) (x2 : Int32) (x3 : Int32) (x4 : Int32) (x5 : Int32) (x6 : Int32) (x7 : Int32) (x8 : Int32) (x9 : Int32) (x10 : Int32) (x11 : Int32) (x12 : Int32) (x13 : Addr) (x14 : Addr) (x15 : Addr) (x16 : Addr) : Array Slot := #[.val (.int x0), .val (.int x1), .val (.int x2), .val (.int x3), .val (.int x4), .val (.int x5), .val (.int x6), .val (.int x7), .val (.int x8), .val (.int x9), .val (.int x10), .val (.int x11), .val (.int x12), .val (.ref x13), .val (.ref x14), .val (.ref x15), .val (.ref x16), .unset, .unset, .unset, .unset, .unset, .unset, .unset]
abbrev own_AIIIIIIIIIIIIIRRRRRUUUUUU (x0 : Int32) (x1 : Int32) (x2 : Int32) (x3 : Int32) (x4 : Int32) (x5 : Int32) (x6 : Int32) (x7 : Int32) (x8 : Int32) (x9 : Int32) (x10 : Int32) (x11 : Int32) (x12 : Int32) (x13 : Addr) (x14 : Addr) (x15 : Addr) (x16 : Addr) (x17 : Addr) : Array Slot := #[.val (.int x0), .val (.int x1), .val (.int x2), .val (.int x3), .val (.int x4), .val (.int x5), .val (.int x6), .val (.int x7), .val (.int x8), .val (.int x9), .val (.int x10), .val (.int x11), .val (.int x12), .val (.ref x13), .val (.ref x14), .val (.ref x15), .val (.ref x16), .val (.ref x17), .unset, .unset, .unset, .unset, .unset, .unset]
abbrev own_AIIIIIIIIIIIIIRRRRRRUUUUU (x0 : Int32) (x1 : Int32) (x2 : Int32) (x3 : Int32) (x4 : Int32) (x5 : Int32) (x6 : Int32) (x7 : Int32) (x8 : Int32) (x9 : Int32) (x10 : Int32) (x11 : Int32) (x12 : Int32) (x13 : Addr) (x14 : Addr) (x15 : Addr) (x16 : Addr) (x17 : Addr) (x18 : Addr) : Array Slot := #[.val (.int x0), .val (.int x1), .val (.int x2), .val (.int x3), .val (.int x4), .val (.int x5), .val (.int x6), .val (.int x7), .val (.int x8), .val (.int x9), .val (.int x10), .val (.int x11), .val (.int x12), .val (.ref x13), .val (.ref x14), .val (.ref x15), .val (.ref x16), .val (.ref x17), .val (.ref x18), .unset, .unset, .unset, .unset, .unset]
abbrev own_AIIIIIIIIIIIIIRRRRRRRUUUU (x0 : Int32) (x1 : Int32) (x2 : Int32) (x3 : Int32) (x4 : Int32) (x5 : Int32) (x6 : Int32) (x7 : Int32) (x8 : Int32) (x9 : Int32) (x10 : Int32) (x11 : Int32) (x12 : Int32) (x13 : Addr) (x14 : Addr) (x15 : Addr) (x16 : Addr) (x17 : Addr) (x18 : Addr) (x19 : Addr) : Array Slot := #[.val (.int x0), .val (.int x1), .val (.int x2), .val (.int x3), .val (.int x4), .val (.int x5), .val (.int x6), .val (.int x7), .val (.int x8), .val (.int x9), .val (.int x10), .val (.int x11), .val (.int x12), .val (.ref x13), .val (.ref x14), .val (.ref x15), .val (.ref x16), .val (.ref x17), .val (.ref x18), .val (.ref x19), .unset, .unset, .unset, .unset]
abbrev own_AIIIIIIIIIIIIIRRRRRRRIUUU (x0 : Int32) (x1 : Int32) (x2 : Int32) (x3 : Int32) (x4 : Int32) (x5 : Int32) (x6 : Int32) (x7 : Int32) (x8 : Int32) (x9 : Int32) (x10 : Int32) (x11 : Int32) (x12 : Int32) (x13 : Addr) (x14 : Addr) (x15 : Addr) (x16 : Addr) (x17 : Addr) (x18 : Addr) (x19 : Addr) (x20 : Int32) : Array Slot := #[.val (.int x0), .val (.int x1), .val (.int x2), .val (.int x3), .val (.int x4), .val (.int x5), .val (.int x6), .val (.int x7), .val (.int x8), .val (.int x9), .val (.int x10), .val (.int x11), .val (.int x12), .val (.ref x13), .val (.ref x14), .val (.ref x15), .val (.ref x16), .val (.ref x17), .val (.ref x18), .val (.ref x19), .val (.int x20), .unset, .unset, .unset]
abbrev own_AIIIIIIIIIIIIIRRRRRRRIIUU (x0 : Int32) (x1 : Int32) (x2 : Int32) (x3 : Int32) (x4 : Int32) (x5 : Int32) (x6 : Int32) (x7 : Int32) (x8 : Int32) (x9 : Int32) (x10 : Int32) (x11 : Int32) (x12 : Int32) (x13 : Addr) (x14 : Addr) (x15 : Addr) (x16 : Addr) (x17 : Addr) (x18 : Addr) (x19 : Addr) (x20 : Int32) (x21 : Int32) : Array Slot := #[.val (.int x0), .val (.int x1), .val (.int x2), .val (.int x3), .val (.int x4), .val (.int x5), .val (.int x6), .val (.int x7), .val (.int x8), .val (.int x9), .val (.int x10), .val (.int x11), .val (.int x12), .val (.ref x13), .val (.ref x14), .val (.ref x15), .val (.ref x16), .val (.ref x17), .val (.ref x18), .val (.ref x19), .val (.int x20), .val (.int x21), .unset, .unset]
abbrev own_AIIIIIIIIIIIIIRRRRRRRIIIU (x0 : Int32) (x1 : Int32) (x2 : Int32) (x3 : Int32) (x4 : Int32) (x5 : Int32) (x6 : Int32) (x7 : Int32) (x8 : Int32) (x9 : Int32) (x10 : Int32) (x11 : Int32) (x12 : Int32) (x13 : Addr) (x14 : Addr) (x15 : Addr) (x16 : Addr) (x17 : Addr) (x18 : Addr) (x19 : Addr) (x20 : Int32) (x21 : Int32) (x22 : Int32) : Array Slot := #[.val (.int x0), .val (.int x1), .val (.int x2), .val (.int x3), .val (.int x4), .val (.int x5), .val (.int x6), .val (.int x7), .val (.int x8), .val (.int x9), .val (.int x10), .val (.int x11), .val (.int x12), .val (.ref x13), .val (.ref x14), .val (.ref x15), .val (.ref x16), .val (.ref x17), .val (.ref x18), .val (.ref x19), .val (.int x20), .val (.int x21), .val (.int x22), .unset]
abbrev own_AIIIIIIIIIIIIIRRRRRRRIIII (x0 : Int32) (x1 : Int32) (x2 : Int32) (x3 : Int32) (x4 : Int32) (x5 : Int32) (x6 : Int32) (x7 : Int32) (x8 : Int32) (x9 : Int32) (x10 : Int32) (x11 : Int32) (x12 : Int32) (x13 : Addr) (x14 : Addr) (x15 : Addr) (x16 : Addr) (x17 : Addr) (x18 : Addr) (x19 : Addr) (x20 : Int32) (x21 : Int32) (x22 : Int32) (x23 : Int32) : Array Slot := #[.val (.int x0), .val (.int x1), .val (.int x2), .val (.int x3), .val (.int x4), .val (.int x5), .val (.int x6), .val (.int x7), .val (.int x8), .val (.int x9), .val (.int x10), .val (.int x11), .val (.int x12), .val (.ref x13), .val (.ref x14), .val (.ref x15), .val (.ref x16), .val (.ref x17), .val (.ref x18), .val (.ref x19), .val (.int x20), .val (.int x21), .val (.int x22), .val (.int x23)]
theorem own_pf (b a : Int32) : (if b = (0 : Int32) then (0 : Int32) else (if a = (0 : Int32) then (1 : Int32) else (0 : Int32))) = 0 ∨ (if b = (0 : Int32) then (0 : Int32) else (if a = (0 : Int32) then (1 : Int32) else (0 : Int32))) = 1 := by (repeat' split) <;> simp
theorem own_or01 (a b : Int32) : (if a = (0 : Int32) then (if b = (0 : Int32) then (0 : Int32) else (1 : Int32)) else (1 : Int32)) = 0 ∨ (if a = (0 : Int32) then (if b = (0 : Int32) then (0 : Int32) else (1 : Int32)) else (1 : Int32)) = 1 := by (repeat' split) <;> simp
theorem own_sl (a b c : Int32) : (if (if a = (0 : Int32) then (if b = (0 : Int32) then (0 : Int32) else (1 : Int32)) else (1 : Int32)) = (0 : Int32) then (if c = (0 : Int32) then (0 : Int32) else (1 : Int32)) else (1 : Int32)) = (if a = (0 : Int32) then (if b = (0 : Int32) then (if c = (0 : Int32) then (0 : Int32) else (1 : Int32)) else (1 : Int32)) else (1 : Int32)) := by
  repeat' split
  all_goals first | rfl | (simp_all; done) | grind
theorem own_sr (a b c : Int32) : (if a = (0 : Int32) then (if (if b = (0 : Int32) then (if c = (0 : Int32) then (0 : Int32) else (1 : Int32)) else (1 : Int32)) = (0 : Int32) then (0 : Int32) else (1 : Int32)) else (1 : Int32)) = (if a = (0 : Int32) then (if b = (0 : Int32) then (if c = (0 : Int32) then (0 : Int32) else (1 : Int32)) else (1 : Int32)) else (1 : Int32)) := by
  repeat' split
  all_goals first | rfl | (simp_all; done) | grind
theorem own_fl (f s1 s2 : Int32) : (if s2 = (0 : Int32) then ((if s1 = (0 : Int32) then (f + (if s1 = (0 : Int32) then (1 : Int32) else (0 : Int32))) else (if s1 = (0 : Int32) then (1 : Int32) else (0 : Int32))) + (if s2 = (0 : Int32) then (1 : Int32) else (0 : Int32))) else (if s2 = (0 : Int32) then (1 : Int32) else (0 : Int32))) = (if s2 = (0 : Int32) then (if s1 = (0 : Int32) then (f + (2 : Int32)) else (1 : Int32)) else (0 : Int32)) := by
  have e : f + (1 : Int32) + (1 : Int32) = f + (2 : Int32) := by rw [Int32.add_assoc]; rfl
  have e0 : (0 : Int32) + (1 : Int32) = 1 := rfl
  have e2 : (1 : Int32) + (1 : Int32) = 2 := rfl
  by_cases h1 : s1 = 0 <;> by_cases h2 : s2 = 0 <;> simp [h1, h2, e, e0, e2]
theorem own_fr (f s1 s2 : Int32) : (if (if s1 = (0 : Int32) then (if s2 = (0 : Int32) then (0 : Int32) else (1 : Int32)) else (1 : Int32)) = (0 : Int32) then (f + (if s2 = (0 : Int32) then ((if s1 = (0 : Int32) then (1 : Int32) else (0 : Int32)) + (if s2 = (0 : Int32) then (1 : Int32) else (0 : Int32))) else (if s2 = (0 : Int32) then (1 : Int32) else (0 : Int32)))) else (if s2 = (0 : Int32) then ((if s1 = (0 : Int32) then (1 : Int32) else (0 : Int32)) + (if s2 = (0 : Int32) then (1 : Int32) else (0 : Int32))) else (if s2 = (0 : Int32) then (1 : Int32) else (0 : Int32)))) = (if s2 = (0 : Int32) then (if s1 = (0 : Int32) then (f + (2 : Int32)) else (1 : Int32)) else (0 : Int32)) := by
  have e : f + (1 : Int32) + (1 : Int32) = f + (2 : Int32) := by rw [Int32.add_assoc]; rfl
  have e0 : (0 : Int32) + (1 : Int32) = 1 := rfl
  have e2 : (1 : Int32) + (1 : Int32) = 2 := rfl
  by_cases h1 : s1 = 0 <;> by_cases h2 : s2 = 0 <;> simp [h1, h2, e, e0, e2]
theorem own_pl (p b1 s1 b2 s2 : Int32) : (if (if p = (0 : Int32) then (if (if b1 = (0 : Int32) then (0 : Int32) else (if s1 = (0 : Int32) then (1 : Int32) else (0 : Int32))) = (0 : Int32) then (0 : Int32) else (1 : Int32)) else (1 : Int32)) = (0 : Int32) then (if (if b2 = (0 : Int32) then (0 : Int32) else (if s2 = (0 : Int32) then (1 : Int32) else (0 : Int32))) = (0 : Int32) then (0 : Int32) else (1 : Int32)) else (1 : Int32)) = (if p = (0 : Int32) then (if b1 = (0 : Int32) then (if b2 = (0 : Int32) then (0 : Int32) else (if s2 = (0 : Int32) then (1 : Int32) else (0 : Int32))) else (if s1 = (0 : Int32) then (1 : Int32) else (if b2 = (0 : Int32) then (0 : Int32) else (if s2 = (0 : Int32) then (1 : Int32) else (0 : Int32))))) else (1 : Int32)) := by
  repeat' split
  all_goals first | rfl | (simp_all; done) | grind
theorem own_pr (p b1 s1 b2 s2 : Int32) : (if p = (0 : Int32) then (if (if (if b1 = (0 : Int32) then (0 : Int32) else (if s1 = (0 : Int32) then (1 : Int32) else (0 : Int32))) = (0 : Int32) then (if (if b2 = (0 : Int32) then (0 : Int32) else (if s2 = (0 : Int32) then (1 : Int32) else (0 : Int32))) = (0 : Int32) then (0 : Int32) else (1 : Int32)) else (1 : Int32)) = (0 : Int32) then (0 : Int32) else (1 : Int32)) else (1 : Int32)) = (if p = (0 : Int32) then (if b1 = (0 : Int32) then (if b2 = (0 : Int32) then (0 : Int32) else (if s2 = (0 : Int32) then (1 : Int32) else (0 : Int32))) else (if s1 = (0 : Int32) then (1 : Int32) else (if b2 = (0 : Int32) then (0 : Int32) else (if s2 = (0 : Int32) then (1 : Int32) else (0 : Int32))))) else (1 : Int32)) := by
  repeat' split
  all_goals first | rfl | (simp_all; done) | grind
theorem d8_0 : decode jdk_30_method_1_code 0 = .ok (.aload_n 0, 1) := by decide +kernel
theorem d8_1 : decode jdk_30_method_1_code 1 = .ok (.invokespecial 1, 3) := by decide +kernel
theorem d8_4 : decode jdk_30_method_1_code 4 = .ok (.return_, 1) := by decide +kernel
theorem pn_8 : plainFor (⟨"java/lang/Record", "<init>", "()V"⟩ : MethodName) = true := by first | exact plainFor_of_name (by first | (simp [plainName, overriddenIn]; done) | decide +kernel) | decide +kernel | exact Jvm.Free.JP.mathPlain rfl (by decide +kernel)
theorem ef_8 (m : MethodId) (a1 : Addr) : entryFrame m #[(.ref a1)] 1 = mkF m 0 #[.val (.ref a1)] [] := by first | (simp [entryFrame, mkF, argsToLocals, Value.category]; done) | rfl
def Q8 (Z : State) (a1 : Addr) (h0 : Heap) (n0 : Nat) (v : Option Value) (h : Heap) (L : List Loc) : Prop := v = none ∧ Fr n0 L ∧ h = h0
set_option maxRecDepth 65536 in
set_option maxHeartbeats 40000000 in
theorem rm8 (l : Launch) (Z : State) (a0 : Array Value) (hw : ∀ d ∈ tables_1, d.before a0 Z = true) (ws : List Jvm.Cond) (a1 : Addr) (h0 : Heap) (n0 : Nat) (Z0 : n0 ≤ h0.size) :
    MetFree l (⟨"java/lang/Record", "<init>", "()V"⟩ : MethodName) (head1 (Jvm.Cond.code (⟨"java/lang/Record", "<init>", "()V"⟩ : MethodName) jdk_30_method_1_code 1 none :: ws) ({ frames := 1, cells := 0, slots := 0, locals := 12 } : Room)) (fun a U => a = #[(.ref a1)] ∧ Z.Warmed39 U.vm ∧ U.heap = h0) (fun _ _ _ _ _ => True) (fun _ U o U' => ∃ v L, o = .returned v ∧ Q8 Z a1 h0 n0 v U'.heap L ∧ FrameEnd U o U' L ({ frames := 1, cells := 0, slots := 0, locals := 12 } : Room).cells ({ frames := 1, cells := 0, slots := 0, locals := 12 } : Room).slots) := by
  refine MetFree.of_bodySF pn_8 hisR ?_
  intro p e s m args below meth c s₁ Bd hml0 hP hK
  obtain ⟨rfl, hZ, hh⟩ := hP
  have hx := Bd.exec
  have hby := Bd.bytes
  have hml : c.maxLocals = 1 := hml0
  have hown : s.vm.findClass "java/lang/Record" = some m.cls := findClass_of_methodNamed Bd.named
  have hnm := (name_of_methodNamed Bd.named Bd.method).1
  have X0 : Stand p l e ({ frames := 1, cells := 0, slots := 0, locals := 12 } : Room) s m #[(.ref a1)] below meth c s₁ [] 0 0 := Stand.of_body Bd
  have e0 : s₁.heap = h0 := by rw [← hh, Bd.state]; rfl
  have N0 := Fr.nil n0
  refine own_at (castTop (ef_8 m a1)) ?_
  have sg1 : ∀ t, own_S p e below s₁ (mkF m 1 #[.val (.ref a1)] [(.ref a1)]) t → own_S p e below s₁ (mkF m 0 #[.val (.ref a1)] []) t := by
    intro t k
    show own_S p e below s₁ (mkF m 0 #[.val (.ref a1)] []) _
    refine XS.aloadN X0.here hx rfl (hb hby d8_0) rfl rfl ?_
    exact k
  refine own_by sg1 ?_
  obtain ⟨T1, X1, e1, st1⟩ := initO X0 hx hZ hown (hw _ (List.mem_of_getElem? (i := 42) rfl)) (hw _ (List.mem_of_getElem? (i := 13) rfl)) (hw _ (List.mem_of_getElem? (i := 14) rfl)) e0 (g := (mkF m 1 #[.val (.ref a1)] [(.ref a1)])) rfl (by rw [hml]; rfl) rfl (hb hby d8_1) (by decide) (W := 0) (by show 2 * 0 + _ ≤ _; exact Nat.le_of_eq rfl) (by decide)
  refine own_by st1 ?_
  obtain ⟨fs, hr, hrun, hended, hW, hsame⟩ := X1.leave (v := none) (fun _ => rfl)
  refine ⟨_, _, ?_, hrun, hended, _, _, rfl, ?_, ⟨_, rfl⟩, hW, hsame.mono (by decide) (by decide)⟩
  · exact X1.returnOut hx Bd.returns (hb hby d8_4) hr
  · show Q8 Z a1 h0 n0 _ T1.heap _
    rw [e1]
    exact ⟨rfl, N0, rfl⟩
theorem d7_0 : decode prog_44_method_1_code 0 = .ok (.aload_n 0, 1) := by decide +kernel
theorem d7_1 : decode prog_44_method_1_code 1 = .ok (.invokespecial 1, 3) := by decide +kernel
theorem d7_4 : decode prog_44_method_1_code 4 = .ok (.aload_n 0, 1) := by decide +kernel
theorem d7_5 : decode prog_44_method_1_code 5 = .ok (.aload_n 1, 1) := by decide +kernel
theorem d7_6 : decode prog_44_method_1_code 6 = .ok (.putfield 7, 3) := by decide +kernel
theorem d7_9 : decode prog_44_method_1_code 9 = .ok (.aload_n 0, 1) := by decide +kernel
theorem d7_10 : decode prog_44_method_1_code 10 = .ok (.iload_n 2, 1) := by decide +kernel
theorem d7_11 : decode prog_44_method_1_code 11 = .ok (.putfield 13, 3) := by decide +kernel
theorem d7_14 : decode prog_44_method_1_code 14 = .ok (.aload_n 0, 1) := by decide +kernel
theorem d7_15 : decode prog_44_method_1_code 15 = .ok (.iload_n 3, 1) := by decide +kernel
theorem d7_16 : decode prog_44_method_1_code 16 = .ok (.putfield 17, 3) := by decide +kernel
theorem d7_19 : decode prog_44_method_1_code 19 = .ok (.aload_n 0, 1) := by decide +kernel
theorem d7_20 : decode prog_44_method_1_code 20 = .ok (.iload 4, 2) := by decide +kernel
theorem d7_22 : decode prog_44_method_1_code 22 = .ok (.putfield 21, 3) := by decide +kernel
theorem d7_25 : decode prog_44_method_1_code 25 = .ok (.aload_n 0, 1) := by decide +kernel
theorem d7_26 : decode prog_44_method_1_code 26 = .ok (.iload 5, 2) := by decide +kernel
theorem d7_28 : decode prog_44_method_1_code 28 = .ok (.putfield 24, 3) := by decide +kernel
theorem d7_31 : decode prog_44_method_1_code 31 = .ok (.return_, 1) := by decide +kernel
theorem pn_7 : plainFor (⟨"com/example/last_mile/lastmile/store/EndpointTally", "<init>", "(Ljava/lang/String;ZIZZ)V"⟩ : MethodName) = true := by first | exact plainFor_of_name (by first | (simp [plainName, overriddenIn]; done) | decide +kernel) | decide +kernel | exact Jvm.Free.JP.mathPlain rfl (by decide +kernel)
theorem pd_7_0 : parseMethodDescriptor "()V" = some ⟨[], none⟩ := by decide +kernel
theorem ef_7 (m : MethodId) (a1 : Addr) (s1 : Addr) (p2 : Int32) (p3 : Int32) (p4 : Int32) (p5 : Int32) : entryFrame m #[(.ref a1), (.ref s1), (.int p2), (.int p3), (.int p4), (.int p5)] 6 = mkF m 0 #[.val (.ref a1), .val (.ref s1), .val (.int p2), .val (.int p3), .val (.int p4), .val (.int p5)] [] := by first | (simp [entryFrame, mkF, argsToLocals, Value.category]; done) | rfl
def Q7 (Z : State) (a1 : Addr) (s1 : Addr) (p2 : Int32) (p3 : Int32) (p4 : Int32) (p5 : Int32) (h0 : Heap) (n0 : Nat) (v : Option Value) (h : Heap) (L : List Loc) : Prop := v = none ∧ Fr n0 L ∧ Keep h0 h [a1] ∧ Exa Z h a1 "com/example/last_mile/lastmile/store/EndpointTally" ∧ Fld Z h a1 "com/example/last_mile/lastmile/store/EndpointTally" "endpointId" "Ljava/lang/String;" (.ref s1) ∧ Fld Z h a1 "com/example/last_mile/lastmile/store/EndpointTally" "succeeded" "Z" (.int p2) ∧ Fld Z h a1 "com/example/last_mile/lastmile/store/EndpointTally" "failures" "I" (.int p3) ∧ Fld Z h a1 "com/example/last_mile/lastmile/store/EndpointTally" "probeFailed" "Z" (.int p4) ∧ Fld Z h a1 "com/example/last_mile/lastmile/store/EndpointTally" "gone" "Z" (.int p5)
set_option maxRecDepth 65536 in
set_option maxHeartbeats 40000000 in
theorem rm7 (l : Launch) (Z : State) (a0 : Array Value) (hw : ∀ d ∈ tables_1, d.before a0 Z = true) (ws : List Jvm.Cond) (a1 : Addr) (s1 : Addr) (p2 : Int32) (p3 : Int32) (p4 : Int32) (p5 : Int32) (h0 : Heap) (n0 : Nat) (Z0 : n0 ≤ h0.size) (E_a1 : Exa Z h0 a1 "com/example/last_mile/lastmile/store/EndpointTally") (F_endpointId : Fld Z h0 a1 "com/example/last_mile/lastmile/store/EndpointTally" "endpointId" "Ljava/lang/String;" .null) (F_succeeded : Fld Z h0 a1 "com/example/last_mile/lastmile/store/EndpointTally" "succeeded" "Z" (.int (0 : Int32))) (F_failures : Fld Z h0 a1 "com/example/last_mile/lastmile/store/EndpointTally" "failures" "I" (.int (0 : Int32))) (F_probeFailed : Fld Z h0 a1 "com/example/last_mile/lastmile/store/EndpointTally" "probeFailed" "Z" (.int (0 : Int32))) (F_gone : Fld Z h0 a1 "com/example/last_mile/lastmile/store/EndpointTally" "gone" "Z" (.int (0 : Int32))) (g_a1 : n0 ≤ a1) (hb2 : p2 = 0 ∨ p2 = 1) (hb4 : p4 = 0 ∨ p4 = 1) (hb5 : p5 = 0 ∨ p5 = 1) :
    MetFree l (⟨"com/example/last_mile/lastmile/store/EndpointTally", "<init>", "(Ljava/lang/String;ZIZZ)V"⟩ : MethodName) (head1 (Jvm.Cond.code (⟨"com/example/last_mile/lastmile/store/EndpointTally", "<init>", "(Ljava/lang/String;ZIZZ)V"⟩ : MethodName) prog_44_method_1_code 6 none :: ws) ({ frames := 2, cells := 0, slots := 0, locals := 24 } : Room)) (fun a U => a = #[(.ref a1), (.ref s1), (.int p2), (.int p3), (.int p4), (.int p5)] ∧ Z.Warmed39 U.vm ∧ U.heap = h0) (fun _ _ _ _ _ => True) (fun _ U o U' => ∃ v L, o = .returned v ∧ Q7 Z a1 s1 p2 p3 p4 p5 h0 n0 v U'.heap L ∧ FrameEnd U o U' L ({ frames := 2, cells := 0, slots := 0, locals := 24 } : Room).cells ({ frames := 2, cells := 0, slots := 0, locals := 24 } : Room).slots) := by
  refine MetFree.of_bodySF pn_7 hisR ?_
  intro p e s m args below meth c s₁ Bd hml0 hP hK
  obtain ⟨rfl, hZ, hh⟩ := hP
  have hx := Bd.exec
  have hby := Bd.bytes
  have hml : c.maxLocals = 6 := hml0
  have hown : s.vm.findClass "com/example/last_mile/lastmile/store/EndpointTally" = some m.cls := findClass_of_methodNamed Bd.named
  have hnm := (name_of_methodNamed Bd.named Bd.method).1
  have X0 : Stand p l e ({ frames := 2, cells := 0, slots := 0, locals := 24 } : Room) s m #[(.ref a1), (.ref s1), (.int p2), (.int p3), (.int p4), (.int p5)] below meth c s₁ [] 0 0 := Stand.of_body Bd
  have e0 : s₁.heap = h0 := by rw [← hh, Bd.state]; rfl
  have N0 := Fr.nil n0
  refine own_at (castTop (ef_7 m a1 s1 p2 p3 p4 p5)) ?_
  have K0 := Keep.refl h0 [a1]
  have sg1 : ∀ t, own_S p e below s₁ (mkF m 1 (own_ARRIIII a1 s1 p2 p3 p4 p5) [(.ref a1)]) t → own_S p e below s₁ (mkF m 0 (own_ARRIIII a1 s1 p2 p3 p4 p5) []) t := by
    intro t k
    show own_S p e below s₁ (mkF m 0 (own_ARRIIII a1 s1 p2 p3 p4 p5) []) _
    refine XS.aloadN X0.here hx rfl (hb hby d7_0) rfl rfl ?_
    exact k
  refine own_by sg1 ?_
  obtain ⟨_, _, ⟨T1, L1, k1, n1⟩, -, X1, ⟨Lc1, hQ1, l1, y1, z1⟩, st1⟩ := X0.specialBack hx (y := (⟨"java/lang/Record", "<init>", "()V"⟩ : MethodName)) rfl hown (mvT hZ (hw _ (List.mem_of_getElem? (i := 37) rfl))) (mvT hZ (hw _ (List.mem_of_getElem? (i := 38) rfl))) (mvT hZ (hw _ (List.mem_of_getElem? (i := 41) rfl))) (by decide) (backOf (W := 0) (rm8 l Z a0 hw [] a1 h0 n0 Z0) hZ (hw _ (List.mem_of_getElem? (i := 41) rfl)) (hw _ (List.mem_of_getElem? (i := 40) rfl)) (by decide) (by decide)) (g := (mkF m 1 (own_ARRIIII a1 s1 p2 p3 p4 p5) [(.ref a1)])) rfl (by rw [hml]; rfl) (Steps.refl _) (a := a1) (argsL := []) (rest := []) (lenOf pd_7_0 rfl) rfl (by show 2 * 0 + _ ≤ _; exact Nat.le_of_eq rfl) (hb hby d7_1) (fun _ _ => ⟨rfl, e0, (by decide : 0 + 0 ≤ _), (by decide : 0 + 0 ≤ _)⟩)
  dsimp only [Pt.U, Pt.locs, Pt.cells, Pt.slots] at X1 l1 y1 z1 st1 hQ1
  subst l1 y1 z1
  obtain ⟨rfl, N1q, hq1⟩ := hQ1
  have N1 := Fr.app N0 N1q
  refine own_by (fun t k => st1.trans k) ?_
  have sg6 : ∀ t, own_S p e below T1 (mkF m 6 (own_ARRIIII a1 s1 p2 p3 p4 p5) [(.ref s1), (.ref a1)]) t → own_S p e below T1 (mkF m 4 (own_ARRIIII a1 s1 p2 p3 p4 p5) []) t := by
    intro t k
    show own_S p e below T1 (mkF m 4 (own_ARRIIII a1 s1 p2 p3 p4 p5) []) _
    refine XS.aloadN X1.here hx rfl (hb hby d7_4) rfl rfl ?_
    show own_S p e below T1 (mkF m 5 (own_ARRIIII a1 s1 p2 p3 p4 p5) [(.ref a1)]) _
    refine XS.aloadN X1.here hx rfl (hb hby d7_5) rfl rfl ?_
    exact k
  refine own_by sg6 ?_
  obtain ⟨T6, h6, X6, e6, W6, st6⟩ := putF X1 hx hZ hown (host := "") (Or.inl (hw _ (List.mem_of_getElem? (i := 43) rfl))) Via.refl hq1 F_endpointId E_a1 (Or.inr ⟨(hw _ (List.mem_of_getElem? (i := 44) rfl)), rfl, hnm⟩) (hw _ (List.mem_of_getElem? (i := 32) rfl)) (ty := (.object "java/lang/String")) (by decide) rfl rfl (g := (mkF m 6 (own_ARRIIII a1 s1 p2 p3 p4 p5) [(.ref s1), (.ref a1)])) rfl rfl (hb hby d7_6)
  have Fw6 := F_endpointId.same W6
  have fc := (F_succeeded.other W6 (Or.inr (slot_ne (Or.inr (hw _ (List.mem_of_getElem? (i := 46) rfl))) (Or.inr (hw _ (List.mem_of_getElem? (i := 44) rfl))) (by decide) (t := .boolean) (t' := (.object "java/lang/String")) (by decide) (by decide))))
  have fc_2 := (F_failures.other W6 (Or.inr (slot_ne (Or.inr (hw _ (List.mem_of_getElem? (i := 48) rfl))) (Or.inr (hw _ (List.mem_of_getElem? (i := 44) rfl))) (by decide) (t := .int) (t' := (.object "java/lang/String")) (by decide) (by decide))))
  have fc_3 := (F_probeFailed.other W6 (Or.inr (slot_ne (Or.inr (hw _ (List.mem_of_getElem? (i := 50) rfl))) (Or.inr (hw _ (List.mem_of_getElem? (i := 44) rfl))) (by decide) (t := .boolean) (t' := (.object "java/lang/String")) (by decide) (by decide))))
  have fc_4 := (F_gone.other W6 (Or.inr (slot_ne (Or.inr (hw _ (List.mem_of_getElem? (i := 52) rfl))) (Or.inr (hw _ (List.mem_of_getElem? (i := 44) rfl))) (by decide) (t := .boolean) (t' := (.object "java/lang/String")) (by decide) (by decide))))
  have K6 : Keep h0 h6 [a1] := K0.wr W6 (Or.inl (List.mem_of_getElem? (i := 0) rfl))
  have Z6 : n0 ≤ h6.size := Nat.le_trans Z0 (Keep.of_wr W6).1
  have N6 := Fr.snoc X6 N1 g_a1
  refine own_by st6 ?_
  have sg11 : ∀ t, own_S p e below T6 (mkF m 11 (own_ARRIIII a1 s1 p2 p3 p4 p5) [(.int p2), (.ref a1)]) t → own_S p e below T6 (mkF m 9 (own_ARRIIII a1 s1 p2 p3 p4 p5) []) t := by
    intro t k
    show own_S p e below T6 (mkF m 9 (own_ARRIIII a1 s1 p2 p3 p4 p5) []) _
    refine XS.aloadN X6.here hx rfl (hb hby d7_9) rfl rfl ?_
    show own_S p e below T6 (mkF m 10 (own_ARRIIII a1 s1 p2 p3 p4 p5) [(.ref a1)]) _
    refine XS.iloadN X6.here hx rfl (hb hby d7_10) rfl ?_
    exact k
  refine own_by sg11 ?_
  obtain ⟨T11, h11, X11, e11, W11, st11⟩ := putF X6 hx hZ hown (host := "") (Or.inl (hw _ (List.mem_of_getElem? (i := 45) rfl))) Via.refl e6 fc (E_a1.wr W6) (Or.inr ⟨(hw _ (List.mem_of_getElem? (i := 46) rfl)), rfl, hnm⟩) (hw _ (List.mem_of_getElem? (i := 32) rfl)) (ty := .boolean) (by decide) (own_nrb hb2) (own_ftb hb2) (g := (mkF m 11 (own_ARRIIII a1 s1 p2 p3 p4 p5) [(.int p2), (.ref a1)])) rfl rfl (hb hby d7_11)
  have Fw11 := fc.same W11
  have fc_5 := (Fw6.other W11 (Or.inr (slot_ne (Or.inr (hw _ (List.mem_of_getElem? (i := 44) rfl))) (Or.inr (hw _ (List.mem_of_getElem? (i := 46) rfl))) (by decide) (t := (.object "java/lang/String")) (t' := .boolean) (by decide) (by decide))))
  have fc_6 := (fc_2.other W11 (Or.inr (slot_ne (Or.inr (hw _ (List.mem_of_getElem? (i := 48) rfl))) (Or.inr (hw _ (List.mem_of_getElem? (i := 46) rfl))) (by decide) (t := .int) (t' := .boolean) (by decide) (by decide))))
  have fc_7 := (fc_3.other W11 (Or.inr (slot_ne (Or.inr (hw _ (List.mem_of_getElem? (i := 50) rfl))) (Or.inr (hw _ (List.mem_of_getElem? (i := 46) rfl))) (by decide) (t := .boolean) (t' := .boolean) (by decide) (by decide))))
  have fc_8 := (fc_4.other W11 (Or.inr (slot_ne (Or.inr (hw _ (List.mem_of_getElem? (i := 52) rfl))) (Or.inr (hw _ (List.mem_of_getElem? (i := 46) rfl))) (by decide) (t := .boolean) (t' := .boolean) (by decide) (by decide))))
  have K11 : Keep h0 h11 [a1] := K6.wr W11 (Or.inl (List.mem_of_getElem? (i := 0) rfl))
  have Z11 : n0 ≤ h11.size := Nat.le_trans Z6 (Keep.of_wr W11).1
  have N11 := Fr.snoc X11 N6 g_a1
  refine own_by st11 ?_
  have sg16 : ∀ t, own_S p e below T11 (mkF m 16 (own_ARRIIII a1 s1 p2 p3 p4 p5) [(.int p3), (.ref a1)]) t → own_S p e below T11 (mkF m 14 (own_ARRIIII a1 s1 p2 p3 p4 p5) []) t := by
    intro t k
    show own_S p e below T11 (mkF m 14 (own_ARRIIII a1 s1 p2 p3 p4 p5) []) _
    refine XS.aloadN X11.here hx rfl (hb hby d7_14) rfl rfl ?_
    show own_S p e below T11 (mkF m 15 (own_ARRIIII a1 s1 p2 p3 p4 p5) [(.ref a1)]) _
    refine XS.iloadN X11.here hx rfl (hb hby d7_15) rfl ?_
    exact k
  refine own_by sg16 ?_
  obtain ⟨T16, h16, X16, e16, W16, st16⟩ := putF X11 hx hZ hown (host := "") (Or.inl (hw _ (List.mem_of_getElem? (i := 47) rfl))) Via.refl e11 fc_6 ((E_a1.wr W6).wr W11) (Or.inr ⟨(hw _ (List.mem_of_getElem? (i := 48) rfl)), rfl, hnm⟩) (hw _ (List.mem_of_getElem? (i := 32) rfl)) (ty := .int) (by decide) rfl rfl (g := (mkF m 16 (own_ARRIIII a1 s1 p2 p3 p4 p5) [(.int p3), (.ref a1)])) rfl rfl (hb hby d7_16)
  have Fw16 := fc_6.same W16
  have fc_9 := (fc_5.other W16 (Or.inr (slot_ne (Or.inr (hw _ (List.mem_of_getElem? (i := 44) rfl))) (Or.inr (hw _ (List.mem_of_getElem? (i := 48) rfl))) (by decide) (t := (.object "java/lang/String")) (t' := .int) (by decide) (by decide))))
  have fc_10 := (Fw11.other W16 (Or.inr (slot_ne (Or.inr (hw _ (List.mem_of_getElem? (i := 46) rfl))) (Or.inr (hw _ (List.mem_of_getElem? (i := 48) rfl))) (by decide) (t := .boolean) (t' := .int) (by decide) (by decide))))
  have fc_11 := (fc_7.other W16 (Or.inr (slot_ne (Or.inr (hw _ (List.mem_of_getElem? (i := 50) rfl))) (Or.inr (hw _ (List.mem_of_getElem? (i := 48) rfl))) (by decide) (t := .boolean) (t' := .int) (by decide) (by decide))))
  have fc_12 := (fc_8.other W16 (Or.inr (slot_ne (Or.inr (hw _ (List.mem_of_getElem? (i := 52) rfl))) (Or.inr (hw _ (List.mem_of_getElem? (i := 48) rfl))) (by decide) (t := .boolean) (t' := .int) (by decide) (by decide))))
  have K16 : Keep h0 h16 [a1] := K11.wr W16 (Or.inl (List.mem_of_getElem? (i := 0) rfl))
  have Z16 : n0 ≤ h16.size := Nat.le_trans Z11 (Keep.of_wr W16).1
  have N16 := Fr.snoc X16 N11 g_a1
  refine own_by st16 ?_
  have sg22 : ∀ t, own_S p e below T16 (mkF m 22 (own_ARRIIII a1 s1 p2 p3 p4 p5) [(.int p4), (.ref a1)]) t → own_S p e below T16 (mkF m 19 (own_ARRIIII a1 s1 p2 p3 p4 p5) []) t := by
    intro t k
    show own_S p e below T16 (mkF m 19 (own_ARRIIII a1 s1 p2 p3 p4 p5) []) _
    refine XS.aloadN X16.here hx rfl (hb hby d7_19) rfl rfl ?_
    show own_S p e below T16 (mkF m 20 (own_ARRIIII a1 s1 p2 p3 p4 p5) [(.ref a1)]) _
    refine XS.iload X16.here hx rfl (hb hby d7_20) rfl ?_
    exact k
  refine own_by sg22 ?_
  obtain ⟨T22, h22, X22, e22, W22, st22⟩ := putF X16 hx hZ hown (host := "") (Or.inl (hw _ (List.mem_of_getElem? (i := 49) rfl))) Via.refl e16 fc_11 (((E_a1.wr W6).wr W11).wr W16) (Or.inr ⟨(hw _ (List.mem_of_getElem? (i := 50) rfl)), rfl, hnm⟩) (hw _ (List.mem_of_getElem? (i := 32) rfl)) (ty := .boolean) (by decide) (own_nrb hb4) (own_ftb hb4) (g := (mkF m 22 (own_ARRIIII a1 s1 p2 p3 p4 p5) [(.int p4), (.ref a1)])) rfl rfl (hb hby d7_22)
  have Fw22 := fc_11.same W22
  have fc_13 := (fc_9.other W22 (Or.inr (slot_ne (Or.inr (hw _ (List.mem_of_getElem? (i := 44) rfl))) (Or.inr (hw _ (List.mem_of_getElem? (i := 50) rfl))) (by decide) (t := (.object "java/lang/String")) (t' := .boolean) (by decide) (by decide))))
  have fc_14 := (fc_10.other W22 (Or.inr (slot_ne (Or.inr (hw _ (List.mem_of_getElem? (i := 46) rfl))) (Or.inr (hw _ (List.mem_of_getElem? (i := 50) rfl))) (by decide) (t := .boolean) (t' := .boolean) (by decide) (by decide))))
  have fc_15 := (Fw16.other W22 (Or.inr (slot_ne (Or.inr (hw _ (List.mem_of_getElem? (i := 48) rfl))) (Or.inr (hw _ (List.mem_of_getElem? (i := 50) rfl))) (by decide) (t := .int) (t' := .boolean) (by decide) (by decide))))
  have fc_16 := (fc_12.other W22 (Or.inr (slot_ne (Or.inr (hw _ (List.mem_of_getElem? (i := 52) rfl))) (Or.inr (hw _ (List.mem_of_getElem? (i := 50) rfl))) (by decide) (t := .boolean) (t' := .boolean) (by decide) (by decide))))
  have K22 : Keep h0 h22 [a1] := K16.wr W22 (Or.inl (List.mem_of_getElem? (i := 0) rfl))
  have Z22 : n0 ≤ h22.size := Nat.le_trans Z16 (Keep.of_wr W22).1
  have N22 := Fr.snoc X22 N16 g_a1
  refine own_by st22 ?_
  have sg28 : ∀ t, own_S p e below T22 (mkF m 28 (own_ARRIIII a1 s1 p2 p3 p4 p5) [(.int p5), (.ref a1)]) t → own_S p e below T22 (mkF m 25 (own_ARRIIII a1 s1 p2 p3 p4 p5) []) t := by
    intro t k
    show own_S p e below T22 (mkF m 25 (own_ARRIIII a1 s1 p2 p3 p4 p5) []) _
    refine XS.aloadN X22.here hx rfl (hb hby d7_25) rfl rfl ?_
    show own_S p e below T22 (mkF m 26 (own_ARRIIII a1 s1 p2 p3 p4 p5) [(.ref a1)]) _
    refine XS.iload X22.here hx rfl (hb hby d7_26) rfl ?_
    exact k
  refine own_by sg28 ?_
  obtain ⟨T28, h28, X28, e28, W28, st28⟩ := putF X22 hx hZ hown (host := "") (Or.inl (hw _ (List.mem_of_getElem? (i := 51) rfl))) Via.refl e22 fc_16 ((((E_a1.wr W6).wr W11).wr W16).wr W22) (Or.inr ⟨(hw _ (List.mem_of_getElem? (i := 52) rfl)), rfl, hnm⟩) (hw _ (List.mem_of_getElem? (i := 32) rfl)) (ty := .boolean) (by decide) (own_nrb hb5) (own_ftb hb5) (g := (mkF m 28 (own_ARRIIII a1 s1 p2 p3 p4 p5) [(.int p5), (.ref a1)])) rfl rfl (hb hby d7_28)
  have Fw28 := fc_16.same W28
  have fc_17 := (fc_13.other W28 (Or.inr (slot_ne (Or.inr (hw _ (List.mem_of_getElem? (i := 44) rfl))) (Or.inr (hw _ (List.mem_of_getElem? (i := 52) rfl))) (by decide) (t := (.object "java/lang/String")) (t' := .boolean) (by decide) (by decide))))
  have fc_18 := (fc_14.other W28 (Or.inr (slot_ne (Or.inr (hw _ (List.mem_of_getElem? (i := 46) rfl))) (Or.inr (hw _ (List.mem_of_getElem? (i := 52) rfl))) (by decide) (t := .boolean) (t' := .boolean) (by decide) (by decide))))
  have fc_19 := (fc_15.other W28 (Or.inr (slot_ne (Or.inr (hw _ (List.mem_of_getElem? (i := 48) rfl))) (Or.inr (hw _ (List.mem_of_getElem? (i := 52) rfl))) (by decide) (t := .int) (t' := .boolean) (by decide) (by decide))))
  have fc_20 := (Fw22.other W28 (Or.inr (slot_ne (Or.inr (hw _ (List.mem_of_getElem? (i := 50) rfl))) (Or.inr (hw _ (List.mem_of_getElem? (i := 52) rfl))) (by decide) (t := .boolean) (t' := .boolean) (by decide) (by decide))))
  have K28 : Keep h0 h28 [a1] := K22.wr W28 (Or.inl (List.mem_of_getElem? (i := 0) rfl))
  have Z28 : n0 ≤ h28.size := Nat.le_trans Z22 (Keep.of_wr W28).1
  have N28 := Fr.snoc X28 N22 g_a1
  refine own_by st28 ?_
  obtain ⟨fs, hr, hrun, hended, hW, hsame⟩ := X28.leave (v := none) (fun _ => rfl)
  refine ⟨_, _, ?_, hrun, hended, _, _, rfl, ?_, ⟨_, rfl⟩, hW, hsame.mono (by decide) (by decide)⟩
  · exact X28.returnOut hx Bd.returns (hb hby d7_31) hr
  · show Q7 Z a1 s1 p2 p3 p4 p5 h0 n0 _ T28.heap _
    rw [e28]
    exact ⟨rfl, N28, K28, (((((E_a1.wr W6).wr W11).wr W16).wr W22).wr W28), fc_17, fc_18, fc_19, fc_20, Fw28⟩
theorem d9_0 : decode prog_44_method_2_code 0 = .ok (.new 8, 3) := by decide +kernel
theorem d9_3 : decode prog_44_method_2_code 3 = .ok (.dup, 1) := by decide +kernel
theorem d9_4 : decode prog_44_method_2_code 4 = .ok (.aload_n 0, 1) := by decide +kernel
theorem d9_5 : decode prog_44_method_2_code 5 = .ok (.iload_n 1, 1) := by decide +kernel
theorem d9_6 : decode prog_44_method_2_code 6 = .ok (.iload_n 1, 1) := by decide +kernel
theorem d9_7 : decode prog_44_method_2_code 7 = .ok (.ifCond .eq 7, 3) := by decide +kernel
theorem d9_10 : decode prog_44_method_2_code 10 = .ok (.iconst 0, 1) := by decide +kernel
theorem d9_11 : decode prog_44_method_2_code 11 = .ok (.goto 4, 3) := by decide +kernel
theorem d9_14 : decode prog_44_method_2_code 14 = .ok (.iconst 1, 1) := by decide +kernel
theorem d9_15 : decode prog_44_method_2_code 15 = .ok (.iload_n 2, 1) := by decide +kernel
theorem d9_16 : decode prog_44_method_2_code 16 = .ok (.ifCond .eq 11, 3) := by decide +kernel
theorem d9_19 : decode prog_44_method_2_code 19 = .ok (.iload_n 1, 1) := by decide +kernel
theorem d9_20 : decode prog_44_method_2_code 20 = .ok (.ifCond .ne 7, 3) := by decide +kernel
theorem d9_23 : decode prog_44_method_2_code 23 = .ok (.iconst 1, 1) := by decide +kernel
theorem d9_24 : decode prog_44_method_2_code 24 = .ok (.goto 4, 3) := by decide +kernel
theorem d9_27 : decode prog_44_method_2_code 27 = .ok (.iconst 0, 1) := by decide +kernel
theorem d9_28 : decode prog_44_method_2_code 28 = .ok (.iload_n 3, 1) := by decide +kernel
theorem d9_29 : decode prog_44_method_2_code 29 = .ok (.invokespecial 27, 3) := by decide +kernel
theorem d9_32 : decode prog_44_method_2_code 32 = .ok (.areturn, 1) := by decide +kernel
theorem pn_9 : plainFor (⟨"com/example/last_mile/lastmile/store/EndpointTally", "of", "(Ljava/lang/String;ZZZ)Lcom/example/last_mile/lastmile/store/EndpointTally;"⟩ : MethodName) = true := by first | exact plainFor_of_name (by first | (simp [plainName, overriddenIn]; done) | decide +kernel) | decide +kernel | exact Jvm.Free.JP.mathPlain rfl (by decide +kernel)
theorem pd_9_0 : parseMethodDescriptor "(Ljava/lang/String;ZIZZ)V" = some ⟨[(.object "java/lang/String"), .boolean, .int, .boolean, .boolean], none⟩ := by decide +kernel
theorem ef_9 (m : MethodId) (s0 : Addr) (p1 : Int32) (p2 : Int32) (p3 : Int32) : entryFrame m #[(.ref s0), (.int p1), (.int p2), (.int p3)] 4 = mkF m 0 #[.val (.ref s0), .val (.int p1), .val (.int p2), .val (.int p3)] [] := by first | (simp [entryFrame, mkF, argsToLocals, Value.category]; done) | rfl
def Q9 (Z : State) (s0 : Addr) (p1 : Int32) (p2 : Int32) (p3 : Int32) (h0 : Heap) (n0 : Nat) (v : Option Value) (h : Heap) (L : List Loc) : Prop := ∃ r, v = some (.ref r) ∧ h0.size ≤ r ∧ Fr n0 L ∧ Keep h0 h [] ∧ Exa Z h r "com/example/last_mile/lastmile/store/EndpointTally" ∧ Fld Z h r "com/example/last_mile/lastmile/store/EndpointTally" "endpointId" "Ljava/lang/String;" (.ref s0) ∧ Fld Z h r "com/example/last_mile/lastmile/store/EndpointTally" "succeeded" "Z" (.int p1) ∧ Fld Z h r "com/example/last_mile/lastmile/store/EndpointTally" "failures" "I" (.int (if p1 = (0 : Int32) then (1 : Int32) else (0 : Int32))) ∧ Fld Z h r "com/example/last_mile/lastmile/store/EndpointTally" "probeFailed" "Z" (.int (if p2 = (0 : Int32) then (0 : Int32) else (if p1 = (0 : Int32) then (1 : Int32) else (0 : Int32)))) ∧ Fld Z h r "com/example/last_mile/lastmile/store/EndpointTally" "gone" "Z" (.int p3)
set_option maxRecDepth 65536 in
set_option maxHeartbeats 40000000 in
theorem rm9 (l : Launch) (Z : State) (a0 : Array Value) (hw : ∀ d ∈ tables_1, d.before a0 Z = true) (ws : List Jvm.Cond) (s0 : Addr) (p1 : Int32) (p2 : Int32) (p3 : Int32) (h0 : Heap) (n0 : Nat) (Z0 : n0 ≤ h0.size) (hb1 : p1 = 0 ∨ p1 = 1) (hb2 : p2 = 0 ∨ p2 = 1) (hb3 : p3 = 0 ∨ p3 = 1) :
    MetFree l (⟨"com/example/last_mile/lastmile/store/EndpointTally", "of", "(Ljava/lang/String;ZZZ)Lcom/example/last_mile/lastmile/store/EndpointTally;"⟩ : MethodName) (head1 (Jvm.Cond.code (⟨"com/example/last_mile/lastmile/store/EndpointTally", "of", "(Ljava/lang/String;ZZZ)Lcom/example/last_mile/lastmile/store/EndpointTally;"⟩ : MethodName) prog_44_method_2_code 4 (some (.object "com/example/last_mile/lastmile/store/EndpointTally")) :: ws) ({ frames := 3, cells := 1, slots := 5, locals := 42 } : Room)) (fun a U => a = #[(.ref s0), (.int p1), (.int p2), (.int p3)] ∧ Z.Warmed39 U.vm ∧ U.heap = h0) (fun _ _ _ _ _ => True) (fun _ U o U' => ∃ v L, o = .returned v ∧ Q9 Z s0 p1 p2 p3 h0 n0 v U'.heap L ∧ FrameEnd U o U' L ({ frames := 3, cells := 1, slots := 5, locals := 42 } : Room).cells ({ frames := 3, cells := 1, slots := 5, locals := 42 } : Room).slots) := by
  refine MetFree.of_bodySF pn_9 hisR ?_
  intro p e s m args below meth c s₁ Bd hml0 hP hK
  obtain ⟨rfl, hZ, hh⟩ := hP
  have hx := Bd.exec
  have hby := Bd.bytes
  have hml : c.maxLocals = 4 := hml0
  have hown : s.vm.findClass "com/example/last_mile/lastmile/store/EndpointTally" = some m.cls := findClass_of_methodNamed Bd.named
  have hnm := (name_of_methodNamed Bd.named Bd.method).1
  have X0 : Stand p l e ({ frames := 3, cells := 1, slots := 5, locals := 42 } : Room) s m #[(.ref s0), (.int p1), (.int p2), (.int p3)] below meth c s₁ [] 0 0 := Stand.of_body Bd
  have e0 : s₁.heap = h0 := by rw [← hh, Bd.state]; rfl
  have N0 := Fr.nil n0
  refine own_at (castTop (ef_9 m s0 p1 p2 p3)) ?_
  have K0 := Keep.refl h0 []
  obtain ⟨T00, h00, X00, e00, E00, A00, D00, -, st00⟩ := newO X0 hx hZ hown (hw _ (List.mem_of_getElem? (i := 56) rfl)) (hw _ (List.mem_of_getElem? (i := 32) rfl)) (hw _ (List.mem_of_getElem? (i := 33) rfl)) e0 (g := (mkF m 0 #[.val (.ref s0), .val (.int p1), .val (.int p2), .val (.int p3)] [])) rfl (hb hby d9_0) (by decide) (by decide)
  obtain ⟨b00, g00⟩ : ∃ z, z = h0.size := ⟨_, rfl⟩
  rw [← g00] at A00 D00 st00
  have g_b00 : n0 ≤ b00 := Nat.le_trans Z0 (Nat.le_of_eq g00.symm)
  have sz_b00 : h0.size ≤ b00 := Nat.le_trans K0.1 (Nat.le_of_eq g00.symm)
  have K00 := K0.ext E00
  have Z00 : n0 ≤ h00.size := Nat.le_trans Z0 E00.1
  have F_endpointId_b00 : Fld Z h00 b00 "com/example/last_mile/lastmile/store/EndpointTally" "endpointId" "Ljava/lang/String;" .null := D00 (Or.inr (hw _ (List.mem_of_getElem? (i := 44) rfl))) (ty := (.object "java/lang/String")) (by decide)
  have F_succeeded_b00 : Fld Z h00 b00 "com/example/last_mile/lastmile/store/EndpointTally" "succeeded" "Z" (.int (0 : Int32)) := D00 (Or.inr (hw _ (List.mem_of_getElem? (i := 46) rfl))) (ty := .boolean) (by decide)
  have F_failures_b00 : Fld Z h00 b00 "com/example/last_mile/lastmile/store/EndpointTally" "failures" "I" (.int (0 : Int32)) := D00 (Or.inr (hw _ (List.mem_of_getElem? (i := 48) rfl))) (ty := .int) (by decide)
  have F_probeFailed_b00 : Fld Z h00 b00 "com/example/last_mile/lastmile/store/EndpointTally" "probeFailed" "Z" (.int (0 : Int32)) := D00 (Or.inr (hw _ (List.mem_of_getElem? (i := 50) rfl))) (ty := .boolean) (by decide)
  have F_gone_b00 : Fld Z h00 b00 "com/example/last_mile/lastmile/store/EndpointTally" "gone" "Z" (.int (0 : Int32)) := D00 (Or.inr (hw _ (List.mem_of_getElem? (i := 52) rfl))) (ty := .boolean) (by decide)
  refine own_by st00 ?_
  have sg6 : ∀ t, own_S p e below T00 (mkF m 6 #[.val (.ref s0), .val (.int p1), .val (.int p2), .val (.int p3)] [(.int p1), (.ref s0), (.ref b00), (.ref b00)]) t → own_S p e below T00 (mkF m 3 #[.val (.ref s0), .val (.int p1), .val (.int p2), .val (.int p3)] [(.ref b00)]) t := by
    intro t k
    show own_S p e below T00 (mkF m 3 #[.val (.ref s0), .val (.int p1), .val (.int p2), .val (.int p3)] [(.ref b00)]) _
    refine XS.dup X00.here hx rfl (hb hby d9_3) rfl rfl ?_
    show own_S p e below T00 (mkF m 4 #[.val (.ref s0), .val (.int p1), .val (.int p2), .val (.int p3)] [(.ref b00), (.ref b00)]) _
    refine XS.aloadN X00.here hx rfl (hb hby d9_4) rfl rfl ?_
    show own_S p e below T00 (mkF m 5 #[.val (.ref s0), .val (.int p1), .val (.int p2), .val (.int p3)] [(.ref s0), (.ref b00), (.ref b00)]) _
    refine XS.iloadN X00.here hx rfl (hb hby d9_5) rfl ?_
    exact k
  refine own_by sg6 ?_
  obtain ⟨r6_s0, hr6_s0⟩ : ∃ z : Int32, z = (if p1 = (0 : Int32) then (1 : Int32) else (0 : Int32)) := ⟨_, rfl⟩
  have str6 : ∀ t, own_S p e below T00 (mkF m 15 #[.val (.ref s0), .val (.int p1), .val (.int p2), .val (.int p3)] [(.int r6_s0), (.int p1), (.ref s0), (.ref b00), (.ref b00)]) t → own_S p e below T00 (mkF m 6 #[.val (.ref s0), .val (.int p1), .val (.int p2), .val (.int p3)] [(.int p1), (.ref s0), (.ref b00), (.ref b00)]) t := by
    have sg7 : ∀ t, own_S p e below T00 (mkF m 7 #[.val (.ref s0), .val (.int p1), .val (.int p2), .val (.int p3)] [(.int p1), (.int p1), (.ref s0), (.ref b00), (.ref b00)]) t → own_S p e below T00 (mkF m 6 #[.val (.ref s0), .val (.int p1), .val (.int p2), .val (.int p3)] [(.int p1), (.ref s0), (.ref b00), (.ref b00)]) t := by
      intro t k
      show own_S p e below T00 (mkF m 6 #[.val (.ref s0), .val (.int p1), .val (.int p2), .val (.int p3)] [(.int p1), (.ref s0), (.ref b00), (.ref b00)]) _
      refine XS.iloadN X00.here hx rfl (hb hby d9_6) rfl ?_
      exact k
    by_cases hc7 : p1 = (0 : Int32)
    · rw [if_pos hc7] at hr6_s0
      have sg15 : ∀ t, own_S p e below T00 (mkF m 15 #[.val (.ref s0), .val (.int p1), .val (.int p2), .val (.int p3)] [(.int (1 : Int32)), (.int p1), (.ref s0), (.ref b00), (.ref b00)]) t → own_S p e below T00 (mkF m 7 #[.val (.ref s0), .val (.int p1), .val (.int p2), .val (.int p3)] [(.int p1), (.int p1), (.ref s0), (.ref b00), (.ref b00)]) t := by
        intro t k
        show own_S p e below T00 (mkF m 7 #[.val (.ref s0), .val (.int p1), .val (.int p2), .val (.int p3)] [(.int p1), (.int p1), (.ref s0), (.ref b00), (.ref b00)]) _
        refine XS.ifYes X00.here hx rfl (pc0 := 7) (pc' := 14) rfl (hb hby d9_7) rfl ((if0 _ _).trans (teq hc7).1) (by decide) (by decide) ?_
        show own_S p e below T00 (mkF m 14 #[.val (.ref s0), .val (.int p1), .val (.int p2), .val (.int p3)] [(.int p1), (.ref s0), (.ref b00), (.ref b00)]) _
        refine XS.iconst X00.here hx rfl (hb hby d9_14) ?_
        exact k
      rw [hr6_s0]
      exact fun t k => (sg7 t (sg15 t k))
    · rw [if_neg hc7] at hr6_s0
      have sg15 : ∀ t, own_S p e below T00 (mkF m 15 #[.val (.ref s0), .val (.int p1), .val (.int p2), .val (.int p3)] [(.int (0 : Int32)), (.int p1), (.ref s0), (.ref b00), (.ref b00)]) t → own_S p e below T00 (mkF m 7 #[.val (.ref s0), .val (.int p1), .val (.int p2), .val (.int p3)] [(.int p1), (.int p1), (.ref s0), (.ref b00), (.ref b00)]) t := by
        intro t k
        show own_S p e below T00 (mkF m 7 #[.val (.ref s0), .val (.int p1), .val (.int p2), .val (.int p3)] [(.int p1), (.int p1), (.ref s0), (.ref b00), (.ref b00)]) _
        refine XS.ifNo X00.here hx rfl (hb hby d9_7) rfl ((if0 _ _).trans (feq hc7).1) ?_
        show own_S p e below T00 (mkF m 10 #[.val (.ref s0), .val (.int p1), .val (.int p2), .val (.int p3)] [(.int p1), (.ref s0), (.ref b00), (.ref b00)]) _
        refine XS.iconst X00.here hx rfl (hb hby d9_10) ?_
        show own_S p e below T00 (mkF m 11 #[.val (.ref s0), .val (.int p1), .val (.int p2), .val (.int p3)] [(.int (0 : Int32)), (.int p1), (.ref s0), (.ref b00), (.ref b00)]) _
        refine XS.goto X00.here hx rfl (pc0 := 11) (pc' := 15) rfl (hb hby d9_11) (by decide) (by decide) ?_
        exact k
      rw [hr6_s0]
      exact fun t k => (sg7 t (sg15 t k))
  refine own_by str6 ?_
  obtain ⟨r15_s0, hr15_s0⟩ : ∃ z : Int32, z = (if p2 = (0 : Int32) then (0 : Int32) else (if p1 = (0 : Int32) then (1 : Int32) else (0 : Int32))) := ⟨_, rfl⟩
  have str15 : ∀ t, own_S p e below T00 (mkF m 28 #[.val (.ref s0), .val (.int p1), .val (.int p2), .val (.int p3)] [(.int r15_s0), (.int r6_s0), (.int p1), (.ref s0), (.ref b00), (.ref b00)]) t → own_S p e below T00 (mkF m 15 #[.val (.ref s0), .val (.int p1), .val (.int p2), .val (.int p3)] [(.int r6_s0), (.int p1), (.ref s0), (.ref b00), (.ref b00)]) t := by
    have sg16 : ∀ t, own_S p e below T00 (mkF m 16 #[.val (.ref s0), .val (.int p1), .val (.int p2), .val (.int p3)] [(.int p2), (.int r6_s0), (.int p1), (.ref s0), (.ref b00), (.ref b00)]) t → own_S p e below T00 (mkF m 15 #[.val (.ref s0), .val (.int p1), .val (.int p2), .val (.int p3)] [(.int r6_s0), (.int p1), (.ref s0), (.ref b00), (.ref b00)]) t := by
      intro t k
      show own_S p e below T00 (mkF m 15 #[.val (.ref s0), .val (.int p1), .val (.int p2), .val (.int p3)] [(.int r6_s0), (.int p1), (.ref s0), (.ref b00), (.ref b00)]) _
      refine XS.iloadN X00.here hx rfl (hb hby d9_15) rfl ?_
      exact k
    by_cases hc16 : p2 = (0 : Int32)
    · rw [if_pos hc16] at hr15_s0
      have sg28 : ∀ t, own_S p e below T00 (mkF m 28 #[.val (.ref s0), .val (.int p1), .val (.int p2), .val (.int p3)] [(.int (0 : Int32)), (.int r6_s0), (.int p1), (.ref s0), (.ref b00), (.ref b00)]) t → own_S p e below T00 (mkF m 16 #[.val (.ref s0), .val (.int p1), .val (.int p2), .val (.int p3)] [(.int p2), (.int r6_s0), (.int p1), (.ref s0), (.ref b00), (.ref b00)]) t := by
        intro t k
        show own_S p e below T00 (mkF m 16 #[.val (.ref s0), .val (.int p1), .val (.int p2), .val (.int p3)] [(.int p2), (.int r6_s0), (.int p1), (.ref s0), (.ref b00), (.ref b00)]) _
        refine XS.ifYes X00.here hx rfl (pc0 := 16) (pc' := 27) rfl (hb hby d9_16) rfl ((if0 _ _).trans (teq hc16).1) (by decide) (by decide) ?_
        show own_S p e below T00 (mkF m 27 #[.val (.ref s0), .val (.int p1), .val (.int p2), .val (.int p3)] [(.int r6_s0), (.int p1), (.ref s0), (.ref b00), (.ref b00)]) _
        refine XS.iconst X00.here hx rfl (hb hby d9_27) ?_
        exact k
      rw [hr15_s0]
      exact fun t k => (sg16 t (sg28 t k))
    · rw [if_neg hc16] at hr15_s0
      have sg20 : ∀ t, own_S p e below T00 (mkF m 20 #[.val (.ref s0), .val (.int p1), .val (.int p2), .val (.int p3)] [(.int p1), (.int r6_s0), (.int p1), (.ref s0), (.ref b00), (.ref b00)]) t → own_S p e below T00 (mkF m 16 #[.val (.ref s0), .val (.int p1), .val (.int p2), .val (.int p3)] [(.int p2), (.int r6_s0), (.int p1), (.ref s0), (.ref b00), (.ref b00)]) t := by
        intro t k
        show own_S p e below T00 (mkF m 16 #[.val (.ref s0), .val (.int p1), .val (.int p2), .val (.int p3)] [(.int p2), (.int r6_s0), (.int p1), (.ref s0), (.ref b00), (.ref b00)]) _
        refine XS.ifNo X00.here hx rfl (hb hby d9_16) rfl ((if0 _ _).trans (feq hc16).1) ?_
        show own_S p e below T00 (mkF m 19 #[.val (.ref s0), .val (.int p1), .val (.int p2), .val (.int p3)] [(.int r6_s0), (.int p1), (.ref s0), (.ref b00), (.ref b00)]) _
        refine XS.iloadN X00.here hx rfl (hb hby d9_19) rfl ?_
        exact k
      by_cases hc20 : p1 = (0 : Int32)
      · rw [if_pos hc20] at hr15_s0
        have sg28 : ∀ t, own_S p e below T00 (mkF m 28 #[.val (.ref s0), .val (.int p1), .val (.int p2), .val (.int p3)] [(.int (1 : Int32)), (.int r6_s0), (.int p1), (.ref s0), (.ref b00), (.ref b00)]) t → own_S p e below T00 (mkF m 20 #[.val (.ref s0), .val (.int p1), .val (.int p2), .val (.int p3)] [(.int p1), (.int r6_s0), (.int p1), (.ref s0), (.ref b00), (.ref b00)]) t := by
          intro t k
          show own_S p e below T00 (mkF m 20 #[.val (.ref s0), .val (.int p1), .val (.int p2), .val (.int p3)] [(.int p1), (.int r6_s0), (.int p1), (.ref s0), (.ref b00), (.ref b00)]) _
          refine XS.ifNo X00.here hx rfl (hb hby d9_20) rfl ((if0 _ _).trans (teq hc20).2) ?_
          show own_S p e below T00 (mkF m 23 #[.val (.ref s0), .val (.int p1), .val (.int p2), .val (.int p3)] [(.int r6_s0), (.int p1), (.ref s0), (.ref b00), (.ref b00)]) _
          refine XS.iconst X00.here hx rfl (hb hby d9_23) ?_
          show own_S p e below T00 (mkF m 24 #[.val (.ref s0), .val (.int p1), .val (.int p2), .val (.int p3)] [(.int (1 : Int32)), (.int r6_s0), (.int p1), (.ref s0), (.ref b00), (.ref b00)]) _
          refine XS.goto X00.here hx rfl (pc0 := 24) (pc' := 28) rfl (hb hby d9_24) (by decide) (by decide) ?_
          exact k
        rw [hr15_s0]
        exact fun t k => (sg16 t (sg20 t (sg28 t k)))
      · rw [if_neg hc20] at hr15_s0
        have sg28 : ∀ t, own_S p e below T00 (mkF m 28 #[.val (.ref s0), .val (.int p1), .val (.int p2), .val (.int p3)] [(.int (0 : Int32)), (.int r6_s0), (.int p1), (.ref s0), (.ref b00), (.ref b00)]) t → own_S p e below T00 (mkF m 20 #[.val (.ref s0), .val (.int p1), .val (.int p2), .val (.int p3)] [(.int p1), (.int r6_s0), (.int p1), (.ref s0), (.ref b00), (.ref b00)]) t := by
          intro t k
          show own_S p e below T00 (mkF m 20 #[.val (.ref s0), .val (.int p1), .val (.int p2), .val (.int p3)] [(.int p1), (.int r6_s0), (.int p1), (.ref s0), (.ref b00), (.ref b00)]) _
          refine XS.ifYes X00.here hx rfl (pc0 := 20) (pc' := 27) rfl (hb hby d9_20) rfl ((if0 _ _).trans (feq hc20).2) (by decide) (by decide) ?_
          show own_S p e below T00 (mkF m 27 #[.val (.ref s0), .val (.int p1), .val (.int p2), .val (.int p3)] [(.int r6_s0), (.int p1), (.ref s0), (.ref b00), (.ref b00)]) _
          refine XS.iconst X00.here hx rfl (hb hby d9_27) ?_
          exact k
        rw [hr15_s0]
        exact fun t k => (sg16 t (sg20 t (sg28 t k)))
  refine own_by str15 ?_
  have sg29 : ∀ t, own_S p e below T00 (mkF m 29 #[.val (.ref s0), .val (.int p1), .val (.int p2), .val (.int p3)] [(.int p3), (.int r15_s0), (.int r6_s0), (.int p1), (.ref s0), (.ref b00), (.ref b00)]) t → own_S p e below T00 (mkF m 28 #[.val (.ref s0), .val (.int p1), .val (.int p2), .val (.int p3)] [(.int r15_s0), (.int r6_s0), (.int p1), (.ref s0), (.ref b00), (.ref b00)]) t := by
    intro t k
    show own_S p e below T00 (mkF m 28 #[.val (.ref s0), .val (.int p1), .val (.int p2), .val (.int p3)] [(.int r15_s0), (.int r6_s0), (.int p1), (.ref s0), (.ref b00), (.ref b00)]) _
    refine XS.iloadN X00.here hx rfl (hb hby d9_28) rfl ?_
    exact k
  refine own_by sg29 ?_
  have hb_r : r15_s0 = 0 ∨ r15_s0 = 1 := by rw [hr15_s0]; (repeat' split) <;> simp
  obtain ⟨_, _, ⟨T29, L29, k29, n29⟩, -, X29, ⟨Lc29, hQ29, l29, y29, z29⟩, st29⟩ := X00.specialBack hx (y := (⟨"com/example/last_mile/lastmile/store/EndpointTally", "<init>", "(Ljava/lang/String;ZIZZ)V"⟩ : MethodName)) rfl hown (mvT hZ (hw _ (List.mem_of_getElem? (i := 57) rfl))) (mvT hZ (hw _ (List.mem_of_getElem? (i := 35) rfl))) (mvT hZ (hw _ (List.mem_of_getElem? (i := 36) rfl))) (by decide) (backOf (W := 1) (rm7 l Z a0 hw [] b00 s0 p1 r6_s0 r15_s0 p3 h00 n0 Z00 A00 F_endpointId_b00 F_succeeded_b00 F_failures_b00 F_probeFailed_b00 F_gone_b00 g_b00 hb1 hb_r hb3) hZ (hw _ (List.mem_of_getElem? (i := 36) rfl)) (hw _ (List.mem_of_getElem? (i := 33) rfl)) (by decide) (by decide)) (g := (mkF m 29 #[.val (.ref s0), .val (.int p1), .val (.int p2), .val (.int p3)] [(.int p3), (.int r15_s0), (.int r6_s0), (.int p1), (.ref s0), (.ref b00), (.ref b00)])) rfl (by rw [hml]; rfl) (Steps.refl _) (a := b00) (argsL := [(.ref s0), (.int p1), (.int r6_s0), (.int r15_s0), (.int p3)]) (rest := [(.ref b00)]) (lenOf pd_9_0 rfl) rfl (by show 2 * 0 + _ ≤ _; exact Nat.le_of_eq rfl) (hb hby d9_29) (fun _ _ => ⟨rfl, e00, (by decide : 1 + 0 ≤ _), (by decide : 5 + 0 ≤ _)⟩)
  dsimp only [Pt.U, Pt.locs, Pt.cells, Pt.slots] at X29 l29 y29 z29 st29 hQ29
  subst l29 y29 z29
  obtain ⟨rfl, N29q, Kq29, Eq29, FendpointId_29, Fsucceeded_29, Ffailures_29, FprobeFailed_29, Fgone_29⟩ := hQ29
  have N29 := Fr.app N0 N29q
  have K29 : Keep h0 T29.heap [] := K00.trans Kq29 (fun x hx => by cases List.mem_singleton.mp hx; exact Or.inr sz_b00)
  have Z29 : n0 ≤ T29.heap.size := Nat.le_trans Z00 Kq29.1
  refine own_by (fun t k => st29.trans k) ?_
  obtain ⟨fs, hr, hrun, hended, hW, hsame⟩ := X29.leave (v := some (.ref b00)) (fun h => by rw [Bd.returns] at h; cases h)
  refine ⟨_, _, ?_, hrun, hended, _, _, rfl, ?_, ⟨_, rfl⟩, hW, hsame.mono (by decide) (by decide)⟩
  · show Steps p.tables e below (T29.setTop (mkF m 32 #[.val (.ref s0), .val (.int p1), .val (.int p2), .val (.int p3)] [(.ref b00)])) _
    jvm_step X29.here [X29.here.top, hx, (hb hby d9_32), X29.method', Bd.returns, Value.isRef, FieldType.isReference]
    first | (intro acts; rw [hr _ acts rfl rfl rfl]) | rw [hr _ _ rfl rfl rfl]
    exact Steps.refl _
  · show Q9 Z s0 p1 p2 p3 h0 n0 _ T29.heap _
    exact ⟨b00, rfl, sz_b00, N29, K29, Eq29, FendpointId_29, Fsucceeded_29, (by rw [← hr6_s0]; exact Ffailures_29), (by rw [← hr15_s0]; exact FprobeFailed_29), Fgone_29⟩
theorem d12_0 : decode prog_44_method_7_code 0 = .ok (.aload_n 0, 1) := by decide +kernel
theorem d12_1 : decode prog_44_method_7_code 1 = .ok (.getfield 7, 3) := by decide +kernel
theorem d12_4 : decode prog_44_method_7_code 4 = .ok (.areturn, 1) := by decide +kernel
theorem pn_12 : plainFor (⟨"com/example/last_mile/lastmile/store/EndpointTally", "endpointId", "()Ljava/lang/String;"⟩ : MethodName) = true := by first | exact plainFor_of_name (by first | (simp [plainName, overriddenIn]; done) | decide +kernel) | decide +kernel | exact Jvm.Free.JP.mathPlain rfl (by decide +kernel)
theorem ef_12 (m : MethodId) (a1 : Addr) : entryFrame m #[(.ref a1)] 1 = mkF m 0 #[.val (.ref a1)] [] := by first | (simp [entryFrame, mkF, argsToLocals, Value.category]; done) | rfl
def Q12 (Z : State) (a1 : Addr) (z : Addr) (h0 : Heap) (n0 : Nat) (v : Option Value) (h : Heap) (L : List Loc) : Prop := v = some (.ref z) ∧ Fr n0 L ∧ h = h0
set_option maxRecDepth 65536 in
set_option maxHeartbeats 40000000 in
theorem rm12 (l : Launch) (Z : State) (a0 : Array Value) (hw : ∀ d ∈ tables_1, d.before a0 Z = true) (ws : List Jvm.Cond) (a1 : Addr) (z : Addr) (h0 : Heap) (n0 : Nat) (Z0 : n0 ≤ h0.size) (F : Fld Z h0 a1 "com/example/last_mile/lastmile/store/EndpointTally" "endpointId" "Ljava/lang/String;" (.ref z)) :
    MetFree l (⟨"com/example/last_mile/lastmile/store/EndpointTally", "endpointId", "()Ljava/lang/String;"⟩ : MethodName) (head1 (Jvm.Cond.code (⟨"com/example/last_mile/lastmile/store/EndpointTally", "endpointId", "()Ljava/lang/String;"⟩ : MethodName) prog_44_method_7_code 1 (some (.object "java/lang/String")) :: ws) ({ frames := 0, cells := 0, slots := 0, locals := 0 } : Room)) (fun a U => a = #[(.ref a1)] ∧ Z.Warmed39 U.vm ∧ U.heap = h0) (fun _ _ _ _ _ => True) (fun _ U o U' => ∃ v L, o = .returned v ∧ Q12 Z a1 z h0 n0 v U'.heap L ∧ FrameEnd U o U' L ({ frames := 0, cells := 0, slots := 0, locals := 0 } : Room).cells ({ frames := 0, cells := 0, slots := 0, locals := 0 } : Room).slots) := by
  refine MetFree.of_bodySF pn_12 hisR ?_
  intro p e s m args below meth c s₁ Bd hml0 hP hK
  obtain ⟨rfl, hZ, hh⟩ := hP
  have hx := Bd.exec
  have hby := Bd.bytes
  have hml : c.maxLocals = 1 := hml0
  have hown : s.vm.findClass "com/example/last_mile/lastmile/store/EndpointTally" = some m.cls := findClass_of_methodNamed Bd.named
  have hnm := (name_of_methodNamed Bd.named Bd.method).1
  have X0 : Stand p l e ({ frames := 0, cells := 0, slots := 0, locals := 0 } : Room) s m #[(.ref a1)] below meth c s₁ [] 0 0 := Stand.of_body Bd
  have e0 : s₁.heap = h0 := by rw [← hh, Bd.state]; rfl
  have N0 := Fr.nil n0
  refine own_at (castTop (ef_12 m a1)) ?_
  have sg1 : ∀ t, own_S p e below s₁ (mkF m 1 #[.val (.ref a1)] [(.ref a1)]) t → own_S p e below s₁ (mkF m 0 #[.val (.ref a1)] []) t := by
    intro t k
    show own_S p e below s₁ (mkF m 0 #[.val (.ref a1)] []) _
    refine XS.aloadN X0.here hx rfl (hb hby d12_0) rfl rfl ?_
    exact k
  refine own_by sg1 ?_
  obtain ⟨T1, X1, e1, st1⟩ := getF X0 hx hZ hown (host := "") (Or.inl (hw _ (List.mem_of_getElem? (i := 43) rfl))) Via.refl e0 F (g := (mkF m 1 #[.val (.ref a1)] [(.ref a1)])) rfl rfl (hb hby d12_1)
  refine own_by st1 ?_
  obtain ⟨fs, hr, hrun, hended, hW, hsame⟩ := X1.leave (v := some (.ref z)) (fun h => by rw [Bd.returns] at h; cases h)
  refine ⟨_, _, ?_, hrun, hended, _, _, rfl, ?_, ⟨_, rfl⟩, hW, hsame.mono (by decide) (by decide)⟩
  · show Steps p.tables e below (T1.setTop (mkF m 4 #[.val (.ref a1)] [(.ref z)])) _
    jvm_step X1.here [X1.here.top, hx, (hb hby d12_4), X1.method', Bd.returns, Value.isRef, FieldType.isReference]
    first | (intro acts; rw [hr _ acts rfl rfl rfl]) | rw [hr _ _ rfl rfl rfl]
    exact Steps.refl _
  · show Q12 Z a1 z h0 n0 _ T1.heap _
    rw [e1]
    exact ⟨rfl, N0, rfl⟩
theorem d14_0 : decode prog_44_method_8_code 0 = .ok (.aload_n 0, 1) := by decide +kernel
theorem d14_1 : decode prog_44_method_8_code 1 = .ok (.getfield 13, 3) := by decide +kernel
theorem d14_4 : decode prog_44_method_8_code 4 = .ok (.ireturn, 1) := by decide +kernel
theorem pn_14 : plainFor (⟨"com/example/last_mile/lastmile/store/EndpointTally", "succeeded", "()Z"⟩ : MethodName) = true := by first | exact plainFor_of_name (by first | (simp [plainName, overriddenIn]; done) | decide +kernel) | decide +kernel | exact Jvm.Free.JP.mathPlain rfl (by decide +kernel)
theorem ef_14 (m : MethodId) (a1 : Addr) : entryFrame m #[(.ref a1)] 1 = mkF m 0 #[.val (.ref a1)] [] := by first | (simp [entryFrame, mkF, argsToLocals, Value.category]; done) | rfl
def Q14 (Z : State) (a1 : Addr) (z : Int32) (h0 : Heap) (n0 : Nat) (v : Option Value) (h : Heap) (L : List Loc) : Prop := v = some (.int z) ∧ Fr n0 L ∧ h = h0
set_option maxRecDepth 65536 in
set_option maxHeartbeats 40000000 in
theorem rm14 (l : Launch) (Z : State) (a0 : Array Value) (hw : ∀ d ∈ tables_1, d.before a0 Z = true) (ws : List Jvm.Cond) (a1 : Addr) (z : Int32) (h0 : Heap) (n0 : Nat) (Z0 : n0 ≤ h0.size) (F : Fld Z h0 a1 "com/example/last_mile/lastmile/store/EndpointTally" "succeeded" "Z" (.int z)) (hz : z = 0 ∨ z = 1) :
    MetFree l (⟨"com/example/last_mile/lastmile/store/EndpointTally", "succeeded", "()Z"⟩ : MethodName) (head1 (Jvm.Cond.code (⟨"com/example/last_mile/lastmile/store/EndpointTally", "succeeded", "()Z"⟩ : MethodName) prog_44_method_8_code 1 (some .boolean) :: ws) ({ frames := 0, cells := 0, slots := 0, locals := 0 } : Room)) (fun a U => a = #[(.ref a1)] ∧ Z.Warmed39 U.vm ∧ U.heap = h0) (fun _ _ _ _ _ => True) (fun _ U o U' => ∃ v L, o = .returned v ∧ Q14 Z a1 z h0 n0 v U'.heap L ∧ FrameEnd U o U' L ({ frames := 0, cells := 0, slots := 0, locals := 0 } : Room).cells ({ frames := 0, cells := 0, slots := 0, locals := 0 } : Room).slots) := by
  refine MetFree.of_bodySF pn_14 hisR ?_
  intro p e s m args below meth c s₁ Bd hml0 hP hK
  obtain ⟨rfl, hZ, hh⟩ := hP
  have hx := Bd.exec
  have hby := Bd.bytes
  have hml : c.maxLocals = 1 := hml0
  have hown : s.vm.findClass "com/example/last_mile/lastmile/store/EndpointTally" = some m.cls := findClass_of_methodNamed Bd.named
  have hnm := (name_of_methodNamed Bd.named Bd.method).1
  have X0 : Stand p l e ({ frames := 0, cells := 0, slots := 0, locals := 0 } : Room) s m #[(.ref a1)] below meth c s₁ [] 0 0 := Stand.of_body Bd
  have e0 : s₁.heap = h0 := by rw [← hh, Bd.state]; rfl
  have N0 := Fr.nil n0
  refine own_at (castTop (ef_14 m a1)) ?_
  have sg1 : ∀ t, own_S p e below s₁ (mkF m 1 #[.val (.ref a1)] [(.ref a1)]) t → own_S p e below s₁ (mkF m 0 #[.val (.ref a1)] []) t := by
    intro t k
    show own_S p e below s₁ (mkF m 0 #[.val (.ref a1)] []) _
    refine XS.aloadN X0.here hx rfl (hb hby d14_0) rfl rfl ?_
    exact k
  refine own_by sg1 ?_
  obtain ⟨T1, X1, e1, st1⟩ := getF X0 hx hZ hown (host := "") (Or.inl (hw _ (List.mem_of_getElem? (i := 45) rfl))) Via.refl e0 F (g := (mkF m 1 #[.val (.ref a1)] [(.ref a1)])) rfl rfl (hb hby d14_1)
  refine own_by st1 ?_
  obtain ⟨fs, hr, hrun, hended, hW, hsame⟩ := X1.leave (v := some (.int z)) (fun h => by rw [Bd.returns] at h; cases h)
  refine ⟨_, _, ?_, hrun, hended, _, _, rfl, ?_, ⟨_, rfl⟩, hW, hsame.mono (by decide) (by decide)⟩
  · exact retN X1 hx (t := .boolean) Bd.returns (by simp) (hb hby d14_4) (by rw [own_nb hz]; exact hr)
  · show Q14 Z a1 z h0 n0 _ T1.heap _
    rw [e1]
    exact ⟨rfl, N0, rfl⟩
theorem d15_0 : decode prog_44_method_9_code 0 = .ok (.aload_n 0, 1) := by decide +kernel
theorem d15_1 : decode prog_44_method_9_code 1 = .ok (.getfield 17, 3) := by decide +kernel
theorem d15_4 : decode prog_44_method_9_code 4 = .ok (.ireturn, 1) := by decide +kernel
theorem pn_15 : plainFor (⟨"com/example/last_mile/lastmile/store/EndpointTally", "failures", "()I"⟩ : MethodName) = true := by first | exact plainFor_of_name (by first | (simp [plainName, overriddenIn]; done) | decide +kernel) | decide +kernel | exact Jvm.Free.JP.mathPlain rfl (by decide +kernel)
theorem ef_15 (m : MethodId) (a1 : Addr) : entryFrame m #[(.ref a1)] 1 = mkF m 0 #[.val (.ref a1)] [] := by first | (simp [entryFrame, mkF, argsToLocals, Value.category]; done) | rfl
def Q15 (Z : State) (a1 : Addr) (z : Int32) (h0 : Heap) (n0 : Nat) (v : Option Value) (h : Heap) (L : List Loc) : Prop := v = some (.int z) ∧ Fr n0 L ∧ h = h0
set_option maxRecDepth 65536 in
set_option maxHeartbeats 40000000 in
theorem rm15 (l : Launch) (Z : State) (a0 : Array Value) (hw : ∀ d ∈ tables_1, d.before a0 Z = true) (ws : List Jvm.Cond) (a1 : Addr) (z : Int32) (h0 : Heap) (n0 : Nat) (Z0 : n0 ≤ h0.size) (F : Fld Z h0 a1 "com/example/last_mile/lastmile/store/EndpointTally" "failures" "I" (.int z)) :
    MetFree l (⟨"com/example/last_mile/lastmile/store/EndpointTally", "failures", "()I"⟩ : MethodName) (head1 (Jvm.Cond.code (⟨"com/example/last_mile/lastmile/store/EndpointTally", "failures", "()I"⟩ : MethodName) prog_44_method_9_code 1 (some .int) :: ws) ({ frames := 0, cells := 0, slots := 0, locals := 0 } : Room)) (fun a U => a = #[(.ref a1)] ∧ Z.Warmed39 U.vm ∧ U.heap = h0) (fun _ _ _ _ _ => True) (fun _ U o U' => ∃ v L, o = .returned v ∧ Q15 Z a1 z h0 n0 v U'.heap L ∧ FrameEnd U o U' L ({ frames := 0, cells := 0, slots := 0, locals := 0 } : Room).cells ({ frames := 0, cells := 0, slots := 0, locals := 0 } : Room).slots) := by
  refine MetFree.of_bodySF pn_15 hisR ?_
  intro p e s m args below meth c s₁ Bd hml0 hP hK
  obtain ⟨rfl, hZ, hh⟩ := hP
  have hx := Bd.exec
  have hby := Bd.bytes
  have hml : c.maxLocals = 1 := hml0
  have hown : s.vm.findClass "com/example/last_mile/lastmile/store/EndpointTally" = some m.cls := findClass_of_methodNamed Bd.named
  have hnm := (name_of_methodNamed Bd.named Bd.method).1
  have X0 : Stand p l e ({ frames := 0, cells := 0, slots := 0, locals := 0 } : Room) s m #[(.ref a1)] below meth c s₁ [] 0 0 := Stand.of_body Bd
  have e0 : s₁.heap = h0 := by rw [← hh, Bd.state]; rfl
  have N0 := Fr.nil n0
  refine own_at (castTop (ef_15 m a1)) ?_
  have sg1 : ∀ t, own_S p e below s₁ (mkF m 1 #[.val (.ref a1)] [(.ref a1)]) t → own_S p e below s₁ (mkF m 0 #[.val (.ref a1)] []) t := by
    intro t k
    show own_S p e below s₁ (mkF m 0 #[.val (.ref a1)] []) _
    refine XS.aloadN X0.here hx rfl (hb hby d15_0) rfl rfl ?_
    exact k
  refine own_by sg1 ?_
  obtain ⟨T1, X1, e1, st1⟩ := getF X0 hx hZ hown (host := "") (Or.inl (hw _ (List.mem_of_getElem? (i := 47) rfl))) Via.refl e0 F (g := (mkF m 1 #[.val (.ref a1)] [(.ref a1)])) rfl rfl (hb hby d15_1)
  refine own_by st1 ?_
  obtain ⟨fs, hr, hrun, hended, hW, hsame⟩ := X1.leave (v := some (.int z)) (fun h => by rw [Bd.returns] at h; cases h)
  refine ⟨_, _, ?_, hrun, hended, _, _, rfl, ?_, ⟨_, rfl⟩, hW, hsame.mono (by decide) (by decide)⟩
  · exact retI X1 hx Bd.returns (hb hby d15_4) hr
  · show Q15 Z a1 z h0 n0 _ T1.heap _
    rw [e1]
    exact ⟨rfl, N0, rfl⟩
theorem d16_0 : decode prog_44_method_10_code 0 = .ok (.aload_n 0, 1) := by decide +kernel
theorem d16_1 : decode prog_44_method_10_code 1 = .ok (.getfield 21, 3) := by decide +kernel
theorem d16_4 : decode prog_44_method_10_code 4 = .ok (.ireturn, 1) := by decide +kernel
theorem pn_16 : plainFor (⟨"com/example/last_mile/lastmile/store/EndpointTally", "probeFailed", "()Z"⟩ : MethodName) = true := by first | exact plainFor_of_name (by first | (simp [plainName, overriddenIn]; done) | decide +kernel) | decide +kernel | exact Jvm.Free.JP.mathPlain rfl (by decide +kernel)
theorem ef_16 (m : MethodId) (a1 : Addr) : entryFrame m #[(.ref a1)] 1 = mkF m 0 #[.val (.ref a1)] [] := by first | (simp [entryFrame, mkF, argsToLocals, Value.category]; done) | rfl
def Q16 (Z : State) (a1 : Addr) (z : Int32) (h0 : Heap) (n0 : Nat) (v : Option Value) (h : Heap) (L : List Loc) : Prop := v = some (.int z) ∧ Fr n0 L ∧ h = h0
set_option maxRecDepth 65536 in
set_option maxHeartbeats 40000000 in
theorem rm16 (l : Launch) (Z : State) (a0 : Array Value) (hw : ∀ d ∈ tables_1, d.before a0 Z = true) (ws : List Jvm.Cond) (a1 : Addr) (z : Int32) (h0 : Heap) (n0 : Nat) (Z0 : n0 ≤ h0.size) (F : Fld Z h0 a1 "com/example/last_mile/lastmile/store/EndpointTally" "probeFailed" "Z" (.int z)) (hz : z = 0 ∨ z = 1) :
    MetFree l (⟨"com/example/last_mile/lastmile/store/EndpointTally", "probeFailed", "()Z"⟩ : MethodName) (head1 (Jvm.Cond.code (⟨"com/example/last_mile/lastmile/store/EndpointTally", "probeFailed", "()Z"⟩ : MethodName) prog_44_method_10_code 1 (some .boolean) :: ws) ({ frames := 0, cells := 0, slots := 0, locals := 0 } : Room)) (fun a U => a = #[(.ref a1)] ∧ Z.Warmed39 U.vm ∧ U.heap = h0) (fun _ _ _ _ _ => True) (fun _ U o U' => ∃ v L, o = .returned v ∧ Q16 Z a1 z h0 n0 v U'.heap L ∧ FrameEnd U o U' L ({ frames := 0, cells := 0, slots := 0, locals := 0 } : Room).cells ({ frames := 0, cells := 0, slots := 0, locals := 0 } : Room).slots) := by
  refine MetFree.of_bodySF pn_16 hisR ?_
  intro p e s m args below meth c s₁ Bd hml0 hP hK
  obtain ⟨rfl, hZ, hh⟩ := hP
  have hx := Bd.exec
  have hby := Bd.bytes
  have hml : c.maxLocals = 1 := hml0
  have hown : s.vm.findClass "com/example/last_mile/lastmile/store/EndpointTally" = some m.cls := findClass_of_methodNamed Bd.named
  have hnm := (name_of_methodNamed Bd.named Bd.method).1
  have X0 : Stand p l e ({ frames := 0, cells := 0, slots := 0, locals := 0 } : Room) s m #[(.ref a1)] below meth c s₁ [] 0 0 := Stand.of_body Bd
  have e0 : s₁.heap = h0 := by rw [← hh, Bd.state]; rfl
  have N0 := Fr.nil n0
  refine own_at (castTop (ef_16 m a1)) ?_
  have sg1 : ∀ t, own_S p e below s₁ (mkF m 1 #[.val (.ref a1)] [(.ref a1)]) t → own_S p e below s₁ (mkF m 0 #[.val (.ref a1)] []) t := by
    intro t k
    show own_S p e below s₁ (mkF m 0 #[.val (.ref a1)] []) _
    refine XS.aloadN X0.here hx rfl (hb hby d16_0) rfl rfl ?_
    exact k
  refine own_by sg1 ?_
  obtain ⟨T1, X1, e1, st1⟩ := getF X0 hx hZ hown (host := "") (Or.inl (hw _ (List.mem_of_getElem? (i := 49) rfl))) Via.refl e0 F (g := (mkF m 1 #[.val (.ref a1)] [(.ref a1)])) rfl rfl (hb hby d16_1)
  refine own_by st1 ?_
  obtain ⟨fs, hr, hrun, hended, hW, hsame⟩ := X1.leave (v := some (.int z)) (fun h => by rw [Bd.returns] at h; cases h)
  refine ⟨_, _, ?_, hrun, hended, _, _, rfl, ?_, ⟨_, rfl⟩, hW, hsame.mono (by decide) (by decide)⟩
  · exact retN X1 hx (t := .boolean) Bd.returns (by simp) (hb hby d16_4) (by rw [own_nb hz]; exact hr)
  · show Q16 Z a1 z h0 n0 _ T1.heap _
    rw [e1]
    exact ⟨rfl, N0, rfl⟩
theorem d17_0 : decode prog_44_method_11_code 0 = .ok (.aload_n 0, 1) := by decide +kernel
theorem d17_1 : decode prog_44_method_11_code 1 = .ok (.getfield 24, 3) := by decide +kernel
theorem d17_4 : decode prog_44_method_11_code 4 = .ok (.ireturn, 1) := by decide +kernel
theorem pn_17 : plainFor (⟨"com/example/last_mile/lastmile/store/EndpointTally", "gone", "()Z"⟩ : MethodName) = true := by first | exact plainFor_of_name (by first | (simp [plainName, overriddenIn]; done) | decide +kernel) | decide +kernel | exact Jvm.Free.JP.mathPlain rfl (by decide +kernel)
theorem ef_17 (m : MethodId) (a1 : Addr) : entryFrame m #[(.ref a1)] 1 = mkF m 0 #[.val (.ref a1)] [] := by first | (simp [entryFrame, mkF, argsToLocals, Value.category]; done) | rfl
def Q17 (Z : State) (a1 : Addr) (z : Int32) (h0 : Heap) (n0 : Nat) (v : Option Value) (h : Heap) (L : List Loc) : Prop := v = some (.int z) ∧ Fr n0 L ∧ h = h0
set_option maxRecDepth 65536 in
set_option maxHeartbeats 40000000 in
theorem rm17 (l : Launch) (Z : State) (a0 : Array Value) (hw : ∀ d ∈ tables_1, d.before a0 Z = true) (ws : List Jvm.Cond) (a1 : Addr) (z : Int32) (h0 : Heap) (n0 : Nat) (Z0 : n0 ≤ h0.size) (F : Fld Z h0 a1 "com/example/last_mile/lastmile/store/EndpointTally" "gone" "Z" (.int z)) (hz : z = 0 ∨ z = 1) :
    MetFree l (⟨"com/example/last_mile/lastmile/store/EndpointTally", "gone", "()Z"⟩ : MethodName) (head1 (Jvm.Cond.code (⟨"com/example/last_mile/lastmile/store/EndpointTally", "gone", "()Z"⟩ : MethodName) prog_44_method_11_code 1 (some .boolean) :: ws) ({ frames := 0, cells := 0, slots := 0, locals := 0 } : Room)) (fun a U => a = #[(.ref a1)] ∧ Z.Warmed39 U.vm ∧ U.heap = h0) (fun _ _ _ _ _ => True) (fun _ U o U' => ∃ v L, o = .returned v ∧ Q17 Z a1 z h0 n0 v U'.heap L ∧ FrameEnd U o U' L ({ frames := 0, cells := 0, slots := 0, locals := 0 } : Room).cells ({ frames := 0, cells := 0, slots := 0, locals := 0 } : Room).slots) := by
  refine MetFree.of_bodySF pn_17 hisR ?_
  intro p e s m args below meth c s₁ Bd hml0 hP hK
  obtain ⟨rfl, hZ, hh⟩ := hP
  have hx := Bd.exec
  have hby := Bd.bytes
  have hml : c.maxLocals = 1 := hml0
  have hown : s.vm.findClass "com/example/last_mile/lastmile/store/EndpointTally" = some m.cls := findClass_of_methodNamed Bd.named
  have hnm := (name_of_methodNamed Bd.named Bd.method).1
  have X0 : Stand p l e ({ frames := 0, cells := 0, slots := 0, locals := 0 } : Room) s m #[(.ref a1)] below meth c s₁ [] 0 0 := Stand.of_body Bd
  have e0 : s₁.heap = h0 := by rw [← hh, Bd.state]; rfl
  have N0 := Fr.nil n0
  refine own_at (castTop (ef_17 m a1)) ?_
  have sg1 : ∀ t, own_S p e below s₁ (mkF m 1 #[.val (.ref a1)] [(.ref a1)]) t → own_S p e below s₁ (mkF m 0 #[.val (.ref a1)] []) t := by
    intro t k
    show own_S p e below s₁ (mkF m 0 #[.val (.ref a1)] []) _
    refine XS.aloadN X0.here hx rfl (hb hby d17_0) rfl rfl ?_
    exact k
  refine own_by sg1 ?_
  obtain ⟨T1, X1, e1, st1⟩ := getF X0 hx hZ hown (host := "") (Or.inl (hw _ (List.mem_of_getElem? (i := 51) rfl))) Via.refl e0 F (g := (mkF m 1 #[.val (.ref a1)] [(.ref a1)])) rfl rfl (hb hby d17_1)
  refine own_by st1 ?_
  obtain ⟨fs, hr, hrun, hended, hW, hsame⟩ := X1.leave (v := some (.int z)) (fun h => by rw [Bd.returns] at h; cases h)
  refine ⟨_, _, ?_, hrun, hended, _, _, rfl, ?_, ⟨_, rfl⟩, hW, hsame.mono (by decide) (by decide)⟩
  · exact retN X1 hx (t := .boolean) Bd.returns (by simp) (hb hby d17_4) (by rw [own_nb hz]; exact hr)
  · show Q17 Z a1 z h0 n0 _ T1.heap _
    rw [e1]
    exact ⟨rfl, N0, rfl⟩
theorem d13_0 : decode jdk_42_method_66_code 0 = .ok (.aload_n 0, 1) := by decide +kernel
theorem d13_1 : decode jdk_42_method_66_code 1 = .ok (.aload_n 1, 1) := by decide +kernel
theorem d13_2 : decode jdk_42_method_66_code 2 = .ok (.if_acmp .ne 5, 3) := by decide +kernel
theorem d13_5 : decode jdk_42_method_66_code 5 = .ok (.iconst 1, 1) := by decide +kernel
theorem d13_6 : decode jdk_42_method_66_code 6 = .ok (.ireturn, 1) := by decide +kernel
theorem pn_13 : plainFor (⟨"java/lang/String", "equals", "(Ljava/lang/Object;)Z"⟩ : MethodName) = true := by first | exact plainFor_of_name (by first | (simp [plainName, overriddenIn]; done) | decide +kernel) | decide +kernel | exact Jvm.Free.JP.mathPlain rfl (by decide +kernel)
theorem ef_13 (m : MethodId) (a1 : Addr) : entryFrame m #[(.ref a1), (.ref a1)] 3 = mkF m 0 #[.val (.ref a1), .val (.ref a1), .unset] [] := by first | (simp [entryFrame, mkF, argsToLocals, Value.category]; done) | rfl
def Q13 (Z : State) (a1 : Addr) (h0 : Heap) (n0 : Nat) (v : Option Value) (h : Heap) (L : List Loc) : Prop := v = some (.int 1) ∧ Fr n0 L ∧ h = h0
set_option maxRecDepth 65536 in
set_option maxHeartbeats 40000000 in
theorem rm13 (l : Launch) (Z : State) (a0 : Array Value) (hw : ∀ d ∈ tables_1, d.before a0 Z = true) (ws : List Jvm.Cond) (a1 : Addr) (h0 : Heap) (n0 : Nat) (Z0 : n0 ≤ h0.size) :
    MetFree l (⟨"java/lang/String", "equals", "(Ljava/lang/Object;)Z"⟩ : MethodName) (head1 (Jvm.Cond.code (⟨"java/lang/String", "equals", "(Ljava/lang/Object;)Z"⟩ : MethodName) jdk_42_method_66_code 3 (some .boolean) :: ws) ({ frames := 0, cells := 0, slots := 0, locals := 0 } : Room)) (fun a U => a = #[(.ref a1), (.ref a1)] ∧ Z.Warmed39 U.vm ∧ U.heap = h0) (fun _ _ _ _ _ => True) (fun _ U o U' => ∃ v L, o = .returned v ∧ Q13 Z a1 h0 n0 v U'.heap L ∧ FrameEnd U o U' L ({ frames := 0, cells := 0, slots := 0, locals := 0 } : Room).cells ({ frames := 0, cells := 0, slots := 0, locals := 0 } : Room).slots) := by
  refine MetFree.of_bodySF pn_13 hisR ?_
  intro p e s m args below meth c s₁ Bd hml0 hP hK
  obtain ⟨rfl, hZ, hh⟩ := hP
  have hx := Bd.exec
  have hby := Bd.bytes
  have hml : c.maxLocals = 3 := hml0
  have hown : s.vm.findClass "java/lang/String" = some m.cls := findClass_of_methodNamed Bd.named
  have hnm := (name_of_methodNamed Bd.named Bd.method).1
  have X0 : Stand p l e ({ frames := 0, cells := 0, slots := 0, locals := 0 } : Room) s m #[(.ref a1), (.ref a1)] below meth c s₁ [] 0 0 := Stand.of_body Bd
  have e0 : s₁.heap = h0 := by rw [← hh, Bd.state]; rfl
  have N0 := Fr.nil n0
  refine own_at (castTop (ef_13 m a1)) ?_
  have sg6 : ∀ t, own_S p e below s₁ (mkF m 6 #[.val (.ref a1), .val (.ref a1), .unset] [(.int (1 : Int32))]) t → own_S p e below s₁ (mkF m 0 #[.val (.ref a1), .val (.ref a1), .unset] []) t := by
    intro t k
    show own_S p e below s₁ (mkF m 0 #[.val (.ref a1), .val (.ref a1), .unset] []) _
    refine XS.aloadN X0.here hx rfl (hb hby d13_0) rfl rfl ?_
    show own_S p e below s₁ (mkF m 1 #[.val (.ref a1), .val (.ref a1), .unset] [(.ref a1)]) _
    refine XS.aloadN X0.here hx rfl (hb hby d13_1) rfl rfl ?_
    show own_S p e below s₁ (mkF m 2 #[.val (.ref a1), .val (.ref a1), .unset] [(.ref a1), (.ref a1)]) _
    refine Jvm.RoadKit.acmp (g := (mkF m 2 #[.val (.ref a1), .val (.ref a1), .unset] [(.ref a1), (.ref a1)])) X0 hx rfl rfl rfl (pc0 := 2) (pc' := 5) (same := true) rfl (hb hby d13_2) rfl (decide_eq_true (congrArg Value.ref (rfl : a1 = a1))) (by decide) (by decide) ?_
    show own_S p e below s₁ (mkF m 5 #[.val (.ref a1), .val (.ref a1), .unset] []) _
    refine XS.iconst X0.here hx rfl (hb hby d13_5) ?_
    exact k
  refine own_by sg6 ?_
  obtain ⟨fs, hr, hrun, hended, hW, hsame⟩ := X0.leave (v := some (.int (1 : Int32))) (fun h => by rw [Bd.returns] at h; cases h)
  refine ⟨_, _, ?_, hrun, hended, _, _, rfl, ?_, ⟨_, rfl⟩, hW, hsame.mono (by decide) (by decide)⟩
  · exact retN X0 hx (t := .boolean) Bd.returns (by simp) (hb hby d13_6) hr
  · show Q13 Z a1 h0 n0 _ s₁.heap _
    rw [e0]
    exact ⟨rfl, N0, rfl⟩
theorem d10_0 : decode prog_44_method_3_code 0 = .ok (.new 8, 3) := by decide +kernel
theorem d10_3 : decode prog_44_method_3_code 3 = .ok (.dup, 1) := by decide +kernel
theorem d10_4 : decode prog_44_method_3_code 4 = .ok (.aload_n 0, 1) := by decide +kernel
theorem d10_5 : decode prog_44_method_3_code 5 = .ok (.getfield 7, 3) := by decide +kernel
theorem d10_8 : decode prog_44_method_3_code 8 = .ok (.aload_n 0, 1) := by decide +kernel
theorem d10_9 : decode prog_44_method_3_code 9 = .ok (.getfield 13, 3) := by decide +kernel
theorem d10_12 : decode prog_44_method_3_code 12 = .ok (.ifCond .ne 10, 3) := by decide +kernel
theorem d10_15 : decode prog_44_method_3_code 15 = .ok (.aload_n 1, 1) := by decide +kernel
theorem d10_16 : decode prog_44_method_3_code 16 = .ok (.getfield 13, 3) := by decide +kernel
theorem d10_19 : decode prog_44_method_3_code 19 = .ok (.ifCond .eq 7, 3) := by decide +kernel
theorem d10_22 : decode prog_44_method_3_code 22 = .ok (.iconst 1, 1) := by decide +kernel
theorem d10_23 : decode prog_44_method_3_code 23 = .ok (.goto 4, 3) := by decide +kernel
theorem d10_26 : decode prog_44_method_3_code 26 = .ok (.iconst 0, 1) := by decide +kernel
theorem d10_27 : decode prog_44_method_3_code 27 = .ok (.aload_n 1, 1) := by decide +kernel
theorem d10_28 : decode prog_44_method_3_code 28 = .ok (.getfield 13, 3) := by decide +kernel
theorem d10_31 : decode prog_44_method_3_code 31 = .ok (.ifCond .eq 10, 3) := by decide +kernel
theorem d10_34 : decode prog_44_method_3_code 34 = .ok (.aload_n 1, 1) := by decide +kernel
theorem d10_35 : decode prog_44_method_3_code 35 = .ok (.getfield 17, 3) := by decide +kernel
theorem d10_38 : decode prog_44_method_3_code 38 = .ok (.goto 12, 3) := by decide +kernel
theorem d10_41 : decode prog_44_method_3_code 41 = .ok (.aload_n 0, 1) := by decide +kernel
theorem d10_42 : decode prog_44_method_3_code 42 = .ok (.getfield 17, 3) := by decide +kernel
theorem d10_45 : decode prog_44_method_3_code 45 = .ok (.aload_n 1, 1) := by decide +kernel
theorem d10_46 : decode prog_44_method_3_code 46 = .ok (.getfield 17, 3) := by decide +kernel
theorem d10_49 : decode prog_44_method_3_code 49 = .ok (.iadd, 1) := by decide +kernel
theorem d10_50 : decode prog_44_method_3_code 50 = .ok (.aload_n 0, 1) := by decide +kernel
theorem d10_51 : decode prog_44_method_3_code 51 = .ok (.getfield 21, 3) := by decide +kernel
theorem d10_54 : decode prog_44_method_3_code 54 = .ok (.ifCond .ne 10, 3) := by decide +kernel
theorem d10_57 : decode prog_44_method_3_code 57 = .ok (.aload_n 1, 1) := by decide +kernel
theorem d10_58 : decode prog_44_method_3_code 58 = .ok (.getfield 21, 3) := by decide +kernel
theorem d10_61 : decode prog_44_method_3_code 61 = .ok (.ifCond .eq 7, 3) := by decide +kernel
theorem d10_64 : decode prog_44_method_3_code 64 = .ok (.iconst 1, 1) := by decide +kernel
theorem d10_65 : decode prog_44_method_3_code 65 = .ok (.goto 4, 3) := by decide +kernel
theorem d10_68 : decode prog_44_method_3_code 68 = .ok (.iconst 0, 1) := by decide +kernel
theorem d10_69 : decode prog_44_method_3_code 69 = .ok (.aload_n 0, 1) := by decide +kernel
theorem d10_70 : decode prog_44_method_3_code 70 = .ok (.getfield 24, 3) := by decide +kernel
theorem d10_73 : decode prog_44_method_3_code 73 = .ok (.ifCond .ne 10, 3) := by decide +kernel
theorem d10_76 : decode prog_44_method_3_code 76 = .ok (.aload_n 1, 1) := by decide +kernel
theorem d10_77 : decode prog_44_method_3_code 77 = .ok (.getfield 24, 3) := by decide +kernel
theorem d10_80 : decode prog_44_method_3_code 80 = .ok (.ifCond .eq 7, 3) := by decide +kernel
theorem d10_83 : decode prog_44_method_3_code 83 = .ok (.iconst 1, 1) := by decide +kernel
theorem d10_84 : decode prog_44_method_3_code 84 = .ok (.goto 4, 3) := by decide +kernel
theorem d10_87 : decode prog_44_method_3_code 87 = .ok (.iconst 0, 1) := by decide +kernel
theorem d10_88 : decode prog_44_method_3_code 88 = .ok (.invokespecial 27, 3) := by decide +kernel
theorem d10_91 : decode prog_44_method_3_code 91 = .ok (.areturn, 1) := by decide +kernel
theorem pn_10 : plainFor (⟨"com/example/last_mile/lastmile/store/EndpointTally", "then", "(Lcom/example/last_mile/lastmile/store/EndpointTally;)Lcom/example/last_mile/lastmile/store/EndpointTally;"⟩ : MethodName) = true := by first | exact plainFor_of_name (by first | (simp [plainName, overriddenIn]; done) | decide +kernel) | decide +kernel | exact Jvm.Free.JP.mathPlain rfl (by decide +kernel)
theorem pd_10_0 : parseMethodDescriptor "(Ljava/lang/String;ZIZZ)V" = some ⟨[(.object "java/lang/String"), .boolean, .int, .boolean, .boolean], none⟩ := by decide +kernel
theorem ef_10 (m : MethodId) (a1 : Addr) (a2 : Addr) : entryFrame m #[(.ref a1), (.ref a2)] 2 = mkF m 0 #[.val (.ref a1), .val (.ref a2)] [] := by first | (simp [entryFrame, mkF, argsToLocals, Value.category]; done) | rfl
def Q10 (Z : State) (a1 : Addr) (a2 : Addr) (s1 : Addr) (z1 : Int32) (f1 : Int32) (b1 : Int32) (g1 : Int32) (s2 : Addr) (z2 : Int32) (f2 : Int32) (b2 : Int32) (g2 : Int32) (h0 : Heap) (n0 : Nat) (v : Option Value) (h : Heap) (L : List Loc) : Prop := ∃ r, v = some (.ref r) ∧ h0.size ≤ r ∧ Fr n0 L ∧ Keep h0 h [] ∧ Exa Z h r "com/example/last_mile/lastmile/store/EndpointTally" ∧ Fld Z h r "com/example/last_mile/lastmile/store/EndpointTally" "endpointId" "Ljava/lang/String;" (.ref s1) ∧ Fld Z h r "com/example/last_mile/lastmile/store/EndpointTally" "succeeded" "Z" (.int (if z1 = (0 : Int32) then (if z2 = (0 : Int32) then (0 : Int32) else (1 : Int32)) else (1 : Int32))) ∧ Fld Z h r "com/example/last_mile/lastmile/store/EndpointTally" "failures" "I" (.int (if z2 = (0 : Int32) then (f1 + f2) else f2)) ∧ Fld Z h r "com/example/last_mile/lastmile/store/EndpointTally" "probeFailed" "Z" (.int (if b1 = (0 : Int32) then (if b2 = (0 : Int32) then (0 : Int32) else (1 : Int32)) else (1 : Int32))) ∧ Fld Z h r "com/example/last_mile/lastmile/store/EndpointTally" "gone" "Z" (.int (if g1 = (0 : Int32) then (if g2 = (0 : Int32) then (0 : Int32) else (1 : Int32)) else (1 : Int32)))
set_option maxRecDepth 65536 in
set_option maxHeartbeats 40000000 in
theorem rm10 (l : Launch) (Z : State) (a0 : Array Value) (hw : ∀ d ∈ tables_1, d.before a0 Z = true) (ws : List Jvm.Cond) (a1 : Addr) (a2 : Addr) (s1 : Addr) (z1 : Int32) (f1 : Int32) (b1 : Int32) (g1 : Int32) (s2 : Addr) (z2 : Int32) (f2 : Int32) (b2 : Int32) (g2 : Int32) (h0 : Heap) (n0 : Nat) (Z0 : n0 ≤ h0.size) (A_endpointId : Fld Z h0 a1 "com/example/last_mile/lastmile/store/EndpointTally" "endpointId" "Ljava/lang/String;" (.ref s1)) (A_succeeded : Fld Z h0 a1 "com/example/last_mile/lastmile/store/EndpointTally" "succeeded" "Z" (.int z1)) (A_failures : Fld Z h0 a1 "com/example/last_mile/lastmile/store/EndpointTally" "failures" "I" (.int f1)) (A_probeFailed : Fld Z h0 a1 "com/example/last_mile/lastmile/store/EndpointTally" "probeFailed" "Z" (.int b1)) (A_gone : Fld Z h0 a1 "com/example/last_mile/lastmile/store/EndpointTally" "gone" "Z" (.int g1)) (B_endpointId : Fld Z h0 a2 "com/example/last_mile/lastmile/store/EndpointTally" "endpointId" "Ljava/lang/String;" (.ref s2)) (B_succeeded : Fld Z h0 a2 "com/example/last_mile/lastmile/store/EndpointTally" "succeeded" "Z" (.int z2)) (B_failures : Fld Z h0 a2 "com/example/last_mile/lastmile/store/EndpointTally" "failures" "I" (.int f2)) (B_probeFailed : Fld Z h0 a2 "com/example/last_mile/lastmile/store/EndpointTally" "probeFailed" "Z" (.int b2)) (B_gone : Fld Z h0 a2 "com/example/last_mile/lastmile/store/EndpointTally" "gone" "Z" (.int g2)) :
    MetFree l (⟨"com/example/last_mile/lastmile/store/EndpointTally", "then", "(Lcom/example/last_mile/lastmile/store/EndpointTally;)Lcom/example/last_mile/lastmile/store/EndpointTally;"⟩ : MethodName) (head1 (Jvm.Cond.code (⟨"com/example/last_mile/lastmile/store/EndpointTally", "then", "(Lcom/example/last_mile/lastmile/store/EndpointTally;)Lcom/example/last_mile/lastmile/store/EndpointTally;"⟩ : MethodName) prog_44_method_3_code 2 (some (.object "com/example/last_mile/lastmile/store/EndpointTally")) :: ws) ({ frames := 3, cells := 1, slots := 5, locals := 42 } : Room)) (fun a U => a = #[(.ref a1), (.ref a2)] ∧ Z.Warmed39 U.vm ∧ U.heap = h0) (fun _ _ _ _ _ => True) (fun _ U o U' => ∃ v L, o = .returned v ∧ Q10 Z a1 a2 s1 z1 f1 b1 g1 s2 z2 f2 b2 g2 h0 n0 v U'.heap L ∧ FrameEnd U o U' L ({ frames := 3, cells := 1, slots := 5, locals := 42 } : Room).cells ({ frames := 3, cells := 1, slots := 5, locals := 42 } : Room).slots) := by
  refine MetFree.of_bodySF pn_10 hisR ?_
  intro p e s m args below meth c s₁ Bd hml0 hP hK
  obtain ⟨rfl, hZ, hh⟩ := hP
  have hx := Bd.exec
  have hby := Bd.bytes
  have hml : c.maxLocals = 2 := hml0
  have hown : s.vm.findClass "com/example/last_mile/lastmile/store/EndpointTally" = some m.cls := findClass_of_methodNamed Bd.named
  have hnm := (name_of_methodNamed Bd.named Bd.method).1
  have X0 : Stand p l e ({ frames := 3, cells := 1, slots := 5, locals := 42 } : Room) s m #[(.ref a1), (.ref a2)] below meth c s₁ [] 0 0 := Stand.of_body Bd
  have e0 : s₁.heap = h0 := by rw [← hh, Bd.state]; rfl
  have N0 := Fr.nil n0
  refine own_at (castTop (ef_10 m a1 a2)) ?_
  have K0 := Keep.refl h0 []
  obtain ⟨T00, h00, X00, e00, E00, A00, D00, -, st00⟩ := newO X0 hx hZ hown (hw _ (List.mem_of_getElem? (i := 56) rfl)) (hw _ (List.mem_of_getElem? (i := 32) rfl)) (hw _ (List.mem_of_getElem? (i := 33) rfl)) e0 (g := (mkF m 0 #[.val (.ref a1), .val (.ref a2)] [])) rfl (hb hby d10_0) (by decide) (by decide)
  obtain ⟨b00, g00⟩ : ∃ z, z = h0.size := ⟨_, rfl⟩
  rw [← g00] at A00 D00 st00
  have ne_a1_b00 : a1 ≠ b00 := Nat.ne_of_lt (Nat.lt_of_lt_of_le A_endpointId.lt (Nat.le_of_eq g00.symm))
  have ne_a2_b00 : a2 ≠ b00 := Nat.ne_of_lt (Nat.lt_of_lt_of_le B_endpointId.lt (Nat.le_of_eq g00.symm))
  have g_b00 : n0 ≤ b00 := Nat.le_trans Z0 (Nat.le_of_eq g00.symm)
  have sz_b00 : h0.size ≤ b00 := Nat.le_trans K0.1 (Nat.le_of_eq g00.symm)
  have K00 := K0.ext E00
  have Z00 : n0 ≤ h00.size := Nat.le_trans Z0 E00.1
  have F_endpointId_b00 : Fld Z h00 b00 "com/example/last_mile/lastmile/store/EndpointTally" "endpointId" "Ljava/lang/String;" .null := D00 (Or.inr (hw _ (List.mem_of_getElem? (i := 44) rfl))) (ty := (.object "java/lang/String")) (by decide)
  have F_succeeded_b00 : Fld Z h00 b00 "com/example/last_mile/lastmile/store/EndpointTally" "succeeded" "Z" (.int (0 : Int32)) := D00 (Or.inr (hw _ (List.mem_of_getElem? (i := 46) rfl))) (ty := .boolean) (by decide)
  have F_failures_b00 : Fld Z h00 b00 "com/example/last_mile/lastmile/store/EndpointTally" "failures" "I" (.int (0 : Int32)) := D00 (Or.inr (hw _ (List.mem_of_getElem? (i := 48) rfl))) (ty := .int) (by decide)
  have F_probeFailed_b00 : Fld Z h00 b00 "com/example/last_mile/lastmile/store/EndpointTally" "probeFailed" "Z" (.int (0 : Int32)) := D00 (Or.inr (hw _ (List.mem_of_getElem? (i := 50) rfl))) (ty := .boolean) (by decide)
  have F_gone_b00 : Fld Z h00 b00 "com/example/last_mile/lastmile/store/EndpointTally" "gone" "Z" (.int (0 : Int32)) := D00 (Or.inr (hw _ (List.mem_of_getElem? (i := 52) rfl))) (ty := .boolean) (by decide)
  refine own_by st00 ?_
  have sg5 : ∀ t, own_S p e below T00 (mkF m 5 #[.val (.ref a1), .val (.ref a2)] [(.ref a1), (.ref b00), (.ref b00)]) t → own_S p e below T00 (mkF m 3 #[.val (.ref a1), .val (.ref a2)] [(.ref b00)]) t := by
    intro t k
    show own_S p e below T00 (mkF m 3 #[.val (.ref a1), .val (.ref a2)] [(.ref b00)]) _
    refine XS.dup X00.here hx rfl (hb hby d10_3) rfl rfl ?_
    show own_S p e below T00 (mkF m 4 #[.val (.ref a1), .val (.ref a2)] [(.ref b00), (.ref b00)]) _
    refine XS.aloadN X00.here hx rfl (hb hby d10_4) rfl rfl ?_
    exact k
  refine own_by sg5 ?_
  obtain ⟨T5, X5, e5, st5⟩ := getF X00 hx hZ hown (host := "") (Or.inl (hw _ (List.mem_of_getElem? (i := 43) rfl))) Via.refl e00 (A_endpointId.ext E00) (g := (mkF m 5 #[.val (.ref a1), .val (.ref a2)] [(.ref a1), (.ref b00), (.ref b00)])) rfl rfl (hb hby d10_5)
  refine own_by st5 ?_
  obtain ⟨r8_s0, hr8_s0⟩ : ∃ z : Int32, z = (if z1 = (0 : Int32) then (if z2 = (0 : Int32) then (0 : Int32) else (1 : Int32)) else (1 : Int32)) := ⟨_, rfl⟩
  obtain ⟨Tr8, Lr8, Xr8, Nr8, er8, str8⟩ : ∃ T' L', Stand p l e ({ frames := 3, cells := 1, slots := 5, locals := 42 } : Room) s m #[(.ref a1), (.ref a2)] below meth c T' L' 1 5 ∧ Fr n0 L' ∧ T'.heap = h00 ∧ ∀ t, own_S p e below T' (mkF m 27 #[.val (.ref a1), .val (.ref a2)] [(.int r8_s0), (.ref s1), (.ref b00), (.ref b00)]) t → own_S p e below T5 (mkF m 8 #[.val (.ref a1), .val (.ref a2)] [(.ref s1), (.ref b00), (.ref b00)]) t := by
    have sg9 : ∀ t, own_S p e below T5 (mkF m 9 #[.val (.ref a1), .val (.ref a2)] [(.ref a1), (.ref s1), (.ref b00), (.ref b00)]) t → own_S p e below T5 (mkF m 8 #[.val (.ref a1), .val (.ref a2)] [(.ref s1), (.ref b00), (.ref b00)]) t := by
      intro t k
      show own_S p e below T5 (mkF m 8 #[.val (.ref a1), .val (.ref a2)] [(.ref s1), (.ref b00), (.ref b00)]) _
      refine XS.aloadN X5.here hx rfl (hb hby d10_8) rfl rfl ?_
      exact k
    obtain ⟨T9, X9, e9, st9⟩ := getF X5 hx hZ hown (host := "") (Or.inl (hw _ (List.mem_of_getElem? (i := 45) rfl))) Via.refl e5 (A_succeeded.ext E00) (g := (mkF m 9 #[.val (.ref a1), .val (.ref a2)] [(.ref a1), (.ref s1), (.ref b00), (.ref b00)])) rfl rfl (hb hby d10_9)
    by_cases hc12 : z1 = (0 : Int32)
    · rw [if_pos hc12] at hr8_s0
      have sg16 : ∀ t, own_S p e below T9 (mkF m 16 #[.val (.ref a1), .val (.ref a2)] [(.ref a2), (.ref s1), (.ref b00), (.ref b00)]) t → own_S p e below T9 (mkF m 12 #[.val (.ref a1), .val (.ref a2)] [(.int z1), (.ref s1), (.ref b00), (.ref b00)]) t := by
        intro t k
        show own_S p e below T9 (mkF m 12 #[.val (.ref a1), .val (.ref a2)] [(.int z1), (.ref s1), (.ref b00), (.ref b00)]) _
        refine XS.ifNo X9.here hx rfl (hb hby d10_12) rfl ((if0 _ _).trans (teq hc12).2) ?_
        show own_S p e below T9 (mkF m 15 #[.val (.ref a1), .val (.ref a2)] [(.ref s1), (.ref b00), (.ref b00)]) _
        refine XS.aloadN X9.here hx rfl (hb hby d10_15) rfl rfl ?_
        exact k
      obtain ⟨T16, X16, e16, st16⟩ := getF X9 hx hZ hown (host := "") (Or.inl (hw _ (List.mem_of_getElem? (i := 45) rfl))) Via.refl e9 (B_succeeded.ext E00) (g := (mkF m 16 #[.val (.ref a1), .val (.ref a2)] [(.ref a2), (.ref s1), (.ref b00), (.ref b00)])) rfl rfl (hb hby d10_16)
      by_cases hc19 : z2 = (0 : Int32)
      · rw [if_pos hc19] at hr8_s0
        have sg27 : ∀ t, own_S p e below T16 (mkF m 27 #[.val (.ref a1), .val (.ref a2)] [(.int (0 : Int32)), (.ref s1), (.ref b00), (.ref b00)]) t → own_S p e below T16 (mkF m 19 #[.val (.ref a1), .val (.ref a2)] [(.int z2), (.ref s1), (.ref b00), (.ref b00)]) t := by
          intro t k
          show own_S p e below T16 (mkF m 19 #[.val (.ref a1), .val (.ref a2)] [(.int z2), (.ref s1), (.ref b00), (.ref b00)]) _
          refine XS.ifYes X16.here hx rfl (pc0 := 19) (pc' := 26) rfl (hb hby d10_19) rfl ((if0 _ _).trans (teq hc19).1) (by decide) (by decide) ?_
          show own_S p e below T16 (mkF m 26 #[.val (.ref a1), .val (.ref a2)] [(.ref s1), (.ref b00), (.ref b00)]) _
          refine XS.iconst X16.here hx rfl (hb hby d10_26) ?_
          exact k
        rw [hr8_s0]
        exact ⟨T16, _, X16, N0, e16, fun t k => (sg9 t (st9 t (sg16 t (st16 t (sg27 t k)))))⟩
      · rw [if_neg hc19] at hr8_s0
        have sg27 : ∀ t, own_S p e below T16 (mkF m 27 #[.val (.ref a1), .val (.ref a2)] [(.int (1 : Int32)), (.ref s1), (.ref b00), (.ref b00)]) t → own_S p e below T16 (mkF m 19 #[.val (.ref a1), .val (.ref a2)] [(.int z2), (.ref s1), (.ref b00), (.ref b00)]) t := by
          intro t k
          show own_S p e below T16 (mkF m 19 #[.val (.ref a1), .val (.ref a2)] [(.int z2), (.ref s1), (.ref b00), (.ref b00)]) _
          refine XS.ifNo X16.here hx rfl (hb hby d10_19) rfl ((if0 _ _).trans (feq hc19).1) ?_
          show own_S p e below T16 (mkF m 22 #[.val (.ref a1), .val (.ref a2)] [(.ref s1), (.ref b00), (.ref b00)]) _
          refine XS.iconst X16.here hx rfl (hb hby d10_22) ?_
          show own_S p e below T16 (mkF m 23 #[.val (.ref a1), .val (.ref a2)] [(.int (1 : Int32)), (.ref s1), (.ref b00), (.ref b00)]) _
          refine XS.goto X16.here hx rfl (pc0 := 23) (pc' := 27) rfl (hb hby d10_23) (by decide) (by decide) ?_
          exact k
        rw [hr8_s0]
        exact ⟨T16, _, X16, N0, e16, fun t k => (sg9 t (st9 t (sg16 t (st16 t (sg27 t k)))))⟩
    · rw [if_neg hc12] at hr8_s0
      have sg27 : ∀ t, own_S p e below T9 (mkF m 27 #[.val (.ref a1), .val (.ref a2)] [(.int (1 : Int32)), (.ref s1), (.ref b00), (.ref b00)]) t → own_S p e below T9 (mkF m 12 #[.val (.ref a1), .val (.ref a2)] [(.int z1), (.ref s1), (.ref b00), (.ref b00)]) t := by
        intro t k
        show own_S p e below T9 (mkF m 12 #[.val (.ref a1), .val (.ref a2)] [(.int z1), (.ref s1), (.ref b00), (.ref b00)]) _
        refine XS.ifYes X9.here hx rfl (pc0 := 12) (pc' := 22) rfl (hb hby d10_12) rfl ((if0 _ _).trans (feq hc12).2) (by decide) (by decide) ?_
        show own_S p e below T9 (mkF m 22 #[.val (.ref a1), .val (.ref a2)] [(.ref s1), (.ref b00), (.ref b00)]) _
        refine XS.iconst X9.here hx rfl (hb hby d10_22) ?_
        show own_S p e below T9 (mkF m 23 #[.val (.ref a1), .val (.ref a2)] [(.int (1 : Int32)), (.ref s1), (.ref b00), (.ref b00)]) _
        refine XS.goto X9.here hx rfl (pc0 := 23) (pc' := 27) rfl (hb hby d10_23) (by decide) (by decide) ?_
        exact k
      rw [hr8_s0]
      exact ⟨T9, _, X9, N0, e9, fun t k => (sg9 t (st9 t (sg27 t k)))⟩
  refine own_by str8 ?_
  obtain ⟨r27_s0, hr27_s0⟩ : ∃ z : Int32, z = (if z2 = (0 : Int32) then (f1 + f2) else f2) := ⟨_, rfl⟩
  obtain ⟨Tr27, Lr27, Xr27, Nr27, er27, str27⟩ : ∃ T' L', Stand p l e ({ frames := 3, cells := 1, slots := 5, locals := 42 } : Room) s m #[(.ref a1), (.ref a2)] below meth c T' L' 1 5 ∧ Fr n0 L' ∧ T'.heap = h00 ∧ ∀ t, own_S p e below T' (mkF m 50 #[.val (.ref a1), .val (.ref a2)] [(.int r27_s0), (.int r8_s0), (.ref s1), (.ref b00), (.ref b00)]) t → own_S p e below Tr8 (mkF m 27 #[.val (.ref a1), .val (.ref a2)] [(.int r8_s0), (.ref s1), (.ref b00), (.ref b00)]) t := by
    have sg28 : ∀ t, own_S p e below Tr8 (mkF m 28 #[.val (.ref a1), .val (.ref a2)] [(.ref a2), (.int r8_s0), (.ref s1), (.ref b00), (.ref b00)]) t → own_S p e below Tr8 (mkF m 27 #[.val (.ref a1), .val (.ref a2)] [(.int r8_s0), (.ref s1), (.ref b00), (.ref b00)]) t := by
      intro t k
      show own_S p e below Tr8 (mkF m 27 #[.val (.ref a1), .val (.ref a2)] [(.int r8_s0), (.ref s1), (.ref b00), (.ref b00)]) _
      refine XS.aloadN Xr8.here hx rfl (hb hby d10_27) rfl rfl ?_
      exact k
    obtain ⟨T28, X28, e28, st28⟩ := getF Xr8 hx hZ hown (host := "") (Or.inl (hw _ (List.mem_of_getElem? (i := 45) rfl))) Via.refl er8 (B_succeeded.ext E00) (g := (mkF m 28 #[.val (.ref a1), .val (.ref a2)] [(.ref a2), (.int r8_s0), (.ref s1), (.ref b00), (.ref b00)])) rfl rfl (hb hby d10_28)
    by_cases hc31 : z2 = (0 : Int32)
    · rw [if_pos hc31] at hr27_s0
      have sg42 : ∀ t, own_S p e below T28 (mkF m 42 #[.val (.ref a1), .val (.ref a2)] [(.ref a1), (.int r8_s0), (.ref s1), (.ref b00), (.ref b00)]) t → own_S p e below T28 (mkF m 31 #[.val (.ref a1), .val (.ref a2)] [(.int z2), (.int r8_s0), (.ref s1), (.ref b00), (.ref b00)]) t := by
        intro t k
        show own_S p e below T28 (mkF m 31 #[.val (.ref a1), .val (.ref a2)] [(.int z2), (.int r8_s0), (.ref s1), (.ref b00), (.ref b00)]) _
        refine XS.ifYes X28.here hx rfl (pc0 := 31) (pc' := 41) rfl (hb hby d10_31) rfl ((if0 _ _).trans (teq hc31).1) (by decide) (by decide) ?_
        show own_S p e below T28 (mkF m 41 #[.val (.ref a1), .val (.ref a2)] [(.int r8_s0), (.ref s1), (.ref b00), (.ref b00)]) _
        refine XS.aloadN X28.here hx rfl (hb hby d10_41) rfl rfl ?_
        exact k
      obtain ⟨T42, X42, e42, st42⟩ := getF X28 hx hZ hown (host := "") (Or.inl (hw _ (List.mem_of_getElem? (i := 47) rfl))) Via.refl e28 (A_failures.ext E00) (g := (mkF m 42 #[.val (.ref a1), .val (.ref a2)] [(.ref a1), (.int r8_s0), (.ref s1), (.ref b00), (.ref b00)])) rfl rfl (hb hby d10_42)
      have sg46 : ∀ t, own_S p e below T42 (mkF m 46 #[.val (.ref a1), .val (.ref a2)] [(.ref a2), (.int f1), (.int r8_s0), (.ref s1), (.ref b00), (.ref b00)]) t → own_S p e below T42 (mkF m 45 #[.val (.ref a1), .val (.ref a2)] [(.int f1), (.int r8_s0), (.ref s1), (.ref b00), (.ref b00)]) t := by
        intro t k
        show own_S p e below T42 (mkF m 45 #[.val (.ref a1), .val (.ref a2)] [(.int f1), (.int r8_s0), (.ref s1), (.ref b00), (.ref b00)]) _
        refine XS.aloadN X42.here hx rfl (hb hby d10_45) rfl rfl ?_
        exact k
      obtain ⟨T46, X46, e46, st46⟩ := getF X42 hx hZ hown (host := "") (Or.inl (hw _ (List.mem_of_getElem? (i := 47) rfl))) Via.refl e42 (B_failures.ext E00) (g := (mkF m 46 #[.val (.ref a1), .val (.ref a2)] [(.ref a2), (.int f1), (.int r8_s0), (.ref s1), (.ref b00), (.ref b00)])) rfl rfl (hb hby d10_46)
      have sg50 : ∀ t, own_S p e below T46 (mkF m 50 #[.val (.ref a1), .val (.ref a2)] [(.int (f1 + f2)), (.int r8_s0), (.ref s1), (.ref b00), (.ref b00)]) t → own_S p e below T46 (mkF m 49 #[.val (.ref a1), .val (.ref a2)] [(.int f2), (.int f1), (.int r8_s0), (.ref s1), (.ref b00), (.ref b00)]) t := by
        intro t k
        show own_S p e below T46 (mkF m 49 #[.val (.ref a1), .val (.ref a2)] [(.int f2), (.int f1), (.int r8_s0), (.ref s1), (.ref b00), (.ref b00)]) _
        refine XS.iadd X46.here hx rfl (hb hby d10_49) rfl ?_
        exact k
      rw [hr27_s0]
      exact ⟨T46, _, X46, Nr8, e46, fun t k => (sg28 t (st28 t (sg42 t (st42 t (sg46 t (st46 t (sg50 t k)))))))⟩
    · rw [if_neg hc31] at hr27_s0
      have sg35 : ∀ t, own_S p e below T28 (mkF m 35 #[.val (.ref a1), .val (.ref a2)] [(.ref a2), (.int r8_s0), (.ref s1), (.ref b00), (.ref b00)]) t → own_S p e below T28 (mkF m 31 #[.val (.ref a1), .val (.ref a2)] [(.int z2), (.int r8_s0), (.ref s1), (.ref b00), (.ref b00)]) t := by
        intro t k
        show own_S p e below T28 (mkF m 31 #[.val (.ref a1), .val (.ref a2)] [(.int z2), (.int r8_s0), (.ref s1), (.ref b00), (.ref b00)]) _
        refine XS.ifNo X28.here hx rfl (hb hby d10_31) rfl ((if0 _ _).trans (feq hc31).1) ?_
        show own_S p e below T28 (mkF m 34 #[.val (.ref a1), .val (.ref a2)] [(.int r8_s0), (.ref s1), (.ref b00), (.ref b00)]) _
        refine XS.aloadN X28.here hx rfl (hb hby d10_34) rfl rfl ?_
        exact k
      obtain ⟨T35, X35, e35, st35⟩ := getF X28 hx hZ hown (host := "") (Or.inl (hw _ (List.mem_of_getElem? (i := 47) rfl))) Via.refl e28 (B_failures.ext E00) (g := (mkF m 35 #[.val (.ref a1), .val (.ref a2)] [(.ref a2), (.int r8_s0), (.ref s1), (.ref b00), (.ref b00)])) rfl rfl (hb hby d10_35)
      have sg50 : ∀ t, own_S p e below T35 (mkF m 50 #[.val (.ref a1), .val (.ref a2)] [(.int f2), (.int r8_s0), (.ref s1), (.ref b00), (.ref b00)]) t → own_S p e below T35 (mkF m 38 #[.val (.ref a1), .val (.ref a2)] [(.int f2), (.int r8_s0), (.ref s1), (.ref b00), (.ref b00)]) t := by
        intro t k
        show own_S p e below T35 (mkF m 38 #[.val (.ref a1), .val (.ref a2)] [(.int f2), (.int r8_s0), (.ref s1), (.ref b00), (.ref b00)]) _
        refine XS.goto X35.here hx rfl (pc0 := 38) (pc' := 50) rfl (hb hby d10_38) (by decide) (by decide) ?_
        exact k
      rw [hr27_s0]
      exact ⟨T35, _, X35, Nr8, e35, fun t k => (sg28 t (st28 t (sg35 t (st35 t (sg50 t k)))))⟩
  refine own_by str27 ?_
  obtain ⟨r50_s0, hr50_s0⟩ : ∃ z : Int32, z = (if b1 = (0 : Int32) then (if b2 = (0 : Int32) then (0 : Int32) else (1 : Int32)) else (1 : Int32)) := ⟨_, rfl⟩
  obtain ⟨Tr50, Lr50, Xr50, Nr50, er50, str50⟩ : ∃ T' L', Stand p l e ({ frames := 3, cells := 1, slots := 5, locals := 42 } : Room) s m #[(.ref a1), (.ref a2)] below meth c T' L' 1 5 ∧ Fr n0 L' ∧ T'.heap = h00 ∧ ∀ t, own_S p e below T' (mkF m 69 #[.val (.ref a1), .val (.ref a2)] [(.int r50_s0), (.int r27_s0), (.int r8_s0), (.ref s1), (.ref b00), (.ref b00)]) t → own_S p e below Tr27 (mkF m 50 #[.val (.ref a1), .val (.ref a2)] [(.int r27_s0), (.int r8_s0), (.ref s1), (.ref b00), (.ref b00)]) t := by
    have sg51 : ∀ t, own_S p e below Tr27 (mkF m 51 #[.val (.ref a1), .val (.ref a2)] [(.ref a1), (.int r27_s0), (.int r8_s0), (.ref s1), (.ref b00), (.ref b00)]) t → own_S p e below Tr27 (mkF m 50 #[.val (.ref a1), .val (.ref a2)] [(.int r27_s0), (.int r8_s0), (.ref s1), (.ref b00), (.ref b00)]) t := by
      intro t k
      show own_S p e below Tr27 (mkF m 50 #[.val (.ref a1), .val (.ref a2)] [(.int r27_s0), (.int r8_s0), (.ref s1), (.ref b00), (.ref b00)]) _
      refine XS.aloadN Xr27.here hx rfl (hb hby d10_50) rfl rfl ?_
      exact k
    obtain ⟨T51, X51, e51, st51⟩ := getF Xr27 hx hZ hown (host := "") (Or.inl (hw _ (List.mem_of_getElem? (i := 49) rfl))) Via.refl er27 (A_probeFailed.ext E00) (g := (mkF m 51 #[.val (.ref a1), .val (.ref a2)] [(.ref a1), (.int r27_s0), (.int r8_s0), (.ref s1), (.ref b00), (.ref b00)])) rfl rfl (hb hby d10_51)
    by_cases hc54 : b1 = (0 : Int32)
    · rw [if_pos hc54] at hr50_s0
      have sg58 : ∀ t, own_S p e below T51 (mkF m 58 #[.val (.ref a1), .val (.ref a2)] [(.ref a2), (.int r27_s0), (.int r8_s0), (.ref s1), (.ref b00), (.ref b00)]) t → own_S p e below T51 (mkF m 54 #[.val (.ref a1), .val (.ref a2)] [(.int b1), (.int r27_s0), (.int r8_s0), (.ref s1), (.ref b00), (.ref b00)]) t := by
        intro t k
        show own_S p e below T51 (mkF m 54 #[.val (.ref a1), .val (.ref a2)] [(.int b1), (.int r27_s0), (.int r8_s0), (.ref s1), (.ref b00), (.ref b00)]) _
        refine XS.ifNo X51.here hx rfl (hb hby d10_54) rfl ((if0 _ _).trans (teq hc54).2) ?_
        show own_S p e below T51 (mkF m 57 #[.val (.ref a1), .val (.ref a2)] [(.int r27_s0), (.int r8_s0), (.ref s1), (.ref b00), (.ref b00)]) _
        refine XS.aloadN X51.here hx rfl (hb hby d10_57) rfl rfl ?_
        exact k
      obtain ⟨T58, X58, e58, st58⟩ := getF X51 hx hZ hown (host := "") (Or.inl (hw _ (List.mem_of_getElem? (i := 49) rfl))) Via.refl e51 (B_probeFailed.ext E00) (g := (mkF m 58 #[.val (.ref a1), .val (.ref a2)] [(.ref a2), (.int r27_s0), (.int r8_s0), (.ref s1), (.ref b00), (.ref b00)])) rfl rfl (hb hby d10_58)
      by_cases hc61 : b2 = (0 : Int32)
      · rw [if_pos hc61] at hr50_s0
        have sg69 : ∀ t, own_S p e below T58 (mkF m 69 #[.val (.ref a1), .val (.ref a2)] [(.int (0 : Int32)), (.int r27_s0), (.int r8_s0), (.ref s1), (.ref b00), (.ref b00)]) t → own_S p e below T58 (mkF m 61 #[.val (.ref a1), .val (.ref a2)] [(.int b2), (.int r27_s0), (.int r8_s0), (.ref s1), (.ref b00), (.ref b00)]) t := by
          intro t k
          show own_S p e below T58 (mkF m 61 #[.val (.ref a1), .val (.ref a2)] [(.int b2), (.int r27_s0), (.int r8_s0), (.ref s1), (.ref b00), (.ref b00)]) _
          refine XS.ifYes X58.here hx rfl (pc0 := 61) (pc' := 68) rfl (hb hby d10_61) rfl ((if0 _ _).trans (teq hc61).1) (by decide) (by decide) ?_
          show own_S p e below T58 (mkF m 68 #[.val (.ref a1), .val (.ref a2)] [(.int r27_s0), (.int r8_s0), (.ref s1), (.ref b00), (.ref b00)]) _
          refine XS.iconst X58.here hx rfl (hb hby d10_68) ?_
          exact k
        rw [hr50_s0]
        exact ⟨T58, _, X58, Nr27, e58, fun t k => (sg51 t (st51 t (sg58 t (st58 t (sg69 t k)))))⟩
      · rw [if_neg hc61] at hr50_s0
        have sg69 : ∀ t, own_S p e below T58 (mkF m 69 #[.val (.ref a1), .val (.ref a2)] [(.int (1 : Int32)), (.int r27_s0), (.int r8_s0), (.ref s1), (.ref b00), (.ref b00)]) t → own_S p e below T58 (mkF m 61 #[.val (.ref a1), .val (.ref a2)] [(.int b2), (.int r27_s0), (.int r8_s0), (.ref s1), (.ref b00), (.ref b00)]) t := by
          intro t k
          show own_S p e below T58 (mkF m 61 #[.val (.ref a1), .val (.ref a2)] [(.int b2), (.int r27_s0), (.int r8_s0), (.ref s1), (.ref b00), (.ref b00)]) _
          refine XS.ifNo X58.here hx rfl (hb hby d10_61) rfl ((if0 _ _).trans (feq hc61).1) ?_
          show own_S p e below T58 (mkF m 64 #[.val (.ref a1), .val (.ref a2)] [(.int r27_s0), (.int r8_s0), (.ref s1), (.ref b00), (.ref b00)]) _
          refine XS.iconst X58.here hx rfl (hb hby d10_64) ?_
          show own_S p e below T58 (mkF m 65 #[.val (.ref a1), .val (.ref a2)] [(.int (1 : Int32)), (.int r27_s0), (.int r8_s0), (.ref s1), (.ref b00), (.ref b00)]) _
          refine XS.goto X58.here hx rfl (pc0 := 65) (pc' := 69) rfl (hb hby d10_65) (by decide) (by decide) ?_
          exact k
        rw [hr50_s0]
        exact ⟨T58, _, X58, Nr27, e58, fun t k => (sg51 t (st51 t (sg58 t (st58 t (sg69 t k)))))⟩
    · rw [if_neg hc54] at hr50_s0
      have sg69 : ∀ t, own_S p e below T51 (mkF m 69 #[.val (.ref a1), .val (.ref a2)] [(.int (1 : Int32)), (.int r27_s0), (.int r8_s0), (.ref s1), (.ref b00), (.ref b00)]) t → own_S p e below T51 (mkF m 54 #[.val (.ref a1), .val (.ref a2)] [(.int b1), (.int r27_s0), (.int r8_s0), (.ref s1), (.ref b00), (.ref b00)]) t := by
        intro t k
        show own_S p e below T51 (mkF m 54 #[.val (.ref a1), .val (.ref a2)] [(.int b1), (.int r27_s0), (.int r8_s0), (.ref s1), (.ref b00), (.ref b00)]) _
        refine XS.ifYes X51.here hx rfl (pc0 := 54) (pc' := 64) rfl (hb hby d10_54) rfl ((if0 _ _).trans (feq hc54).2) (by decide) (by decide) ?_
        show own_S p e below T51 (mkF m 64 #[.val (.ref a1), .val (.ref a2)] [(.int r27_s0), (.int r8_s0), (.ref s1), (.ref b00), (.ref b00)]) _
        refine XS.iconst X51.here hx rfl (hb hby d10_64) ?_
        show own_S p e below T51 (mkF m 65 #[.val (.ref a1), .val (.ref a2)] [(.int (1 : Int32)), (.int r27_s0), (.int r8_s0), (.ref s1), (.ref b00), (.ref b00)]) _
        refine XS.goto X51.here hx rfl (pc0 := 65) (pc' := 69) rfl (hb hby d10_65) (by decide) (by decide) ?_
        exact k
      rw [hr50_s0]
      exact ⟨T51, _, X51, Nr27, e51, fun t k => (sg51 t (st51 t (sg69 t k)))⟩
  refine own_by str50 ?_
  obtain ⟨r69_s0, hr69_s0⟩ : ∃ z : Int32, z = (if g1 = (0 : Int32) then (if g2 = (0 : Int32) then (0 : Int32) else (1 : Int32)) else (1 : Int32)) := ⟨_, rfl⟩
  obtain ⟨Tr69, Lr69, Xr69, Nr69, er69, str69⟩ : ∃ T' L', Stand p l e ({ frames := 3, cells := 1, slots := 5, locals := 42 } : Room) s m #[(.ref a1), (.ref a2)] below meth c T' L' 1 5 ∧ Fr n0 L' ∧ T'.heap = h00 ∧ ∀ t, own_S p e below T' (mkF m 88 #[.val (.ref a1), .val (.ref a2)] [(.int r69_s0), (.int r50_s0), (.int r27_s0), (.int r8_s0), (.ref s1), (.ref b00), (.ref b00)]) t → own_S p e below Tr50 (mkF m 69 #[.val (.ref a1), .val (.ref a2)] [(.int r50_s0), (.int r27_s0), (.int r8_s0), (.ref s1), (.ref b00), (.ref b00)]) t := by
    have sg70 : ∀ t, own_S p e below Tr50 (mkF m 70 #[.val (.ref a1), .val (.ref a2)] [(.ref a1), (.int r50_s0), (.int r27_s0), (.int r8_s0), (.ref s1), (.ref b00), (.ref b00)]) t → own_S p e below Tr50 (mkF m 69 #[.val (.ref a1), .val (.ref a2)] [(.int r50_s0), (.int r27_s0), (.int r8_s0), (.ref s1), (.ref b00), (.ref b00)]) t := by
      intro t k
      show own_S p e below Tr50 (mkF m 69 #[.val (.ref a1), .val (.ref a2)] [(.int r50_s0), (.int r27_s0), (.int r8_s0), (.ref s1), (.ref b00), (.ref b00)]) _
      refine XS.aloadN Xr50.here hx rfl (hb hby d10_69) rfl rfl ?_
      exact k
    obtain ⟨T70, X70, e70, st70⟩ := getF Xr50 hx hZ hown (host := "") (Or.inl (hw _ (List.mem_of_getElem? (i := 51) rfl))) Via.refl er50 (A_gone.ext E00) (g := (mkF m 70 #[.val (.ref a1), .val (.ref a2)] [(.ref a1), (.int r50_s0), (.int r27_s0), (.int r8_s0), (.ref s1), (.ref b00), (.ref b00)])) rfl rfl (hb hby d10_70)
    by_cases hc73 : g1 = (0 : Int32)
    · rw [if_pos hc73] at hr69_s0
      have sg77 : ∀ t, own_S p e below T70 (mkF m 77 #[.val (.ref a1), .val (.ref a2)] [(.ref a2), (.int r50_s0), (.int r27_s0), (.int r8_s0), (.ref s1), (.ref b00), (.ref b00)]) t → own_S p e below T70 (mkF m 73 #[.val (.ref a1), .val (.ref a2)] [(.int g1), (.int r50_s0), (.int r27_s0), (.int r8_s0), (.ref s1), (.ref b00), (.ref b00)]) t := by
        intro t k
        show own_S p e below T70 (mkF m 73 #[.val (.ref a1), .val (.ref a2)] [(.int g1), (.int r50_s0), (.int r27_s0), (.int r8_s0), (.ref s1), (.ref b00), (.ref b00)]) _
        refine XS.ifNo X70.here hx rfl (hb hby d10_73) rfl ((if0 _ _).trans (teq hc73).2) ?_
        show own_S p e below T70 (mkF m 76 #[.val (.ref a1), .val (.ref a2)] [(.int r50_s0), (.int r27_s0), (.int r8_s0), (.ref s1), (.ref b00), (.ref b00)]) _
        refine XS.aloadN X70.here hx rfl (hb hby d10_76) rfl rfl ?_
        exact k
      obtain ⟨T77, X77, e77, st77⟩ := getF X70 hx hZ hown (host := "") (Or.inl (hw _ (List.mem_of_getElem? (i := 51) rfl))) Via.refl e70 (B_gone.ext E00) (g := (mkF m 77 #[.val (.ref a1), .val (.ref a2)] [(.ref a2), (.int r50_s0), (.int r27_s0), (.int r8_s0), (.ref s1), (.ref b00), (.ref b00)])) rfl rfl (hb hby d10_77)
      by_cases hc80 : g2 = (0 : Int32)
      · rw [if_pos hc80] at hr69_s0
        have sg88 : ∀ t, own_S p e below T77 (mkF m 88 #[.val (.ref a1), .val (.ref a2)] [(.int (0 : Int32)), (.int r50_s0), (.int r27_s0), (.int r8_s0), (.ref s1), (.ref b00), (.ref b00)]) t → own_S p e below T77 (mkF m 80 #[.val (.ref a1), .val (.ref a2)] [(.int g2), (.int r50_s0), (.int r27_s0), (.int r8_s0), (.ref s1), (.ref b00), (.ref b00)]) t := by
          intro t k
          show own_S p e below T77 (mkF m 80 #[.val (.ref a1), .val (.ref a2)] [(.int g2), (.int r50_s0), (.int r27_s0), (.int r8_s0), (.ref s1), (.ref b00), (.ref b00)]) _
          refine XS.ifYes X77.here hx rfl (pc0 := 80) (pc' := 87) rfl (hb hby d10_80) rfl ((if0 _ _).trans (teq hc80).1) (by decide) (by decide) ?_
          show own_S p e below T77 (mkF m 87 #[.val (.ref a1), .val (.ref a2)] [(.int r50_s0), (.int r27_s0), (.int r8_s0), (.ref s1), (.ref b00), (.ref b00)]) _
          refine XS.iconst X77.here hx rfl (hb hby d10_87) ?_
          exact k
        rw [hr69_s0]
        exact ⟨T77, _, X77, Nr50, e77, fun t k => (sg70 t (st70 t (sg77 t (st77 t (sg88 t k)))))⟩
      · rw [if_neg hc80] at hr69_s0
        have sg88 : ∀ t, own_S p e below T77 (mkF m 88 #[.val (.ref a1), .val (.ref a2)] [(.int (1 : Int32)), (.int r50_s0), (.int r27_s0), (.int r8_s0), (.ref s1), (.ref b00), (.ref b00)]) t → own_S p e below T77 (mkF m 80 #[.val (.ref a1), .val (.ref a2)] [(.int g2), (.int r50_s0), (.int r27_s0), (.int r8_s0), (.ref s1), (.ref b00), (.ref b00)]) t := by
          intro t k
          show own_S p e below T77 (mkF m 80 #[.val (.ref a1), .val (.ref a2)] [(.int g2), (.int r50_s0), (.int r27_s0), (.int r8_s0), (.ref s1), (.ref b00), (.ref b00)]) _
          refine XS.ifNo X77.here hx rfl (hb hby d10_80) rfl ((if0 _ _).trans (feq hc80).1) ?_
          show own_S p e below T77 (mkF m 83 #[.val (.ref a1), .val (.ref a2)] [(.int r50_s0), (.int r27_s0), (.int r8_s0), (.ref s1), (.ref b00), (.ref b00)]) _
          refine XS.iconst X77.here hx rfl (hb hby d10_83) ?_
          show own_S p e below T77 (mkF m 84 #[.val (.ref a1), .val (.ref a2)] [(.int (1 : Int32)), (.int r50_s0), (.int r27_s0), (.int r8_s0), (.ref s1), (.ref b00), (.ref b00)]) _
          refine XS.goto X77.here hx rfl (pc0 := 84) (pc' := 88) rfl (hb hby d10_84) (by decide) (by decide) ?_
          exact k
        rw [hr69_s0]
        exact ⟨T77, _, X77, Nr50, e77, fun t k => (sg70 t (st70 t (sg77 t (st77 t (sg88 t k)))))⟩
    · rw [if_neg hc73] at hr69_s0
      have sg88 : ∀ t, own_S p e below T70 (mkF m 88 #[.val (.ref a1), .val (.ref a2)] [(.int (1 : Int32)), (.int r50_s0), (.int r27_s0), (.int r8_s0), (.ref s1), (.ref b00), (.ref b00)]) t → own_S p e below T70 (mkF m 73 #[.val (.ref a1), .val (.ref a2)] [(.int g1), (.int r50_s0), (.int r27_s0), (.int r8_s0), (.ref s1), (.ref b00), (.ref b00)]) t := by
        intro t k
        show own_S p e below T70 (mkF m 73 #[.val (.ref a1), .val (.ref a2)] [(.int g1), (.int r50_s0), (.int r27_s0), (.int r8_s0), (.ref s1), (.ref b00), (.ref b00)]) _
        refine XS.ifYes X70.here hx rfl (pc0 := 73) (pc' := 83) rfl (hb hby d10_73) rfl ((if0 _ _).trans (feq hc73).2) (by decide) (by decide) ?_
        show own_S p e below T70 (mkF m 83 #[.val (.ref a1), .val (.ref a2)] [(.int r50_s0), (.int r27_s0), (.int r8_s0), (.ref s1), (.ref b00), (.ref b00)]) _
        refine XS.iconst X70.here hx rfl (hb hby d10_83) ?_
        show own_S p e below T70 (mkF m 84 #[.val (.ref a1), .val (.ref a2)] [(.int (1 : Int32)), (.int r50_s0), (.int r27_s0), (.int r8_s0), (.ref s1), (.ref b00), (.ref b00)]) _
        refine XS.goto X70.here hx rfl (pc0 := 84) (pc' := 88) rfl (hb hby d10_84) (by decide) (by decide) ?_
        exact k
      rw [hr69_s0]
      exact ⟨T70, _, X70, Nr50, e70, fun t k => (sg70 t (st70 t (sg88 t k)))⟩
  refine own_by str69 ?_
  have hb_r8_s0 : r8_s0 = 0 ∨ r8_s0 = 1 := by rw [hr8_s0]; exact own_or01 _ _
  have hb_r50_s0 : r50_s0 = 0 ∨ r50_s0 = 1 := by rw [hr50_s0]; exact own_or01 _ _
  have hb_r69_s0 : r69_s0 = 0 ∨ r69_s0 = 1 := by rw [hr69_s0]; exact own_or01 _ _
  obtain ⟨_, _, ⟨T88, L88, k88, n88⟩, -, X88, ⟨Lc88, hQ88, l88, y88, z88⟩, st88⟩ := Xr69.specialBack hx (y := (⟨"com/example/last_mile/lastmile/store/EndpointTally", "<init>", "(Ljava/lang/String;ZIZZ)V"⟩ : MethodName)) rfl hown (mvT hZ (hw _ (List.mem_of_getElem? (i := 57) rfl))) (mvT hZ (hw _ (List.mem_of_getElem? (i := 35) rfl))) (mvT hZ (hw _ (List.mem_of_getElem? (i := 36) rfl))) (by decide) (backOf (W := 1) (rm7 l Z a0 hw [] b00 s1 r8_s0 r27_s0 r50_s0 r69_s0 h00 n0 Z00 A00 F_endpointId_b00 F_succeeded_b00 F_failures_b00 F_probeFailed_b00 F_gone_b00 g_b00 hb_r8_s0 hb_r50_s0 hb_r69_s0) hZ (hw _ (List.mem_of_getElem? (i := 36) rfl)) (hw _ (List.mem_of_getElem? (i := 33) rfl)) (by decide) (by decide)) (g := (mkF m 88 #[.val (.ref a1), .val (.ref a2)] [(.int r69_s0), (.int r50_s0), (.int r27_s0), (.int r8_s0), (.ref s1), (.ref b00), (.ref b00)])) rfl (by rw [hml]; rfl) (Steps.refl _) (a := b00) (argsL := [(.ref s1), (.int r8_s0), (.int r27_s0), (.int r50_s0), (.int r69_s0)]) (rest := [(.ref b00)]) (lenOf pd_10_0 rfl) rfl (by show 2 * 0 + _ ≤ _; exact Nat.le_of_eq rfl) (hb hby d10_88) (fun _ _ => ⟨rfl, er69, (by decide : 1 + 0 ≤ _), (by decide : 5 + 0 ≤ _)⟩)
  dsimp only [Pt.U, Pt.locs, Pt.cells, Pt.slots] at X88 l88 y88 z88 st88 hQ88
  subst l88 y88 z88
  obtain ⟨rfl, N88q, Kq88, Eq88, FendpointId_88, Fsucceeded_88, Ffailures_88, FprobeFailed_88, Fgone_88⟩ := hQ88
  have N88 := Fr.app Nr69 N88q
  have fc := ((A_endpointId.ext E00).keep Kq88 (fun h => ne_a1_b00 (List.mem_singleton.mp h)))
  have fc_2 := ((A_succeeded.ext E00).keep Kq88 (fun h => ne_a1_b00 (List.mem_singleton.mp h)))
  have fc_3 := ((A_failures.ext E00).keep Kq88 (fun h => ne_a1_b00 (List.mem_singleton.mp h)))
  have fc_4 := ((A_probeFailed.ext E00).keep Kq88 (fun h => ne_a1_b00 (List.mem_singleton.mp h)))
  have fc_5 := ((A_gone.ext E00).keep Kq88 (fun h => ne_a1_b00 (List.mem_singleton.mp h)))
  have fc_6 := ((B_endpointId.ext E00).keep Kq88 (fun h => ne_a2_b00 (List.mem_singleton.mp h)))
  have fc_7 := ((B_succeeded.ext E00).keep Kq88 (fun h => ne_a2_b00 (List.mem_singleton.mp h)))
  have fc_8 := ((B_failures.ext E00).keep Kq88 (fun h => ne_a2_b00 (List.mem_singleton.mp h)))
  have fc_9 := ((B_probeFailed.ext E00).keep Kq88 (fun h => ne_a2_b00 (List.mem_singleton.mp h)))
  have fc_10 := ((B_gone.ext E00).keep Kq88 (fun h => ne_a2_b00 (List.mem_singleton.mp h)))
  have K88 : Keep h0 T88.heap [] := K00.trans Kq88 (fun x hx => by cases List.mem_singleton.mp hx; exact Or.inr sz_b00)
  have Z88 : n0 ≤ T88.heap.size := Nat.le_trans Z00 Kq88.1
  refine own_by (fun t k => st88.trans k) ?_
  obtain ⟨fs, hr, hrun, hended, hW, hsame⟩ := X88.leave (v := some (.ref b00)) (fun h => by rw [Bd.returns] at h; cases h)
  refine ⟨_, _, ?_, hrun, hended, _, _, rfl, ?_, ⟨_, rfl⟩, hW, hsame.mono (by decide) (by decide)⟩
  · show Steps p.tables e below (T88.setTop (mkF m 91 #[.val (.ref a1), .val (.ref a2)] [(.ref b00)])) _
    jvm_step X88.here [X88.here.top, hx, (hb hby d10_91), X88.method', Bd.returns, Value.isRef, FieldType.isReference]
    first | (intro acts; rw [hr _ acts rfl rfl rfl]) | rw [hr _ _ rfl rfl rfl]
    exact Steps.refl _
  · show Q10 Z a1 a2 s1 z1 f1 b1 g1 s2 z2 f2 b2 g2 h0 n0 _ T88.heap _
    exact ⟨b00, rfl, sz_b00, N88, K88, Eq88, FendpointId_88, (by rw [← hr8_s0]; exact Fsucceeded_88), (by rw [← hr27_s0]; exact Ffailures_88), (by rw [← hr50_s0]; exact FprobeFailed_88), (by rw [← hr69_s0]; exact Fgone_88)⟩
theorem d11_0 : decode method_3_code 0 = .ok (.aload_n 0, 1) := by decide +kernel
theorem d11_1 : decode method_3_code 1 = .ok (.invokevirtual 32, 3) := by decide +kernel
theorem d11_4 : decode method_3_code 4 = .ok (.aload_n 1, 1) := by decide +kernel
theorem d11_5 : decode method_3_code 5 = .ok (.invokevirtual 36, 3) := by decide +kernel
theorem d11_8 : decode method_3_code 8 = .ok (.ifCond .eq 41, 3) := by decide +kernel
theorem d11_11 : decode method_3_code 11 = .ok (.aload_n 0, 1) := by decide +kernel
theorem d11_12 : decode method_3_code 12 = .ok (.invokevirtual 40, 3) := by decide +kernel
theorem d11_15 : decode method_3_code 15 = .ok (.iload_n 2, 1) := by decide +kernel
theorem d11_16 : decode method_3_code 16 = .ok (.if_icmp .ne 33, 3) := by decide +kernel
theorem d11_19 : decode method_3_code 19 = .ok (.aload_n 0, 1) := by decide +kernel
theorem d11_20 : decode method_3_code 20 = .ok (.invokevirtual 44, 3) := by decide +kernel
theorem d11_23 : decode method_3_code 23 = .ok (.iload_n 3, 1) := by decide +kernel
theorem d11_24 : decode method_3_code 24 = .ok (.if_icmp .ne 25, 3) := by decide +kernel
theorem d11_27 : decode method_3_code 27 = .ok (.aload_n 0, 1) := by decide +kernel
theorem d11_28 : decode method_3_code 28 = .ok (.invokevirtual 48, 3) := by decide +kernel
theorem d11_31 : decode method_3_code 31 = .ok (.iload 4, 2) := by decide +kernel
theorem d11_33 : decode method_3_code 33 = .ok (.if_icmp .ne 16, 3) := by decide +kernel
theorem d11_36 : decode method_3_code 36 = .ok (.aload_n 0, 1) := by decide +kernel
theorem d11_37 : decode method_3_code 37 = .ok (.invokevirtual 51, 3) := by decide +kernel
theorem d11_40 : decode method_3_code 40 = .ok (.iload 5, 2) := by decide +kernel
theorem d11_42 : decode method_3_code 42 = .ok (.if_icmp .ne 7, 3) := by decide +kernel
theorem d11_45 : decode method_3_code 45 = .ok (.iconst 1, 1) := by decide +kernel
theorem d11_46 : decode method_3_code 46 = .ok (.goto 4, 3) := by decide +kernel
theorem d11_50 : decode method_3_code 50 = .ok (.ireturn, 1) := by decide +kernel
theorem pn_11 : plainFor (⟨"com/example/last_mile/lastmile/store/EndpointTallyThenPinLaw", "matches", "(Lcom/example/last_mile/lastmile/store/EndpointTally;Ljava/lang/String;ZIZZ)Z"⟩ : MethodName) = true := by first | exact plainFor_of_name (by first | (simp [plainName, overriddenIn]; done) | decide +kernel) | decide +kernel | exact Jvm.Free.JP.mathPlain rfl (by decide +kernel)
theorem pd_11_0 : parseMethodDescriptor "()Ljava/lang/String;" = some ⟨[], some (.object "java/lang/String")⟩ := by decide +kernel
theorem pd_11_1 : parseMethodDescriptor "(Ljava/lang/Object;)Z" = some ⟨[(.object "java/lang/Object")], some .boolean⟩ := by decide +kernel
theorem pd_11_2 : parseMethodDescriptor "()Z" = some ⟨[], some .boolean⟩ := by decide +kernel
theorem pd_11_3 : parseMethodDescriptor "()I" = some ⟨[], some .int⟩ := by decide +kernel
theorem ef_11 (m : MethodId) (a1 : Addr) (a2 : Addr) (p2 : Int32) (p3 : Int32) (p4 : Int32) (p5 : Int32) : entryFrame m #[(.ref a1), (.ref a2), (.int p2), (.int p3), (.int p4), (.int p5)] 6 = mkF m 0 #[.val (.ref a1), .val (.ref a2), .val (.int p2), .val (.int p3), .val (.int p4), .val (.int p5)] [] := by first | (simp [entryFrame, mkF, argsToLocals, Value.category]; done) | rfl
def Q11 (Z : State) (a1 : Addr) (a2 : Addr) (p2 : Int32) (p3 : Int32) (p4 : Int32) (p5 : Int32) (h0 : Heap) (n0 : Nat) (v : Option Value) (h : Heap) (L : List Loc) : Prop := v = some (.int 1) ∧ Fr n0 L ∧ h = h0
set_option maxRecDepth 65536 in
set_option maxHeartbeats 40000000 in
theorem rm11 (l : Launch) (Z : State) (a0 : Array Value) (hw : ∀ d ∈ tables_1, d.before a0 Z = true) (ws : List Jvm.Cond) (a1 : Addr) (a2 : Addr) (p2 : Int32) (p3 : Int32) (p4 : Int32) (p5 : Int32) (h0 : Heap) (n0 : Nat) (Z0 : n0 ≤ h0.size) (E1 : Exa Z h0 a1 "com/example/last_mile/lastmile/store/EndpointTally") (E2 : Exa Z h0 a2 "java/lang/String") (F_endpointId : Fld Z h0 a1 "com/example/last_mile/lastmile/store/EndpointTally" "endpointId" "Ljava/lang/String;" (.ref a2)) (F_succeeded : Fld Z h0 a1 "com/example/last_mile/lastmile/store/EndpointTally" "succeeded" "Z" (.int p2)) (F_failures : Fld Z h0 a1 "com/example/last_mile/lastmile/store/EndpointTally" "failures" "I" (.int p3)) (F_probeFailed : Fld Z h0 a1 "com/example/last_mile/lastmile/store/EndpointTally" "probeFailed" "Z" (.int p4)) (F_gone : Fld Z h0 a1 "com/example/last_mile/lastmile/store/EndpointTally" "gone" "Z" (.int p5)) (hb2 : p2 = 0 ∨ p2 = 1) (hb4 : p4 = 0 ∨ p4 = 1) (hb5 : p5 = 0 ∨ p5 = 1) :
    MetFree l (⟨"com/example/last_mile/lastmile/store/EndpointTallyThenPinLaw", "matches", "(Lcom/example/last_mile/lastmile/store/EndpointTally;Ljava/lang/String;ZIZZ)Z"⟩ : MethodName) (head1 (Jvm.Cond.code (⟨"com/example/last_mile/lastmile/store/EndpointTallyThenPinLaw", "matches", "(Lcom/example/last_mile/lastmile/store/EndpointTally;Ljava/lang/String;ZIZZ)Z"⟩ : MethodName) method_3_code 6 (some .boolean) :: ws) ({ frames := 1, cells := 0, slots := 0, locals := 14 } : Room)) (fun a U => a = #[(.ref a1), (.ref a2), (.int p2), (.int p3), (.int p4), (.int p5)] ∧ Z.Warmed39 U.vm ∧ U.heap = h0) (fun _ _ _ _ _ => True) (fun _ U o U' => ∃ v L, o = .returned v ∧ Q11 Z a1 a2 p2 p3 p4 p5 h0 n0 v U'.heap L ∧ FrameEnd U o U' L ({ frames := 1, cells := 0, slots := 0, locals := 14 } : Room).cells ({ frames := 1, cells := 0, slots := 0, locals := 14 } : Room).slots) := by
  refine MetFree.of_bodySF pn_11 hisR ?_
  intro p e s m args below meth c s₁ Bd hml0 hP hK
  obtain ⟨rfl, hZ, hh⟩ := hP
  have hx := Bd.exec
  have hby := Bd.bytes
  have hml : c.maxLocals = 6 := hml0
  have hown : s.vm.findClass "com/example/last_mile/lastmile/store/EndpointTallyThenPinLaw" = some m.cls := findClass_of_methodNamed Bd.named
  have hnm := (name_of_methodNamed Bd.named Bd.method).1
  have X0 : Stand p l e ({ frames := 1, cells := 0, slots := 0, locals := 14 } : Room) s m #[(.ref a1), (.ref a2), (.int p2), (.int p3), (.int p4), (.int p5)] below meth c s₁ [] 0 0 := Stand.of_body Bd
  have e0 : s₁.heap = h0 := by rw [← hh, Bd.state]; rfl
  have N0 := Fr.nil n0
  refine own_at (castTop (ef_11 m a1 a2 p2 p3 p4 p5)) ?_
  have sg1 : ∀ t, own_S p e below s₁ (mkF m 1 (own_ARRIIII a1 a2 p2 p3 p4 p5) [(.ref a1)]) t → own_S p e below s₁ (mkF m 0 (own_ARRIIII a1 a2 p2 p3 p4 p5) []) t := by
    intro t k
    show own_S p e below s₁ (mkF m 0 (own_ARRIIII a1 a2 p2 p3 p4 p5) []) _
    refine XS.aloadN X0.here hx rfl (hb hby d11_0) rfl rfl ?_
    exact k
  refine own_by sg1 ?_
  obtain ⟨cq1, kq1, q1a, q1b, q1c⟩ := isOf hZ e0 E1
  obtain ⟨_, _, ⟨T1, L1, k1, n1⟩, -, X1, ⟨Lc1, hQ1, l1, y1, z1⟩, st1⟩ := X0.virtualBack hx (y := (⟨"com/example/last_mile/lastmile/store/EndpointTally", "endpointId", "()Ljava/lang/String;"⟩ : MethodName)) (z := (⟨"com/example/last_mile/lastmile/store/EndpointTally", "endpointId", "()Ljava/lang/String;"⟩ : MethodName)) hown (mvT hZ (hw _ (List.mem_of_getElem? (i := 67) rfl))) (mvT hZ (hw _ (List.mem_of_getElem? (i := 68) rfl))) (notFace_of_selects (args := #[]) (mvT hZ (hw _ (List.mem_of_getElem? (i := 70) rfl)))) (mvT hZ (hw _ (List.mem_of_getElem? (i := 70) rfl))) (mvT hZ (hw _ (List.mem_of_getElem? (i := 69) rfl))) (by decide) (backOf (W := 0) (rm12 l Z a0 hw [] a1 a2 h0 n0 Z0 F_endpointId) hZ (hw _ (List.mem_of_getElem? (i := 71) rfl)) (hw _ (List.mem_of_getElem? (i := 33) rfl)) (by decide) (by decide)) q1a q1c (g := (mkF m 1 (own_ARRIIII a1 a2 p2 p3 p4 p5) [(.ref a1)])) rfl (by rw [hml]; rfl) (Steps.refl _) (argsL := []) (rest := []) (lenOf pd_11_0 rfl) rfl (by show 2 * 0 + _ ≤ _; exact Nat.le_of_eq rfl) (hb hby d11_1) (fun _ _ => ⟨rfl, e0, (by decide : 0 + 0 ≤ _), (by decide : 0 + 0 ≤ _)⟩)
  dsimp only [Pt.U, Pt.locs, Pt.cells, Pt.slots] at X1 l1 y1 z1 st1 hQ1
  subst l1 y1 z1
  obtain ⟨rfl, N1q, hq1⟩ := hQ1
  have N1 := Fr.app N0 N1q
  refine own_by (fun t k => st1.trans k) ?_
  have sg5 : ∀ t, own_S p e below T1 (mkF m 5 (own_ARRIIII a1 a2 p2 p3 p4 p5) [(.ref a2), (.ref a2)]) t → own_S p e below T1 (mkF m 4 (own_ARRIIII a1 a2 p2 p3 p4 p5) [(.ref a2)]) t := by
    intro t k
    show own_S p e below T1 (mkF m 4 (own_ARRIIII a1 a2 p2 p3 p4 p5) [(.ref a2)]) _
    refine XS.aloadN X1.here hx rfl (hb hby d11_4) rfl rfl ?_
    exact k
  refine own_by sg5 ?_
  obtain ⟨cq5, kq5, q5a, q5b, q5c⟩ := isOf hZ hq1 E2
  obtain ⟨_, _, ⟨T5, L5, k5, n5⟩, -, X5, ⟨Lc5, hQ5, l5, y5, z5⟩, st5⟩ := X1.virtualBack hx (y := (⟨"java/lang/String", "equals", "(Ljava/lang/Object;)Z"⟩ : MethodName)) (z := (⟨"java/lang/String", "equals", "(Ljava/lang/Object;)Z"⟩ : MethodName)) hown (mvT hZ (hw _ (List.mem_of_getElem? (i := 72) rfl))) (mvT hZ (hw _ (List.mem_of_getElem? (i := 73) rfl))) (notFace_of_selects (args := #[]) (mvT hZ (hw _ (List.mem_of_getElem? (i := 75) rfl)))) (mvT hZ (hw _ (List.mem_of_getElem? (i := 75) rfl))) (mvT hZ (hw _ (List.mem_of_getElem? (i := 74) rfl))) (by decide) (backOf (W := 0) (rm13 l Z a0 hw [] a2 h0 n0 Z0) hZ (hw _ (List.mem_of_getElem? (i := 76) rfl)) (hw _ (List.mem_of_getElem? (i := 4) rfl)) (by decide) (by decide)) q5a q5c (g := (mkF m 5 (own_ARRIIII a1 a2 p2 p3 p4 p5) [(.ref a2), (.ref a2)])) rfl (by rw [hml]; rfl) (Steps.refl _) (argsL := [(.ref a2)]) (rest := []) (lenOf pd_11_1 rfl) rfl (by show 2 * 0 + _ ≤ _; exact Nat.le_of_eq rfl) (hb hby d11_5) (fun _ _ => ⟨rfl, hq1, (by decide : 0 + 0 ≤ _), (by decide : 0 + 0 ≤ _)⟩)
  dsimp only [Pt.U, Pt.locs, Pt.cells, Pt.slots] at X5 l5 y5 z5 st5 hQ5
  subst l5 y5 z5
  obtain ⟨rfl, N5q, hq5⟩ := hQ5
  have N5 := Fr.app N1 N5q
  refine own_by (fun t k => st5.trans k) ?_
  have sg12 : ∀ t, own_S p e below T5 (mkF m 12 (own_ARRIIII a1 a2 p2 p3 p4 p5) [(.ref a1)]) t → own_S p e below T5 (mkF m 8 (own_ARRIIII a1 a2 p2 p3 p4 p5) [(.int (1 : Int32))]) t := by
    intro t k
    show own_S p e below T5 (mkF m 8 (own_ARRIIII a1 a2 p2 p3 p4 p5) [(.int (1 : Int32))]) _
    refine XS.ifNo X5.here hx rfl (hb hby d11_8) rfl ((if0 _ _).trans (feq (by decide : ¬ ((1 : Int32) = (0 : Int32)))).1) ?_
    show own_S p e below T5 (mkF m 11 (own_ARRIIII a1 a2 p2 p3 p4 p5) []) _
    refine XS.aloadN X5.here hx rfl (hb hby d11_11) rfl rfl ?_
    exact k
  refine own_by sg12 ?_
  obtain ⟨cq12, kq12, q12a, q12b, q12c⟩ := isOf hZ hq5 E1
  obtain ⟨_, _, ⟨T12, L12, k12, n12⟩, -, X12, ⟨Lc12, hQ12, l12, y12, z12⟩, st12⟩ := X5.virtualBack hx (y := (⟨"com/example/last_mile/lastmile/store/EndpointTally", "succeeded", "()Z"⟩ : MethodName)) (z := (⟨"com/example/last_mile/lastmile/store/EndpointTally", "succeeded", "()Z"⟩ : MethodName)) hown (mvT hZ (hw _ (List.mem_of_getElem? (i := 77) rfl))) (mvT hZ (hw _ (List.mem_of_getElem? (i := 78) rfl))) (notFace_of_selects (args := #[]) (mvT hZ (hw _ (List.mem_of_getElem? (i := 80) rfl)))) (mvT hZ (hw _ (List.mem_of_getElem? (i := 80) rfl))) (mvT hZ (hw _ (List.mem_of_getElem? (i := 79) rfl))) (by decide) (backOf (W := 0) (rm14 l Z a0 hw [] a1 p2 h0 n0 Z0 F_succeeded hb2) hZ (hw _ (List.mem_of_getElem? (i := 81) rfl)) (hw _ (List.mem_of_getElem? (i := 33) rfl)) (by decide) (by decide)) q12a q12c (g := (mkF m 12 (own_ARRIIII a1 a2 p2 p3 p4 p5) [(.ref a1)])) rfl (by rw [hml]; rfl) (Steps.refl _) (argsL := []) (rest := []) (lenOf pd_11_2 rfl) rfl (by show 2 * 0 + _ ≤ _; exact Nat.le_of_eq rfl) (hb hby d11_12) (fun _ _ => ⟨rfl, hq5, (by decide : 0 + 0 ≤ _), (by decide : 0 + 0 ≤ _)⟩)
  dsimp only [Pt.U, Pt.locs, Pt.cells, Pt.slots] at X12 l12 y12 z12 st12 hQ12
  subst l12 y12 z12
  obtain ⟨rfl, N12q, hq12⟩ := hQ12
  have N12 := Fr.app N5 N12q
  refine own_by (fun t k => st12.trans k) ?_
  have sg20 : ∀ t, own_S p e below T12 (mkF m 20 (own_ARRIIII a1 a2 p2 p3 p4 p5) [(.ref a1)]) t → own_S p e below T12 (mkF m 15 (own_ARRIIII a1 a2 p2 p3 p4 p5) [(.int p2)]) t := by
    intro t k
    show own_S p e below T12 (mkF m 15 (own_ARRIIII a1 a2 p2 p3 p4 p5) [(.int p2)]) _
    refine XS.iloadN X12.here hx rfl (hb hby d11_15) rfl ?_
    show own_S p e below T12 (mkF m 16 (own_ARRIIII a1 a2 p2 p3 p4 p5) [(.int p2), (.int p2)]) _
    refine XS.icmpNo X12.here hx rfl (hb hby d11_16) rfl (teq (rfl : p2 = p2)).2 ?_
    show own_S p e below T12 (mkF m 19 (own_ARRIIII a1 a2 p2 p3 p4 p5) []) _
    refine XS.aloadN X12.here hx rfl (hb hby d11_19) rfl rfl ?_
    exact k
  refine own_by sg20 ?_
  obtain ⟨cq20, kq20, q20a, q20b, q20c⟩ := isOf hZ hq12 E1
  obtain ⟨_, _, ⟨T20, L20, k20, n20⟩, -, X20, ⟨Lc20, hQ20, l20, y20, z20⟩, st20⟩ := X12.virtualBack hx (y := (⟨"com/example/last_mile/lastmile/store/EndpointTally", "failures", "()I"⟩ : MethodName)) (z := (⟨"com/example/last_mile/lastmile/store/EndpointTally", "failures", "()I"⟩ : MethodName)) hown (mvT hZ (hw _ (List.mem_of_getElem? (i := 82) rfl))) (mvT hZ (hw _ (List.mem_of_getElem? (i := 83) rfl))) (notFace_of_selects (args := #[]) (mvT hZ (hw _ (List.mem_of_getElem? (i := 85) rfl)))) (mvT hZ (hw _ (List.mem_of_getElem? (i := 85) rfl))) (mvT hZ (hw _ (List.mem_of_getElem? (i := 84) rfl))) (by decide) (backOf (W := 0) (rm15 l Z a0 hw [] a1 p3 h0 n0 Z0 F_failures) hZ (hw _ (List.mem_of_getElem? (i := 86) rfl)) (hw _ (List.mem_of_getElem? (i := 33) rfl)) (by decide) (by decide)) q20a q20c (g := (mkF m 20 (own_ARRIIII a1 a2 p2 p3 p4 p5) [(.ref a1)])) rfl (by rw [hml]; rfl) (Steps.refl _) (argsL := []) (rest := []) (lenOf pd_11_3 rfl) rfl (by show 2 * 0 + _ ≤ _; exact Nat.le_of_eq rfl) (hb hby d11_20) (fun _ _ => ⟨rfl, hq12, (by decide : 0 + 0 ≤ _), (by decide : 0 + 0 ≤ _)⟩)
  dsimp only [Pt.U, Pt.locs, Pt.cells, Pt.slots] at X20 l20 y20 z20 st20 hQ20
  subst l20 y20 z20
  obtain ⟨rfl, N20q, hq20⟩ := hQ20
  have N20 := Fr.app N12 N20q
  refine own_by (fun t k => st20.trans k) ?_
  have sg28 : ∀ t, own_S p e below T20 (mkF m 28 (own_ARRIIII a1 a2 p2 p3 p4 p5) [(.ref a1)]) t → own_S p e below T20 (mkF m 23 (own_ARRIIII a1 a2 p2 p3 p4 p5) [(.int p3)]) t := by
    intro t k
    show own_S p e below T20 (mkF m 23 (own_ARRIIII a1 a2 p2 p3 p4 p5) [(.int p3)]) _
    refine XS.iloadN X20.here hx rfl (hb hby d11_23) rfl ?_
    show own_S p e below T20 (mkF m 24 (own_ARRIIII a1 a2 p2 p3 p4 p5) [(.int p3), (.int p3)]) _
    refine XS.icmpNo X20.here hx rfl (hb hby d11_24) rfl (teq (rfl : p3 = p3)).2 ?_
    show own_S p e below T20 (mkF m 27 (own_ARRIIII a1 a2 p2 p3 p4 p5) []) _
    refine XS.aloadN X20.here hx rfl (hb hby d11_27) rfl rfl ?_
    exact k
  refine own_by sg28 ?_
  obtain ⟨cq28, kq28, q28a, q28b, q28c⟩ := isOf hZ hq20 E1
  obtain ⟨_, _, ⟨T28, L28, k28, n28⟩, -, X28, ⟨Lc28, hQ28, l28, y28, z28⟩, st28⟩ := X20.virtualBack hx (y := (⟨"com/example/last_mile/lastmile/store/EndpointTally", "probeFailed", "()Z"⟩ : MethodName)) (z := (⟨"com/example/last_mile/lastmile/store/EndpointTally", "probeFailed", "()Z"⟩ : MethodName)) hown (mvT hZ (hw _ (List.mem_of_getElem? (i := 87) rfl))) (mvT hZ (hw _ (List.mem_of_getElem? (i := 88) rfl))) (notFace_of_selects (args := #[]) (mvT hZ (hw _ (List.mem_of_getElem? (i := 90) rfl)))) (mvT hZ (hw _ (List.mem_of_getElem? (i := 90) rfl))) (mvT hZ (hw _ (List.mem_of_getElem? (i := 89) rfl))) (by decide) (backOf (W := 0) (rm16 l Z a0 hw [] a1 p4 h0 n0 Z0 F_probeFailed hb4) hZ (hw _ (List.mem_of_getElem? (i := 91) rfl)) (hw _ (List.mem_of_getElem? (i := 33) rfl)) (by decide) (by decide)) q28a q28c (g := (mkF m 28 (own_ARRIIII a1 a2 p2 p3 p4 p5) [(.ref a1)])) rfl (by rw [hml]; rfl) (Steps.refl _) (argsL := []) (rest := []) (lenOf pd_11_2 rfl) rfl (by show 2 * 0 + _ ≤ _; exact Nat.le_of_eq rfl) (hb hby d11_28) (fun _ _ => ⟨rfl, hq20, (by decide : 0 + 0 ≤ _), (by decide : 0 + 0 ≤ _)⟩)
  dsimp only [Pt.U, Pt.locs, Pt.cells, Pt.slots] at X28 l28 y28 z28 st28 hQ28
  subst l28 y28 z28
  obtain ⟨rfl, N28q, hq28⟩ := hQ28
  have N28 := Fr.app N20 N28q
  refine own_by (fun t k => st28.trans k) ?_
  have sg37 : ∀ t, own_S p e below T28 (mkF m 37 (own_ARRIIII a1 a2 p2 p3 p4 p5) [(.ref a1)]) t → own_S p e below T28 (mkF m 31 (own_ARRIIII a1 a2 p2 p3 p4 p5) [(.int p4)]) t := by
    intro t k
    show own_S p e below T28 (mkF m 31 (own_ARRIIII a1 a2 p2 p3 p4 p5) [(.int p4)]) _
    refine XS.iload X28.here hx rfl (hb hby d11_31) rfl ?_
    show own_S p e below T28 (mkF m 33 (own_ARRIIII a1 a2 p2 p3 p4 p5) [(.int p4), (.int p4)]) _
    refine XS.icmpNo X28.here hx rfl (hb hby d11_33) rfl (teq (rfl : p4 = p4)).2 ?_
    show own_S p e below T28 (mkF m 36 (own_ARRIIII a1 a2 p2 p3 p4 p5) []) _
    refine XS.aloadN X28.here hx rfl (hb hby d11_36) rfl rfl ?_
    exact k
  refine own_by sg37 ?_
  obtain ⟨cq37, kq37, q37a, q37b, q37c⟩ := isOf hZ hq28 E1
  obtain ⟨_, _, ⟨T37, L37, k37, n37⟩, -, X37, ⟨Lc37, hQ37, l37, y37, z37⟩, st37⟩ := X28.virtualBack hx (y := (⟨"com/example/last_mile/lastmile/store/EndpointTally", "gone", "()Z"⟩ : MethodName)) (z := (⟨"com/example/last_mile/lastmile/store/EndpointTally", "gone", "()Z"⟩ : MethodName)) hown (mvT hZ (hw _ (List.mem_of_getElem? (i := 92) rfl))) (mvT hZ (hw _ (List.mem_of_getElem? (i := 93) rfl))) (notFace_of_selects (args := #[]) (mvT hZ (hw _ (List.mem_of_getElem? (i := 95) rfl)))) (mvT hZ (hw _ (List.mem_of_getElem? (i := 95) rfl))) (mvT hZ (hw _ (List.mem_of_getElem? (i := 94) rfl))) (by decide) (backOf (W := 0) (rm17 l Z a0 hw [] a1 p5 h0 n0 Z0 F_gone hb5) hZ (hw _ (List.mem_of_getElem? (i := 96) rfl)) (hw _ (List.mem_of_getElem? (i := 33) rfl)) (by decide) (by decide)) q37a q37c (g := (mkF m 37 (own_ARRIIII a1 a2 p2 p3 p4 p5) [(.ref a1)])) rfl (by rw [hml]; rfl) (Steps.refl _) (argsL := []) (rest := []) (lenOf pd_11_2 rfl) rfl (by show 2 * 0 + _ ≤ _; exact Nat.le_of_eq rfl) (hb hby d11_37) (fun _ _ => ⟨rfl, hq28, (by decide : 0 + 0 ≤ _), (by decide : 0 + 0 ≤ _)⟩)
  dsimp only [Pt.U, Pt.locs, Pt.cells, Pt.slots] at X37 l37 y37 z37 st37 hQ37
  subst l37 y37 z37
  obtain ⟨rfl, N37q, hq37⟩ := hQ37
  have N37 := Fr.app N28 N37q
  refine own_by (fun t k => st37.trans k) ?_
  have sg50 : ∀ t, own_S p e below T37 (mkF m 50 (own_ARRIIII a1 a2 p2 p3 p4 p5) [(.int (1 : Int32))]) t → own_S p e below T37 (mkF m 40 (own_ARRIIII a1 a2 p2 p3 p4 p5) [(.int p5)]) t := by
    intro t k
    show own_S p e below T37 (mkF m 40 (own_ARRIIII a1 a2 p2 p3 p4 p5) [(.int p5)]) _
    refine XS.iload X37.here hx rfl (hb hby d11_40) rfl ?_
    show own_S p e below T37 (mkF m 42 (own_ARRIIII a1 a2 p2 p3 p4 p5) [(.int p5), (.int p5)]) _
    refine XS.icmpNo X37.here hx rfl (hb hby d11_42) rfl (teq (rfl : p5 = p5)).2 ?_
    show own_S p e below T37 (mkF m 45 (own_ARRIIII a1 a2 p2 p3 p4 p5) []) _
    refine XS.iconst X37.here hx rfl (hb hby d11_45) ?_
    show own_S p e below T37 (mkF m 46 (own_ARRIIII a1 a2 p2 p3 p4 p5) [(.int (1 : Int32))]) _
    refine XS.goto X37.here hx rfl (pc0 := 46) (pc' := 50) rfl (hb hby d11_46) (by decide) (by decide) ?_
    exact k
  refine own_by sg50 ?_
  obtain ⟨fs, hr, hrun, hended, hW, hsame⟩ := X37.leave (v := some (.int (1 : Int32))) (fun h => by rw [Bd.returns] at h; cases h)
  refine ⟨_, _, ?_, hrun, hended, _, _, rfl, ?_, ⟨_, rfl⟩, hW, hsame.mono (by decide) (by decide)⟩
  · exact retN X37 hx (t := .boolean) Bd.returns (by simp) (hb hby d11_50) hr
  · show Q11 Z a1 a2 p2 p3 p4 p5 h0 n0 _ T37.heap _
    rw [hq37]
    exact ⟨rfl, N37, rfl⟩
theorem pn_0 : plainFor x = true := by first | exact plainFor_of_name (by first | (simp [plainName, overriddenIn]; done) | decide +kernel) | decide +kernel | exact Jvm.Free.JP.mathPlain rfl (by decide +kernel)
theorem pd_0_0 : parseMethodDescriptor "([C)V" = some ⟨[(.array .char)], none⟩ := by decide +kernel
theorem pd_0_1 : parseMethodDescriptor "(Ljava/lang/String;ZIZZ)V" = some ⟨[(.object "java/lang/String"), .boolean, .int, .boolean, .boolean], none⟩ := by decide +kernel
theorem pd_0_2 : parseMethodDescriptor "(Ljava/lang/String;ZZZ)Lcom/example/last_mile/lastmile/store/EndpointTally;" = some ⟨[(.object "java/lang/String"), .boolean, .boolean, .boolean], some (.object "com/example/last_mile/lastmile/store/EndpointTally")⟩ := by decide +kernel
theorem pd_0_3 : parseMethodDescriptor "(Lcom/example/last_mile/lastmile/store/EndpointTally;)Lcom/example/last_mile/lastmile/store/EndpointTally;" = some ⟨[(.object "com/example/last_mile/lastmile/store/EndpointTally")], some (.object "com/example/last_mile/lastmile/store/EndpointTally")⟩ := by decide +kernel
theorem pd_0_4 : parseMethodDescriptor "(Lcom/example/last_mile/lastmile/store/EndpointTally;Ljava/lang/String;ZIZZ)Z" = some ⟨[(.object "com/example/last_mile/lastmile/store/EndpointTally"), (.object "java/lang/String"), .boolean, .int, .boolean, .boolean], some .boolean⟩ := by decide +kernel
theorem ef_0 (m : MethodId) (p0 : Int32) (p1 : Int32) (p2 : Int32) : entryFrame m #[(.int p0), (.int p1), (.int p2)] maxLocals = mkF m 0 #[.val (.int p0), .val (.int p1), .val (.int p2), .unset, .unset, .unset, .unset, .unset, .unset, .unset, .unset, .unset, .unset, .unset, .unset, .unset, .unset, .unset, .unset, .unset, .unset, .unset, .unset, .unset] [] := by first | (simp [entryFrame, mkF, argsToLocals, Value.category, maxLocals]; done) | rfl
def Q0 (Z : State) (p0 : Int32) (p1 : Int32) (p2 : Int32) (gz : Int32) (h0 : Heap) (n0 : Nat) (v : Option Value) (h : Heap) (L : List Loc) : Prop := v = some (.int 1) ∧ Fr n0 L
set_option maxRecDepth 65536 in
set_option maxHeartbeats 40000000 in
theorem rm0 (l : Launch) (Z : State) (a0 : Array Value) (hw : ∀ d ∈ tables_1, d.before a0 Z = true) (ws : List Jvm.Cond) (p0 : Int32) (p1 : Int32) (p2 : Int32) (gz : Int32) (h0 : Heap) (n0 : Nat) (Z0 : n0 ≤ h0.size) (O : Old Z n0 h0) (O2 : Sta Z Z.heap "java/lang/String" "COMPACT_STRINGS" "Z" (.int gz)) (P5 : ¬ (gz = (0 : Int32))) :
    MetFree l x (head1 (Jvm.Cond.code x code maxLocals ret :: ws) room_1) (fun a U => a = #[(.int p0), (.int p1), (.int p2)] ∧ Z.Warmed39 U.vm ∧ U.heap = h0) (fun _ _ _ _ _ => True) (fun _ U o U' => ∃ v L, o = .returned v ∧ Q0 Z p0 p1 p2 gz h0 n0 v U'.heap L ∧ FrameEnd U o U' L room_1.cells room_1.slots) := by
  refine MetFree.of_bodySF pn_0 hisR ?_
  intro p e s m args below meth c s₁ Bd hml0 hP hK
  obtain ⟨rfl, hZ, hh⟩ := hP
  have hx := Bd.exec
  have hby := Bd.bytes
  have hml : c.maxLocals = 24 := hml0
  have hown : s.vm.findClass "com/example/last_mile/lastmile/store/EndpointTallyThenPinLaw" = some m.cls := findClass_of_methodNamed Bd.named
  have hnm := (name_of_methodNamed Bd.named Bd.method).1
  have X0 : Stand p l e room_1 s m #[(.int p0), (.int p1), (.int p2)] below meth c s₁ [] 0 0 := Stand.of_body Bd
  have e0 : s₁.heap = h0 := by rw [← hh, Bd.state]; rfl
  have N0 := Fr.nil n0
  refine own_at (castTop (ef_0 m p0 p1 p2)) ?_
  have K0 := Keep.refl h0 []
  have hws : ∀ d ∈ StrChars.Road.words, d.before a0 Z = true := fun d hd => hw d ((by decide +kernel : ∀ d ∈ StrChars.Road.words, d ∈ tables_1) d hd)
  obtain ⟨r0_s0, hr0_s0⟩ : ∃ z : Int32, z = (if (p0 &&& (1 : Int32)) = (0 : Int32) then (0 : Int32) else (1 : Int32)) := ⟨_, rfl⟩
  have str0 : ∀ t, own_S p e below s₁ (mkF m 11 (own_AIIIUUUUUUUUUUUUUUUUUUUUU p0 p1 p2) [(.int r0_s0)]) t → own_S p e below s₁ (mkF m 0 (own_AIIIUUUUUUUUUUUUUUUUUUUUU p0 p1 p2) []) t := by
    have sg3 : ∀ t, own_S p e below s₁ (mkF m 3 (own_AIIIUUUUUUUUUUUUUUUUUUUUU p0 p1 p2) [(.int (p0 &&& (1 : Int32)))]) t → own_S p e below s₁ (mkF m 0 (own_AIIIUUUUUUUUUUUUUUUUUUUUU p0 p1 p2) []) t := by
      intro t k
      show own_S p e below s₁ (mkF m 0 (own_AIIIUUUUUUUUUUUUUUUUUUUUU p0 p1 p2) []) _
      refine XS.iloadN X0.here hx rfl (hb hby at_0) rfl ?_
      show own_S p e below s₁ (mkF m 1 (own_AIIIUUUUUUUUUUUUUUUUUUUUU p0 p1 p2) [(.int p0)]) _
      refine XS.iconst X0.here hx rfl (hb hby at_1) ?_
      show own_S p e below s₁ (mkF m 2 (own_AIIIUUUUUUUUUUUUUUUUUUUUU p0 p1 p2) [(.int (1 : Int32)), (.int p0)]) _
      refine XS.iand X0.here hx rfl (hb hby at_2) rfl ?_
      exact k
    by_cases hc3 : (p0 &&& (1 : Int32)) = (0 : Int32)
    · rw [if_pos hc3] at hr0_s0
      have sg11 : ∀ t, own_S p e below s₁ (mkF m 11 (own_AIIIUUUUUUUUUUUUUUUUUUUUU p0 p1 p2) [(.int (0 : Int32))]) t → own_S p e below s₁ (mkF m 3 (own_AIIIUUUUUUUUUUUUUUUUUUUUU p0 p1 p2) [(.int (p0 &&& (1 : Int32)))]) t := by
        intro t k
        show own_S p e below s₁ (mkF m 3 (own_AIIIUUUUUUUUUUUUUUUUUUUUU p0 p1 p2) [(.int (p0 &&& (1 : Int32)))]) _
        refine XS.ifYes X0.here hx rfl (pc0 := 3) (pc' := 10) rfl (hb hby at_3) rfl ((if0 _ _).trans (teq hc3).1) (by decide) (by decide) ?_
        show own_S p e below s₁ (mkF m 10 (own_AIIIUUUUUUUUUUUUUUUUUUUUU p0 p1 p2) []) _
        refine XS.iconst X0.here hx rfl (hb hby at_10) ?_
        exact k
      rw [hr0_s0]
      exact fun t k => (sg3 t (sg11 t k))
    · rw [if_neg hc3] at hr0_s0
      have sg11 : ∀ t, own_S p e below s₁ (mkF m 11 (own_AIIIUUUUUUUUUUUUUUUUUUUUU p0 p1 p2) [(.int (1 : Int32))]) t → own_S p e below s₁ (mkF m 3 (own_AIIIUUUUUUUUUUUUUUUUUUUUU p0 p1 p2) [(.int (p0 &&& (1 : Int32)))]) t := by
        intro t k
        show own_S p e below s₁ (mkF m 3 (own_AIIIUUUUUUUUUUUUUUUUUUUUU p0 p1 p2) [(.int (p0 &&& (1 : Int32)))]) _
        refine XS.ifNo X0.here hx rfl (hb hby at_3) rfl ((if0 _ _).trans (feq hc3).1) ?_
        show own_S p e below s₁ (mkF m 6 (own_AIIIUUUUUUUUUUUUUUUUUUUUU p0 p1 p2) []) _
        refine XS.iconst X0.here hx rfl (hb hby at_6) ?_
        show own_S p e below s₁ (mkF m 7 (own_AIIIUUUUUUUUUUUUUUUUUUUUU p0 p1 p2) [(.int (1 : Int32))]) _
        refine XS.goto X0.here hx rfl (pc0 := 7) (pc' := 11) rfl (hb hby at_7) (by decide) (by decide) ?_
        exact k
      rw [hr0_s0]
      exact fun t k => (sg3 t (sg11 t k))
  refine own_by str0 ?_
  have sg12 : ∀ t, own_S p e below s₁ (mkF m 12 (own_AIIIIUUUUUUUUUUUUUUUUUUUU p0 p1 p2 r0_s0) []) t → own_S p e below s₁ (mkF m 11 (own_AIIIUUUUUUUUUUUUUUUUUUUUU p0 p1 p2) [(.int r0_s0)]) t := by
    intro t k
    show own_S p e below s₁ (mkF m 11 (own_AIIIUUUUUUUUUUUUUUUUUUUUU p0 p1 p2) [(.int r0_s0)]) _
    refine XS.istoreN X0.here hx rfl (hb hby at_11) rfl (l' := (own_AIIIIUUUUUUUUUUUUUUUUUUUU p0 p1 p2 r0_s0)) rfl ?_
    exact k
  refine own_by sg12 ?_
  obtain ⟨r12_s0, hr12_s0⟩ : ∃ z : Int32, z = (if (p0 &&& (2 : Int32)) = (0 : Int32) then (0 : Int32) else (1 : Int32)) := ⟨_, rfl⟩
  have str12 : ∀ t, own_S p e below s₁ (mkF m 23 (own_AIIIIUUUUUUUUUUUUUUUUUUUU p0 p1 p2 r0_s0) [(.int r12_s0)]) t → own_S p e below s₁ (mkF m 12 (own_AIIIIUUUUUUUUUUUUUUUUUUUU p0 p1 p2 r0_s0) []) t := by
    have sg15 : ∀ t, own_S p e below s₁ (mkF m 15 (own_AIIIIUUUUUUUUUUUUUUUUUUUU p0 p1 p2 r0_s0) [(.int (p0 &&& (2 : Int32)))]) t → own_S p e below s₁ (mkF m 12 (own_AIIIIUUUUUUUUUUUUUUUUUUUU p0 p1 p2 r0_s0) []) t := by
      intro t k
      show own_S p e below s₁ (mkF m 12 (own_AIIIIUUUUUUUUUUUUUUUUUUUU p0 p1 p2 r0_s0) []) _
      refine XS.iloadN X0.here hx rfl (hb hby at_12) rfl ?_
      show own_S p e below s₁ (mkF m 13 (own_AIIIIUUUUUUUUUUUUUUUUUUUU p0 p1 p2 r0_s0) [(.int p0)]) _
      refine XS.iconst X0.here hx rfl (hb hby at_13) ?_
      show own_S p e below s₁ (mkF m 14 (own_AIIIIUUUUUUUUUUUUUUUUUUUU p0 p1 p2 r0_s0) [(.int (2 : Int32)), (.int p0)]) _
      refine XS.iand X0.here hx rfl (hb hby at_14) rfl ?_
      exact k
    by_cases hc15 : (p0 &&& (2 : Int32)) = (0 : Int32)
    · rw [if_pos hc15] at hr12_s0
      have sg23 : ∀ t, own_S p e below s₁ (mkF m 23 (own_AIIIIUUUUUUUUUUUUUUUUUUUU p0 p1 p2 r0_s0) [(.int (0 : Int32))]) t → own_S p e below s₁ (mkF m 15 (own_AIIIIUUUUUUUUUUUUUUUUUUUU p0 p1 p2 r0_s0) [(.int (p0 &&& (2 : Int32)))]) t := by
        intro t k
        show own_S p e below s₁ (mkF m 15 (own_AIIIIUUUUUUUUUUUUUUUUUUUU p0 p1 p2 r0_s0) [(.int (p0 &&& (2 : Int32)))]) _
        refine XS.ifYes X0.here hx rfl (pc0 := 15) (pc' := 22) rfl (hb hby at_15) rfl ((if0 _ _).trans (teq hc15).1) (by decide) (by decide) ?_
        show own_S p e below s₁ (mkF m 22 (own_AIIIIUUUUUUUUUUUUUUUUUUUU p0 p1 p2 r0_s0) []) _
        refine XS.iconst X0.here hx rfl (hb hby at_22) ?_
        exact k
      rw [hr12_s0]
      exact fun t k => (sg15 t (sg23 t k))
    · rw [if_neg hc15] at hr12_s0
      have sg23 : ∀ t, own_S p e below s₁ (mkF m 23 (own_AIIIIUUUUUUUUUUUUUUUUUUUU p0 p1 p2 r0_s0) [(.int (1 : Int32))]) t → own_S p e below s₁ (mkF m 15 (own_AIIIIUUUUUUUUUUUUUUUUUUUU p0 p1 p2 r0_s0) [(.int (p0 &&& (2 : Int32)))]) t := by
        intro t k
        show own_S p e below s₁ (mkF m 15 (own_AIIIIUUUUUUUUUUUUUUUUUUUU p0 p1 p2 r0_s0) [(.int (p0 &&& (2 : Int32)))]) _
        refine XS.ifNo X0.here hx rfl (hb hby at_15) rfl ((if0 _ _).trans (feq hc15).1) ?_
        show own_S p e below s₁ (mkF m 18 (own_AIIIIUUUUUUUUUUUUUUUUUUUU p0 p1 p2 r0_s0) []) _
        refine XS.iconst X0.here hx rfl (hb hby at_18) ?_
        show own_S p e below s₁ (mkF m 19 (own_AIIIIUUUUUUUUUUUUUUUUUUUU p0 p1 p2 r0_s0) [(.int (1 : Int32))]) _
        refine XS.goto X0.here hx rfl (pc0 := 19) (pc' := 23) rfl (hb hby at_19) (by decide) (by decide) ?_
        exact k
      rw [hr12_s0]
      exact fun t k => (sg15 t (sg23 t k))
  refine own_by str12 ?_
  have sg25 : ∀ t, own_S p e below s₁ (mkF m 25 (own_AIIIIIUUUUUUUUUUUUUUUUUUU p0 p1 p2 r0_s0 r12_s0) []) t → own_S p e below s₁ (mkF m 23 (own_AIIIIUUUUUUUUUUUUUUUUUUUU p0 p1 p2 r0_s0) [(.int r12_s0)]) t := by
    intro t k
    show own_S p e below s₁ (mkF m 23 (own_AIIIIUUUUUUUUUUUUUUUUUUUU p0 p1 p2 r0_s0) [(.int r12_s0)]) _
    refine XS.istore X0.here hx rfl (hb hby at_23) rfl (l' := (own_AIIIIIUUUUUUUUUUUUUUUUUUU p0 p1 p2 r0_s0 r12_s0)) rfl ?_
    exact k
  refine own_by sg25 ?_
  obtain ⟨r25_s0, hr25_s0⟩ : ∃ z : Int32, z = (if (p0 &&& (4 : Int32)) = (0 : Int32) then (0 : Int32) else (1 : Int32)) := ⟨_, rfl⟩
  have str25 : ∀ t, own_S p e below s₁ (mkF m 36 (own_AIIIIIUUUUUUUUUUUUUUUUUUU p0 p1 p2 r0_s0 r12_s0) [(.int r25_s0)]) t → own_S p e below s₁ (mkF m 25 (own_AIIIIIUUUUUUUUUUUUUUUUUUU p0 p1 p2 r0_s0 r12_s0) []) t := by
    have sg28 : ∀ t, own_S p e below s₁ (mkF m 28 (own_AIIIIIUUUUUUUUUUUUUUUUUUU p0 p1 p2 r0_s0 r12_s0) [(.int (p0 &&& (4 : Int32)))]) t → own_S p e below s₁ (mkF m 25 (own_AIIIIIUUUUUUUUUUUUUUUUUUU p0 p1 p2 r0_s0 r12_s0) []) t := by
      intro t k
      show own_S p e below s₁ (mkF m 25 (own_AIIIIIUUUUUUUUUUUUUUUUUUU p0 p1 p2 r0_s0 r12_s0) []) _
      refine XS.iloadN X0.here hx rfl (hb hby at_25) rfl ?_
      show own_S p e below s₁ (mkF m 26 (own_AIIIIIUUUUUUUUUUUUUUUUUUU p0 p1 p2 r0_s0 r12_s0) [(.int p0)]) _
      refine XS.iconst X0.here hx rfl (hb hby at_26) ?_
      show own_S p e below s₁ (mkF m 27 (own_AIIIIIUUUUUUUUUUUUUUUUUUU p0 p1 p2 r0_s0 r12_s0) [(.int (4 : Int32)), (.int p0)]) _
      refine XS.iand X0.here hx rfl (hb hby at_27) rfl ?_
      exact k
    by_cases hc28 : (p0 &&& (4 : Int32)) = (0 : Int32)
    · rw [if_pos hc28] at hr25_s0
      have sg36 : ∀ t, own_S p e below s₁ (mkF m 36 (own_AIIIIIUUUUUUUUUUUUUUUUUUU p0 p1 p2 r0_s0 r12_s0) [(.int (0 : Int32))]) t → own_S p e below s₁ (mkF m 28 (own_AIIIIIUUUUUUUUUUUUUUUUUUU p0 p1 p2 r0_s0 r12_s0) [(.int (p0 &&& (4 : Int32)))]) t := by
        intro t k
        show own_S p e below s₁ (mkF m 28 (own_AIIIIIUUUUUUUUUUUUUUUUUUU p0 p1 p2 r0_s0 r12_s0) [(.int (p0 &&& (4 : Int32)))]) _
        refine XS.ifYes X0.here hx rfl (pc0 := 28) (pc' := 35) rfl (hb hby at_28) rfl ((if0 _ _).trans (teq hc28).1) (by decide) (by decide) ?_
        show own_S p e below s₁ (mkF m 35 (own_AIIIIIUUUUUUUUUUUUUUUUUUU p0 p1 p2 r0_s0 r12_s0) []) _
        refine XS.iconst X0.here hx rfl (hb hby at_35) ?_
        exact k
      rw [hr25_s0]
      exact fun t k => (sg28 t (sg36 t k))
    · rw [if_neg hc28] at hr25_s0
      have sg36 : ∀ t, own_S p e below s₁ (mkF m 36 (own_AIIIIIUUUUUUUUUUUUUUUUUUU p0 p1 p2 r0_s0 r12_s0) [(.int (1 : Int32))]) t → own_S p e below s₁ (mkF m 28 (own_AIIIIIUUUUUUUUUUUUUUUUUUU p0 p1 p2 r0_s0 r12_s0) [(.int (p0 &&& (4 : Int32)))]) t := by
        intro t k
        show own_S p e below s₁ (mkF m 28 (own_AIIIIIUUUUUUUUUUUUUUUUUUU p0 p1 p2 r0_s0 r12_s0) [(.int (p0 &&& (4 : Int32)))]) _
        refine XS.ifNo X0.here hx rfl (hb hby at_28) rfl ((if0 _ _).trans (feq hc28).1) ?_
        show own_S p e below s₁ (mkF m 31 (own_AIIIIIUUUUUUUUUUUUUUUUUUU p0 p1 p2 r0_s0 r12_s0) []) _
        refine XS.iconst X0.here hx rfl (hb hby at_31) ?_
        show own_S p e below s₁ (mkF m 32 (own_AIIIIIUUUUUUUUUUUUUUUUUUU p0 p1 p2 r0_s0 r12_s0) [(.int (1 : Int32))]) _
        refine XS.goto X0.here hx rfl (pc0 := 32) (pc' := 36) rfl (hb hby at_32) (by decide) (by decide) ?_
        exact k
      rw [hr25_s0]
      exact fun t k => (sg28 t (sg36 t k))
  refine own_by str25 ?_
  have sg38 : ∀ t, own_S p e below s₁ (mkF m 38 (own_AIIIIIIUUUUUUUUUUUUUUUUUU p0 p1 p2 r0_s0 r12_s0 r25_s0) []) t → own_S p e below s₁ (mkF m 36 (own_AIIIIIUUUUUUUUUUUUUUUUUUU p0 p1 p2 r0_s0 r12_s0) [(.int r25_s0)]) t := by
    intro t k
    show own_S p e below s₁ (mkF m 36 (own_AIIIIIUUUUUUUUUUUUUUUUUUU p0 p1 p2 r0_s0 r12_s0) [(.int r25_s0)]) _
    refine XS.istore X0.here hx rfl (hb hby at_36) rfl (l' := (own_AIIIIIIUUUUUUUUUUUUUUUUUU p0 p1 p2 r0_s0 r12_s0 r25_s0)) rfl ?_
    exact k
  refine own_by sg38 ?_
  obtain ⟨r38_s0, hr38_s0⟩ : ∃ z : Int32, z = (if (p0 &&& (8 : Int32)) = (0 : Int32) then (0 : Int32) else (1 : Int32)) := ⟨_, rfl⟩
  have str38 : ∀ t, own_S p e below s₁ (mkF m 50 (own_AIIIIIIUUUUUUUUUUUUUUUUUU p0 p1 p2 r0_s0 r12_s0 r25_s0) [(.int r38_s0)]) t → own_S p e below s₁ (mkF m 38 (own_AIIIIIIUUUUUUUUUUUUUUUUUU p0 p1 p2 r0_s0 r12_s0 r25_s0) []) t := by
    have sg42 : ∀ t, own_S p e below s₁ (mkF m 42 (own_AIIIIIIUUUUUUUUUUUUUUUUUU p0 p1 p2 r0_s0 r12_s0 r25_s0) [(.int (p0 &&& (8 : Int32)))]) t → own_S p e below s₁ (mkF m 38 (own_AIIIIIIUUUUUUUUUUUUUUUUUU p0 p1 p2 r0_s0 r12_s0 r25_s0) []) t := by
      intro t k
      show own_S p e below s₁ (mkF m 38 (own_AIIIIIIUUUUUUUUUUUUUUUUUU p0 p1 p2 r0_s0 r12_s0 r25_s0) []) _
      refine XS.iloadN X0.here hx rfl (hb hby at_38) rfl ?_
      show own_S p e below s₁ (mkF m 39 (own_AIIIIIIUUUUUUUUUUUUUUUUUU p0 p1 p2 r0_s0 r12_s0 r25_s0) [(.int p0)]) _
      refine XS.bipush X0.here hx rfl (hb hby at_39) ?_
      show own_S p e below s₁ (mkF m 41 (own_AIIIIIIUUUUUUUUUUUUUUUUUU p0 p1 p2 r0_s0 r12_s0 r25_s0) [(.int (8 : Int32)), (.int p0)]) _
      refine XS.iand X0.here hx rfl (hb hby at_41) rfl ?_
      exact k
    by_cases hc42 : (p0 &&& (8 : Int32)) = (0 : Int32)
    · rw [if_pos hc42] at hr38_s0
      have sg50 : ∀ t, own_S p e below s₁ (mkF m 50 (own_AIIIIIIUUUUUUUUUUUUUUUUUU p0 p1 p2 r0_s0 r12_s0 r25_s0) [(.int (0 : Int32))]) t → own_S p e below s₁ (mkF m 42 (own_AIIIIIIUUUUUUUUUUUUUUUUUU p0 p1 p2 r0_s0 r12_s0 r25_s0) [(.int (p0 &&& (8 : Int32)))]) t := by
        intro t k
        show own_S p e below s₁ (mkF m 42 (own_AIIIIIIUUUUUUUUUUUUUUUUUU p0 p1 p2 r0_s0 r12_s0 r25_s0) [(.int (p0 &&& (8 : Int32)))]) _
        refine XS.ifYes X0.here hx rfl (pc0 := 42) (pc' := 49) rfl (hb hby at_42) rfl ((if0 _ _).trans (teq hc42).1) (by decide) (by decide) ?_
        show own_S p e below s₁ (mkF m 49 (own_AIIIIIIUUUUUUUUUUUUUUUUUU p0 p1 p2 r0_s0 r12_s0 r25_s0) []) _
        refine XS.iconst X0.here hx rfl (hb hby at_49) ?_
        exact k
      rw [hr38_s0]
      exact fun t k => (sg42 t (sg50 t k))
    · rw [if_neg hc42] at hr38_s0
      have sg50 : ∀ t, own_S p e below s₁ (mkF m 50 (own_AIIIIIIUUUUUUUUUUUUUUUUUU p0 p1 p2 r0_s0 r12_s0 r25_s0) [(.int (1 : Int32))]) t → own_S p e below s₁ (mkF m 42 (own_AIIIIIIUUUUUUUUUUUUUUUUUU p0 p1 p2 r0_s0 r12_s0 r25_s0) [(.int (p0 &&& (8 : Int32)))]) t := by
        intro t k
        show own_S p e below s₁ (mkF m 42 (own_AIIIIIIUUUUUUUUUUUUUUUUUU p0 p1 p2 r0_s0 r12_s0 r25_s0) [(.int (p0 &&& (8 : Int32)))]) _
        refine XS.ifNo X0.here hx rfl (hb hby at_42) rfl ((if0 _ _).trans (feq hc42).1) ?_
        show own_S p e below s₁ (mkF m 45 (own_AIIIIIIUUUUUUUUUUUUUUUUUU p0 p1 p2 r0_s0 r12_s0 r25_s0) []) _
        refine XS.iconst X0.here hx rfl (hb hby at_45) ?_
        show own_S p e below s₁ (mkF m 46 (own_AIIIIIIUUUUUUUUUUUUUUUUUU p0 p1 p2 r0_s0 r12_s0 r25_s0) [(.int (1 : Int32))]) _
        refine XS.goto X0.here hx rfl (pc0 := 46) (pc' := 50) rfl (hb hby at_46) (by decide) (by decide) ?_
        exact k
      rw [hr38_s0]
      exact fun t k => (sg42 t (sg50 t k))
  refine own_by str38 ?_
  have sg52 : ∀ t, own_S p e below s₁ (mkF m 52 (own_AIIIIIIIUUUUUUUUUUUUUUUUU p0 p1 p2 r0_s0 r12_s0 r25_s0 r38_s0) []) t → own_S p e below s₁ (mkF m 50 (own_AIIIIIIUUUUUUUUUUUUUUUUUU p0 p1 p2 r0_s0 r12_s0 r25_s0) [(.int r38_s0)]) t := by
    intro t k
    show own_S p e below s₁ (mkF m 50 (own_AIIIIIIUUUUUUUUUUUUUUUUUU p0 p1 p2 r0_s0 r12_s0 r25_s0) [(.int r38_s0)]) _
    refine XS.istore X0.here hx rfl (hb hby at_50) rfl (l' := (own_AIIIIIIIUUUUUUUUUUUUUUUUU p0 p1 p2 r0_s0 r12_s0 r25_s0 r38_s0)) rfl ?_
    exact k
  refine own_by sg52 ?_
  obtain ⟨r52_s0, hr52_s0⟩ : ∃ z : Int32, z = (if (p0 &&& (16 : Int32)) = (0 : Int32) then (0 : Int32) else (1 : Int32)) := ⟨_, rfl⟩
  have str52 : ∀ t, own_S p e below s₁ (mkF m 64 (own_AIIIIIIIUUUUUUUUUUUUUUUUU p0 p1 p2 r0_s0 r12_s0 r25_s0 r38_s0) [(.int r52_s0)]) t → own_S p e below s₁ (mkF m 52 (own_AIIIIIIIUUUUUUUUUUUUUUUUU p0 p1 p2 r0_s0 r12_s0 r25_s0 r38_s0) []) t := by
    have sg56 : ∀ t, own_S p e below s₁ (mkF m 56 (own_AIIIIIIIUUUUUUUUUUUUUUUUU p0 p1 p2 r0_s0 r12_s0 r25_s0 r38_s0) [(.int (p0 &&& (16 : Int32)))]) t → own_S p e below s₁ (mkF m 52 (own_AIIIIIIIUUUUUUUUUUUUUUUUU p0 p1 p2 r0_s0 r12_s0 r25_s0 r38_s0) []) t := by
      intro t k
      show own_S p e below s₁ (mkF m 52 (own_AIIIIIIIUUUUUUUUUUUUUUUUU p0 p1 p2 r0_s0 r12_s0 r25_s0 r38_s0) []) _
      refine XS.iloadN X0.here hx rfl (hb hby at_52) rfl ?_
      show own_S p e below s₁ (mkF m 53 (own_AIIIIIIIUUUUUUUUUUUUUUUUU p0 p1 p2 r0_s0 r12_s0 r25_s0 r38_s0) [(.int p0)]) _
      refine XS.bipush X0.here hx rfl (hb hby at_53) ?_
      show own_S p e below s₁ (mkF m 55 (own_AIIIIIIIUUUUUUUUUUUUUUUUU p0 p1 p2 r0_s0 r12_s0 r25_s0 r38_s0) [(.int (16 : Int32)), (.int p0)]) _
      refine XS.iand X0.here hx rfl (hb hby at_55) rfl ?_
      exact k
    by_cases hc56 : (p0 &&& (16 : Int32)) = (0 : Int32)
    · rw [if_pos hc56] at hr52_s0
      have sg64 : ∀ t, own_S p e below s₁ (mkF m 64 (own_AIIIIIIIUUUUUUUUUUUUUUUUU p0 p1 p2 r0_s0 r12_s0 r25_s0 r38_s0) [(.int (0 : Int32))]) t → own_S p e below s₁ (mkF m 56 (own_AIIIIIIIUUUUUUUUUUUUUUUUU p0 p1 p2 r0_s0 r12_s0 r25_s0 r38_s0) [(.int (p0 &&& (16 : Int32)))]) t := by
        intro t k
        show own_S p e below s₁ (mkF m 56 (own_AIIIIIIIUUUUUUUUUUUUUUUUU p0 p1 p2 r0_s0 r12_s0 r25_s0 r38_s0) [(.int (p0 &&& (16 : Int32)))]) _
        refine XS.ifYes X0.here hx rfl (pc0 := 56) (pc' := 63) rfl (hb hby at_56) rfl ((if0 _ _).trans (teq hc56).1) (by decide) (by decide) ?_
        show own_S p e below s₁ (mkF m 63 (own_AIIIIIIIUUUUUUUUUUUUUUUUU p0 p1 p2 r0_s0 r12_s0 r25_s0 r38_s0) []) _
        refine XS.iconst X0.here hx rfl (hb hby at_63) ?_
        exact k
      rw [hr52_s0]
      exact fun t k => (sg56 t (sg64 t k))
    · rw [if_neg hc56] at hr52_s0
      have sg64 : ∀ t, own_S p e below s₁ (mkF m 64 (own_AIIIIIIIUUUUUUUUUUUUUUUUU p0 p1 p2 r0_s0 r12_s0 r25_s0 r38_s0) [(.int (1 : Int32))]) t → own_S p e below s₁ (mkF m 56 (own_AIIIIIIIUUUUUUUUUUUUUUUUU p0 p1 p2 r0_s0 r12_s0 r25_s0 r38_s0) [(.int (p0 &&& (16 : Int32)))]) t := by
        intro t k
        show own_S p e below s₁ (mkF m 56 (own_AIIIIIIIUUUUUUUUUUUUUUUUU p0 p1 p2 r0_s0 r12_s0 r25_s0 r38_s0) [(.int (p0 &&& (16 : Int32)))]) _
        refine XS.ifNo X0.here hx rfl (hb hby at_56) rfl ((if0 _ _).trans (feq hc56).1) ?_
        show own_S p e below s₁ (mkF m 59 (own_AIIIIIIIUUUUUUUUUUUUUUUUU p0 p1 p2 r0_s0 r12_s0 r25_s0 r38_s0) []) _
        refine XS.iconst X0.here hx rfl (hb hby at_59) ?_
        show own_S p e below s₁ (mkF m 60 (own_AIIIIIIIUUUUUUUUUUUUUUUUU p0 p1 p2 r0_s0 r12_s0 r25_s0 r38_s0) [(.int (1 : Int32))]) _
        refine XS.goto X0.here hx rfl (pc0 := 60) (pc' := 64) rfl (hb hby at_60) (by decide) (by decide) ?_
        exact k
      rw [hr52_s0]
      exact fun t k => (sg56 t (sg64 t k))
  refine own_by str52 ?_
  have sg66 : ∀ t, own_S p e below s₁ (mkF m 66 (own_AIIIIIIIIUUUUUUUUUUUUUUUU p0 p1 p2 r0_s0 r12_s0 r25_s0 r38_s0 r52_s0) []) t → own_S p e below s₁ (mkF m 64 (own_AIIIIIIIUUUUUUUUUUUUUUUUU p0 p1 p2 r0_s0 r12_s0 r25_s0 r38_s0) [(.int r52_s0)]) t := by
    intro t k
    show own_S p e below s₁ (mkF m 64 (own_AIIIIIIIUUUUUUUUUUUUUUUUU p0 p1 p2 r0_s0 r12_s0 r25_s0 r38_s0) [(.int r52_s0)]) _
    refine XS.istore X0.here hx rfl (hb hby at_64) rfl (l' := (own_AIIIIIIIIUUUUUUUUUUUUUUUU p0 p1 p2 r0_s0 r12_s0 r25_s0 r38_s0 r52_s0)) rfl ?_
    exact k
  refine own_by sg66 ?_
  obtain ⟨r66_s0, hr66_s0⟩ : ∃ z : Int32, z = (if (p0 &&& (32 : Int32)) = (0 : Int32) then (0 : Int32) else (1 : Int32)) := ⟨_, rfl⟩
  have str66 : ∀ t, own_S p e below s₁ (mkF m 78 (own_AIIIIIIIIUUUUUUUUUUUUUUUU p0 p1 p2 r0_s0 r12_s0 r25_s0 r38_s0 r52_s0) [(.int r66_s0)]) t → own_S p e below s₁ (mkF m 66 (own_AIIIIIIIIUUUUUUUUUUUUUUUU p0 p1 p2 r0_s0 r12_s0 r25_s0 r38_s0 r52_s0) []) t := by
    have sg70 : ∀ t, own_S p e below s₁ (mkF m 70 (own_AIIIIIIIIUUUUUUUUUUUUUUUU p0 p1 p2 r0_s0 r12_s0 r25_s0 r38_s0 r52_s0) [(.int (p0 &&& (32 : Int32)))]) t → own_S p e below s₁ (mkF m 66 (own_AIIIIIIIIUUUUUUUUUUUUUUUU p0 p1 p2 r0_s0 r12_s0 r25_s0 r38_s0 r52_s0) []) t := by
      intro t k
      show own_S p e below s₁ (mkF m 66 (own_AIIIIIIIIUUUUUUUUUUUUUUUU p0 p1 p2 r0_s0 r12_s0 r25_s0 r38_s0 r52_s0) []) _
      refine XS.iloadN X0.here hx rfl (hb hby at_66) rfl ?_
      show own_S p e below s₁ (mkF m 67 (own_AIIIIIIIIUUUUUUUUUUUUUUUU p0 p1 p2 r0_s0 r12_s0 r25_s0 r38_s0 r52_s0) [(.int p0)]) _
      refine XS.bipush X0.here hx rfl (hb hby at_67) ?_
      show own_S p e below s₁ (mkF m 69 (own_AIIIIIIIIUUUUUUUUUUUUUUUU p0 p1 p2 r0_s0 r12_s0 r25_s0 r38_s0 r52_s0) [(.int (32 : Int32)), (.int p0)]) _
      refine XS.iand X0.here hx rfl (hb hby at_69) rfl ?_
      exact k
    by_cases hc70 : (p0 &&& (32 : Int32)) = (0 : Int32)
    · rw [if_pos hc70] at hr66_s0
      have sg78 : ∀ t, own_S p e below s₁ (mkF m 78 (own_AIIIIIIIIUUUUUUUUUUUUUUUU p0 p1 p2 r0_s0 r12_s0 r25_s0 r38_s0 r52_s0) [(.int (0 : Int32))]) t → own_S p e below s₁ (mkF m 70 (own_AIIIIIIIIUUUUUUUUUUUUUUUU p0 p1 p2 r0_s0 r12_s0 r25_s0 r38_s0 r52_s0) [(.int (p0 &&& (32 : Int32)))]) t := by
        intro t k
        show own_S p e below s₁ (mkF m 70 (own_AIIIIIIIIUUUUUUUUUUUUUUUU p0 p1 p2 r0_s0 r12_s0 r25_s0 r38_s0 r52_s0) [(.int (p0 &&& (32 : Int32)))]) _
        refine XS.ifYes X0.here hx rfl (pc0 := 70) (pc' := 77) rfl (hb hby at_70) rfl ((if0 _ _).trans (teq hc70).1) (by decide) (by decide) ?_
        show own_S p e below s₁ (mkF m 77 (own_AIIIIIIIIUUUUUUUUUUUUUUUU p0 p1 p2 r0_s0 r12_s0 r25_s0 r38_s0 r52_s0) []) _
        refine XS.iconst X0.here hx rfl (hb hby at_77) ?_
        exact k
      rw [hr66_s0]
      exact fun t k => (sg70 t (sg78 t k))
    · rw [if_neg hc70] at hr66_s0
      have sg78 : ∀ t, own_S p e below s₁ (mkF m 78 (own_AIIIIIIIIUUUUUUUUUUUUUUUU p0 p1 p2 r0_s0 r12_s0 r25_s0 r38_s0 r52_s0) [(.int (1 : Int32))]) t → own_S p e below s₁ (mkF m 70 (own_AIIIIIIIIUUUUUUUUUUUUUUUU p0 p1 p2 r0_s0 r12_s0 r25_s0 r38_s0 r52_s0) [(.int (p0 &&& (32 : Int32)))]) t := by
        intro t k
        show own_S p e below s₁ (mkF m 70 (own_AIIIIIIIIUUUUUUUUUUUUUUUU p0 p1 p2 r0_s0 r12_s0 r25_s0 r38_s0 r52_s0) [(.int (p0 &&& (32 : Int32)))]) _
        refine XS.ifNo X0.here hx rfl (hb hby at_70) rfl ((if0 _ _).trans (feq hc70).1) ?_
        show own_S p e below s₁ (mkF m 73 (own_AIIIIIIIIUUUUUUUUUUUUUUUU p0 p1 p2 r0_s0 r12_s0 r25_s0 r38_s0 r52_s0) []) _
        refine XS.iconst X0.here hx rfl (hb hby at_73) ?_
        show own_S p e below s₁ (mkF m 74 (own_AIIIIIIIIUUUUUUUUUUUUUUUU p0 p1 p2 r0_s0 r12_s0 r25_s0 r38_s0 r52_s0) [(.int (1 : Int32))]) _
        refine XS.goto X0.here hx rfl (pc0 := 74) (pc' := 78) rfl (hb hby at_74) (by decide) (by decide) ?_
        exact k
      rw [hr66_s0]
      exact fun t k => (sg70 t (sg78 t k))
  refine own_by str66 ?_
  have sg80 : ∀ t, own_S p e below s₁ (mkF m 80 (own_AIIIIIIIIIUUUUUUUUUUUUUUU p0 p1 p2 r0_s0 r12_s0 r25_s0 r38_s0 r52_s0 r66_s0) []) t → own_S p e below s₁ (mkF m 78 (own_AIIIIIIIIUUUUUUUUUUUUUUUU p0 p1 p2 r0_s0 r12_s0 r25_s0 r38_s0 r52_s0) [(.int r66_s0)]) t := by
    intro t k
    show own_S p e below s₁ (mkF m 78 (own_AIIIIIIIIUUUUUUUUUUUUUUUU p0 p1 p2 r0_s0 r12_s0 r25_s0 r38_s0 r52_s0) [(.int r66_s0)]) _
    refine XS.istore X0.here hx rfl (hb hby at_78) rfl (l' := (own_AIIIIIIIIIUUUUUUUUUUUUUUU p0 p1 p2 r0_s0 r12_s0 r25_s0 r38_s0 r52_s0 r66_s0)) rfl ?_
    exact k
  refine own_by sg80 ?_
  obtain ⟨r80_s0, hr80_s0⟩ : ∃ z : Int32, z = (if (p0 &&& (64 : Int32)) = (0 : Int32) then (0 : Int32) else (1 : Int32)) := ⟨_, rfl⟩
  have str80 : ∀ t, own_S p e below s₁ (mkF m 92 (own_AIIIIIIIIIUUUUUUUUUUUUUUU p0 p1 p2 r0_s0 r12_s0 r25_s0 r38_s0 r52_s0 r66_s0) [(.int r80_s0)]) t → own_S p e below s₁ (mkF m 80 (own_AIIIIIIIIIUUUUUUUUUUUUUUU p0 p1 p2 r0_s0 r12_s0 r25_s0 r38_s0 r52_s0 r66_s0) []) t := by
    have sg84 : ∀ t, own_S p e below s₁ (mkF m 84 (own_AIIIIIIIIIUUUUUUUUUUUUUUU p0 p1 p2 r0_s0 r12_s0 r25_s0 r38_s0 r52_s0 r66_s0) [(.int (p0 &&& (64 : Int32)))]) t → own_S p e below s₁ (mkF m 80 (own_AIIIIIIIIIUUUUUUUUUUUUUUU p0 p1 p2 r0_s0 r12_s0 r25_s0 r38_s0 r52_s0 r66_s0) []) t := by
      intro t k
      show own_S p e below s₁ (mkF m 80 (own_AIIIIIIIIIUUUUUUUUUUUUUUU p0 p1 p2 r0_s0 r12_s0 r25_s0 r38_s0 r52_s0 r66_s0) []) _
      refine XS.iloadN X0.here hx rfl (hb hby at_80) rfl ?_
      show own_S p e below s₁ (mkF m 81 (own_AIIIIIIIIIUUUUUUUUUUUUUUU p0 p1 p2 r0_s0 r12_s0 r25_s0 r38_s0 r52_s0 r66_s0) [(.int p0)]) _
      refine XS.bipush X0.here hx rfl (hb hby at_81) ?_
      show own_S p e below s₁ (mkF m 83 (own_AIIIIIIIIIUUUUUUUUUUUUUUU p0 p1 p2 r0_s0 r12_s0 r25_s0 r38_s0 r52_s0 r66_s0) [(.int (64 : Int32)), (.int p0)]) _
      refine XS.iand X0.here hx rfl (hb hby at_83) rfl ?_
      exact k
    by_cases hc84 : (p0 &&& (64 : Int32)) = (0 : Int32)
    · rw [if_pos hc84] at hr80_s0
      have sg92 : ∀ t, own_S p e below s₁ (mkF m 92 (own_AIIIIIIIIIUUUUUUUUUUUUUUU p0 p1 p2 r0_s0 r12_s0 r25_s0 r38_s0 r52_s0 r66_s0) [(.int (0 : Int32))]) t → own_S p e below s₁ (mkF m 84 (own_AIIIIIIIIIUUUUUUUUUUUUUUU p0 p1 p2 r0_s0 r12_s0 r25_s0 r38_s0 r52_s0 r66_s0) [(.int (p0 &&& (64 : Int32)))]) t := by
        intro t k
        show own_S p e below s₁ (mkF m 84 (own_AIIIIIIIIIUUUUUUUUUUUUUUU p0 p1 p2 r0_s0 r12_s0 r25_s0 r38_s0 r52_s0 r66_s0) [(.int (p0 &&& (64 : Int32)))]) _
        refine XS.ifYes X0.here hx rfl (pc0 := 84) (pc' := 91) rfl (hb hby at_84) rfl ((if0 _ _).trans (teq hc84).1) (by decide) (by decide) ?_
        show own_S p e below s₁ (mkF m 91 (own_AIIIIIIIIIUUUUUUUUUUUUUUU p0 p1 p2 r0_s0 r12_s0 r25_s0 r38_s0 r52_s0 r66_s0) []) _
        refine XS.iconst X0.here hx rfl (hb hby at_91) ?_
        exact k
      rw [hr80_s0]
      exact fun t k => (sg84 t (sg92 t k))
    · rw [if_neg hc84] at hr80_s0
      have sg92 : ∀ t, own_S p e below s₁ (mkF m 92 (own_AIIIIIIIIIUUUUUUUUUUUUUUU p0 p1 p2 r0_s0 r12_s0 r25_s0 r38_s0 r52_s0 r66_s0) [(.int (1 : Int32))]) t → own_S p e below s₁ (mkF m 84 (own_AIIIIIIIIIUUUUUUUUUUUUUUU p0 p1 p2 r0_s0 r12_s0 r25_s0 r38_s0 r52_s0 r66_s0) [(.int (p0 &&& (64 : Int32)))]) t := by
        intro t k
        show own_S p e below s₁ (mkF m 84 (own_AIIIIIIIIIUUUUUUUUUUUUUUU p0 p1 p2 r0_s0 r12_s0 r25_s0 r38_s0 r52_s0 r66_s0) [(.int (p0 &&& (64 : Int32)))]) _
        refine XS.ifNo X0.here hx rfl (hb hby at_84) rfl ((if0 _ _).trans (feq hc84).1) ?_
        show own_S p e below s₁ (mkF m 87 (own_AIIIIIIIIIUUUUUUUUUUUUUUU p0 p1 p2 r0_s0 r12_s0 r25_s0 r38_s0 r52_s0 r66_s0) []) _
        refine XS.iconst X0.here hx rfl (hb hby at_87) ?_
        show own_S p e below s₁ (mkF m 88 (own_AIIIIIIIIIUUUUUUUUUUUUUUU p0 p1 p2 r0_s0 r12_s0 r25_s0 r38_s0 r52_s0 r66_s0) [(.int (1 : Int32))]) _
        refine XS.goto X0.here hx rfl (pc0 := 88) (pc' := 92) rfl (hb hby at_88) (by decide) (by decide) ?_
        exact k
      rw [hr80_s0]
      exact fun t k => (sg84 t (sg92 t k))
  refine own_by str80 ?_
  have sg94 : ∀ t, own_S p e below s₁ (mkF m 94 (own_AIIIIIIIIIIUUUUUUUUUUUUUU p0 p1 p2 r0_s0 r12_s0 r25_s0 r38_s0 r52_s0 r66_s0 r80_s0) []) t → own_S p e below s₁ (mkF m 92 (own_AIIIIIIIIIUUUUUUUUUUUUUUU p0 p1 p2 r0_s0 r12_s0 r25_s0 r38_s0 r52_s0 r66_s0) [(.int r80_s0)]) t := by
    intro t k
    show own_S p e below s₁ (mkF m 92 (own_AIIIIIIIIIUUUUUUUUUUUUUUU p0 p1 p2 r0_s0 r12_s0 r25_s0 r38_s0 r52_s0 r66_s0) [(.int r80_s0)]) _
    refine XS.istore X0.here hx rfl (hb hby at_92) rfl (l' := (own_AIIIIIIIIIIUUUUUUUUUUUUUU p0 p1 p2 r0_s0 r12_s0 r25_s0 r38_s0 r52_s0 r66_s0 r80_s0)) rfl ?_
    exact k
  refine own_by sg94 ?_
  obtain ⟨r94_s0, hr94_s0⟩ : ∃ z : Int32, z = (if (p0 &&& (128 : Int32)) = (0 : Int32) then (0 : Int32) else (1 : Int32)) := ⟨_, rfl⟩
  have str94 : ∀ t, own_S p e below s₁ (mkF m 107 (own_AIIIIIIIIIIUUUUUUUUUUUUUU p0 p1 p2 r0_s0 r12_s0 r25_s0 r38_s0 r52_s0 r66_s0 r80_s0) [(.int r94_s0)]) t → own_S p e below s₁ (mkF m 94 (own_AIIIIIIIIIIUUUUUUUUUUUUUU p0 p1 p2 r0_s0 r12_s0 r25_s0 r38_s0 r52_s0 r66_s0 r80_s0) []) t := by
    have sg99 : ∀ t, own_S p e below s₁ (mkF m 99 (own_AIIIIIIIIIIUUUUUUUUUUUUUU p0 p1 p2 r0_s0 r12_s0 r25_s0 r38_s0 r52_s0 r66_s0 r80_s0) [(.int (p0 &&& (128 : Int32)))]) t → own_S p e below s₁ (mkF m 94 (own_AIIIIIIIIIIUUUUUUUUUUUUUU p0 p1 p2 r0_s0 r12_s0 r25_s0 r38_s0 r52_s0 r66_s0 r80_s0) []) t := by
      intro t k
      show own_S p e below s₁ (mkF m 94 (own_AIIIIIIIIIIUUUUUUUUUUUUUU p0 p1 p2 r0_s0 r12_s0 r25_s0 r38_s0 r52_s0 r66_s0 r80_s0) []) _
      refine XS.iloadN X0.here hx rfl (hb hby at_94) rfl ?_
      show own_S p e below s₁ (mkF m 95 (own_AIIIIIIIIIIUUUUUUUUUUUUUU p0 p1 p2 r0_s0 r12_s0 r25_s0 r38_s0 r52_s0 r66_s0 r80_s0) [(.int p0)]) _
      refine XS.sipush X0.here hx rfl (hb hby at_95) ?_
      show own_S p e below s₁ (mkF m 98 (own_AIIIIIIIIIIUUUUUUUUUUUUUU p0 p1 p2 r0_s0 r12_s0 r25_s0 r38_s0 r52_s0 r66_s0 r80_s0) [(.int (128 : Int32)), (.int p0)]) _
      refine XS.iand X0.here hx rfl (hb hby at_98) rfl ?_
      exact k
    by_cases hc99 : (p0 &&& (128 : Int32)) = (0 : Int32)
    · rw [if_pos hc99] at hr94_s0
      have sg107 : ∀ t, own_S p e below s₁ (mkF m 107 (own_AIIIIIIIIIIUUUUUUUUUUUUUU p0 p1 p2 r0_s0 r12_s0 r25_s0 r38_s0 r52_s0 r66_s0 r80_s0) [(.int (0 : Int32))]) t → own_S p e below s₁ (mkF m 99 (own_AIIIIIIIIIIUUUUUUUUUUUUUU p0 p1 p2 r0_s0 r12_s0 r25_s0 r38_s0 r52_s0 r66_s0 r80_s0) [(.int (p0 &&& (128 : Int32)))]) t := by
        intro t k
        show own_S p e below s₁ (mkF m 99 (own_AIIIIIIIIIIUUUUUUUUUUUUUU p0 p1 p2 r0_s0 r12_s0 r25_s0 r38_s0 r52_s0 r66_s0 r80_s0) [(.int (p0 &&& (128 : Int32)))]) _
        refine XS.ifYes X0.here hx rfl (pc0 := 99) (pc' := 106) rfl (hb hby at_99) rfl ((if0 _ _).trans (teq hc99).1) (by decide) (by decide) ?_
        show own_S p e below s₁ (mkF m 106 (own_AIIIIIIIIIIUUUUUUUUUUUUUU p0 p1 p2 r0_s0 r12_s0 r25_s0 r38_s0 r52_s0 r66_s0 r80_s0) []) _
        refine XS.iconst X0.here hx rfl (hb hby at_106) ?_
        exact k
      rw [hr94_s0]
      exact fun t k => (sg99 t (sg107 t k))
    · rw [if_neg hc99] at hr94_s0
      have sg107 : ∀ t, own_S p e below s₁ (mkF m 107 (own_AIIIIIIIIIIUUUUUUUUUUUUUU p0 p1 p2 r0_s0 r12_s0 r25_s0 r38_s0 r52_s0 r66_s0 r80_s0) [(.int (1 : Int32))]) t → own_S p e below s₁ (mkF m 99 (own_AIIIIIIIIIIUUUUUUUUUUUUUU p0 p1 p2 r0_s0 r12_s0 r25_s0 r38_s0 r52_s0 r66_s0 r80_s0) [(.int (p0 &&& (128 : Int32)))]) t := by
        intro t k
        show own_S p e below s₁ (mkF m 99 (own_AIIIIIIIIIIUUUUUUUUUUUUUU p0 p1 p2 r0_s0 r12_s0 r25_s0 r38_s0 r52_s0 r66_s0 r80_s0) [(.int (p0 &&& (128 : Int32)))]) _
        refine XS.ifNo X0.here hx rfl (hb hby at_99) rfl ((if0 _ _).trans (feq hc99).1) ?_
        show own_S p e below s₁ (mkF m 102 (own_AIIIIIIIIIIUUUUUUUUUUUUUU p0 p1 p2 r0_s0 r12_s0 r25_s0 r38_s0 r52_s0 r66_s0 r80_s0) []) _
        refine XS.iconst X0.here hx rfl (hb hby at_102) ?_
        show own_S p e below s₁ (mkF m 103 (own_AIIIIIIIIIIUUUUUUUUUUUUUU p0 p1 p2 r0_s0 r12_s0 r25_s0 r38_s0 r52_s0 r66_s0 r80_s0) [(.int (1 : Int32))]) _
        refine XS.goto X0.here hx rfl (pc0 := 103) (pc' := 107) rfl (hb hby at_103) (by decide) (by decide) ?_
        exact k
      rw [hr94_s0]
      exact fun t k => (sg99 t (sg107 t k))
  refine own_by str94 ?_
  have sg109 : ∀ t, own_S p e below s₁ (mkF m 109 (own_AIIIIIIIIIIIUUUUUUUUUUUUU p0 p1 p2 r0_s0 r12_s0 r25_s0 r38_s0 r52_s0 r66_s0 r80_s0 r94_s0) []) t → own_S p e below s₁ (mkF m 107 (own_AIIIIIIIIIIUUUUUUUUUUUUUU p0 p1 p2 r0_s0 r12_s0 r25_s0 r38_s0 r52_s0 r66_s0 r80_s0) [(.int r94_s0)]) t := by
    intro t k
    show own_S p e below s₁ (mkF m 107 (own_AIIIIIIIIIIUUUUUUUUUUUUUU p0 p1 p2 r0_s0 r12_s0 r25_s0 r38_s0 r52_s0 r66_s0 r80_s0) [(.int r94_s0)]) _
    refine XS.istore X0.here hx rfl (hb hby at_107) rfl (l' := (own_AIIIIIIIIIIIUUUUUUUUUUUUU p0 p1 p2 r0_s0 r12_s0 r25_s0 r38_s0 r52_s0 r66_s0 r80_s0 r94_s0)) rfl ?_
    exact k
  refine own_by sg109 ?_
  obtain ⟨r109_s0, hr109_s0⟩ : ∃ z : Int32, z = (if (p0 &&& (256 : Int32)) = (0 : Int32) then (0 : Int32) else (1 : Int32)) := ⟨_, rfl⟩
  have str109 : ∀ t, own_S p e below s₁ (mkF m 122 (own_AIIIIIIIIIIIUUUUUUUUUUUUU p0 p1 p2 r0_s0 r12_s0 r25_s0 r38_s0 r52_s0 r66_s0 r80_s0 r94_s0) [(.int r109_s0)]) t → own_S p e below s₁ (mkF m 109 (own_AIIIIIIIIIIIUUUUUUUUUUUUU p0 p1 p2 r0_s0 r12_s0 r25_s0 r38_s0 r52_s0 r66_s0 r80_s0 r94_s0) []) t := by
    have sg114 : ∀ t, own_S p e below s₁ (mkF m 114 (own_AIIIIIIIIIIIUUUUUUUUUUUUU p0 p1 p2 r0_s0 r12_s0 r25_s0 r38_s0 r52_s0 r66_s0 r80_s0 r94_s0) [(.int (p0 &&& (256 : Int32)))]) t → own_S p e below s₁ (mkF m 109 (own_AIIIIIIIIIIIUUUUUUUUUUUUU p0 p1 p2 r0_s0 r12_s0 r25_s0 r38_s0 r52_s0 r66_s0 r80_s0 r94_s0) []) t := by
      intro t k
      show own_S p e below s₁ (mkF m 109 (own_AIIIIIIIIIIIUUUUUUUUUUUUU p0 p1 p2 r0_s0 r12_s0 r25_s0 r38_s0 r52_s0 r66_s0 r80_s0 r94_s0) []) _
      refine XS.iloadN X0.here hx rfl (hb hby at_109) rfl ?_
      show own_S p e below s₁ (mkF m 110 (own_AIIIIIIIIIIIUUUUUUUUUUUUU p0 p1 p2 r0_s0 r12_s0 r25_s0 r38_s0 r52_s0 r66_s0 r80_s0 r94_s0) [(.int p0)]) _
      refine XS.sipush X0.here hx rfl (hb hby at_110) ?_
      show own_S p e below s₁ (mkF m 113 (own_AIIIIIIIIIIIUUUUUUUUUUUUU p0 p1 p2 r0_s0 r12_s0 r25_s0 r38_s0 r52_s0 r66_s0 r80_s0 r94_s0) [(.int (256 : Int32)), (.int p0)]) _
      refine XS.iand X0.here hx rfl (hb hby at_113) rfl ?_
      exact k
    by_cases hc114 : (p0 &&& (256 : Int32)) = (0 : Int32)
    · rw [if_pos hc114] at hr109_s0
      have sg122 : ∀ t, own_S p e below s₁ (mkF m 122 (own_AIIIIIIIIIIIUUUUUUUUUUUUU p0 p1 p2 r0_s0 r12_s0 r25_s0 r38_s0 r52_s0 r66_s0 r80_s0 r94_s0) [(.int (0 : Int32))]) t → own_S p e below s₁ (mkF m 114 (own_AIIIIIIIIIIIUUUUUUUUUUUUU p0 p1 p2 r0_s0 r12_s0 r25_s0 r38_s0 r52_s0 r66_s0 r80_s0 r94_s0) [(.int (p0 &&& (256 : Int32)))]) t := by
        intro t k
        show own_S p e below s₁ (mkF m 114 (own_AIIIIIIIIIIIUUUUUUUUUUUUU p0 p1 p2 r0_s0 r12_s0 r25_s0 r38_s0 r52_s0 r66_s0 r80_s0 r94_s0) [(.int (p0 &&& (256 : Int32)))]) _
        refine XS.ifYes X0.here hx rfl (pc0 := 114) (pc' := 121) rfl (hb hby at_114) rfl ((if0 _ _).trans (teq hc114).1) (by decide) (by decide) ?_
        show own_S p e below s₁ (mkF m 121 (own_AIIIIIIIIIIIUUUUUUUUUUUUU p0 p1 p2 r0_s0 r12_s0 r25_s0 r38_s0 r52_s0 r66_s0 r80_s0 r94_s0) []) _
        refine XS.iconst X0.here hx rfl (hb hby at_121) ?_
        exact k
      rw [hr109_s0]
      exact fun t k => (sg114 t (sg122 t k))
    · rw [if_neg hc114] at hr109_s0
      have sg122 : ∀ t, own_S p e below s₁ (mkF m 122 (own_AIIIIIIIIIIIUUUUUUUUUUUUU p0 p1 p2 r0_s0 r12_s0 r25_s0 r38_s0 r52_s0 r66_s0 r80_s0 r94_s0) [(.int (1 : Int32))]) t → own_S p e below s₁ (mkF m 114 (own_AIIIIIIIIIIIUUUUUUUUUUUUU p0 p1 p2 r0_s0 r12_s0 r25_s0 r38_s0 r52_s0 r66_s0 r80_s0 r94_s0) [(.int (p0 &&& (256 : Int32)))]) t := by
        intro t k
        show own_S p e below s₁ (mkF m 114 (own_AIIIIIIIIIIIUUUUUUUUUUUUU p0 p1 p2 r0_s0 r12_s0 r25_s0 r38_s0 r52_s0 r66_s0 r80_s0 r94_s0) [(.int (p0 &&& (256 : Int32)))]) _
        refine XS.ifNo X0.here hx rfl (hb hby at_114) rfl ((if0 _ _).trans (feq hc114).1) ?_
        show own_S p e below s₁ (mkF m 117 (own_AIIIIIIIIIIIUUUUUUUUUUUUU p0 p1 p2 r0_s0 r12_s0 r25_s0 r38_s0 r52_s0 r66_s0 r80_s0 r94_s0) []) _
        refine XS.iconst X0.here hx rfl (hb hby at_117) ?_
        show own_S p e below s₁ (mkF m 118 (own_AIIIIIIIIIIIUUUUUUUUUUUUU p0 p1 p2 r0_s0 r12_s0 r25_s0 r38_s0 r52_s0 r66_s0 r80_s0 r94_s0) [(.int (1 : Int32))]) _
        refine XS.goto X0.here hx rfl (pc0 := 118) (pc' := 122) rfl (hb hby at_118) (by decide) (by decide) ?_
        exact k
      rw [hr109_s0]
      exact fun t k => (sg114 t (sg122 t k))
  refine own_by str109 ?_
  obtain ⟨v128, hv128⟩ : ∃ z : Int32, z = (p1 &&& (1073741823 : Int32)) := ⟨_, rfl⟩
  have sg128 : ∀ t, own_S p e below s₁ (mkF m 128 (own_AIIIIIIIIIIIIUUUUUUUUUUUU p0 p1 p2 r0_s0 r12_s0 r25_s0 r38_s0 r52_s0 r66_s0 r80_s0 r94_s0 r109_s0) [(.int v128)]) t → own_S p e below s₁ (mkF m 122 (own_AIIIIIIIIIIIUUUUUUUUUUUUU p0 p1 p2 r0_s0 r12_s0 r25_s0 r38_s0 r52_s0 r66_s0 r80_s0 r94_s0) [(.int r109_s0)]) t := by
    intro t k
    rw [hv128] at k
    show own_S p e below s₁ (mkF m 122 (own_AIIIIIIIIIIIUUUUUUUUUUUUU p0 p1 p2 r0_s0 r12_s0 r25_s0 r38_s0 r52_s0 r66_s0 r80_s0 r94_s0) [(.int r109_s0)]) _
    refine XS.istore X0.here hx rfl (hb hby at_122) rfl (l' := (own_AIIIIIIIIIIIIUUUUUUUUUUUU p0 p1 p2 r0_s0 r12_s0 r25_s0 r38_s0 r52_s0 r66_s0 r80_s0 r94_s0 r109_s0)) rfl ?_
    show own_S p e below s₁ (mkF m 124 (own_AIIIIIIIIIIIIUUUUUUUUUUUU p0 p1 p2 r0_s0 r12_s0 r25_s0 r38_s0 r52_s0 r66_s0 r80_s0 r94_s0 r109_s0) []) _
    refine XS.iloadN X0.here hx rfl (hb hby at_124) rfl ?_
    show own_S p e below s₁ (mkF m 125 (own_AIIIIIIIIIIIIUUUUUUUUUUUU p0 p1 p2 r0_s0 r12_s0 r25_s0 r38_s0 r52_s0 r66_s0 r80_s0 r94_s0 r109_s0) [(.int p1)]) _
    refine X0.ldcInt hx hown (mvT hZ (hw _ (List.mem_of_getElem? (i := 0) rfl))) (g := (mkF m 125 (own_AIIIIIIIIIIIIUUUUUUUUUUUU p0 p1 p2 r0_s0 r12_s0 r25_s0 r38_s0 r52_s0 r66_s0 r80_s0 r94_s0 r109_s0) [(.int p1)])) rfl (hb hby at_125) _ ?_
    show own_S p e below s₁ (mkF m 127 (own_AIIIIIIIIIIIIUUUUUUUUUUUU p0 p1 p2 r0_s0 r12_s0 r25_s0 r38_s0 r52_s0 r66_s0 r80_s0 r94_s0 r109_s0) [(.int (1073741823 : Int32)), (.int p1)]) _
    refine XS.iand X0.here hx rfl (hb hby at_127) rfl ?_
    exact k
  refine own_by sg128 ?_
  have sg130 : ∀ t, own_S p e below s₁ (mkF m 130 (own_AIIIIIIIIIIIIIUUUUUUUUUUU p0 p1 p2 r0_s0 r12_s0 r25_s0 r38_s0 r52_s0 r66_s0 r80_s0 r94_s0 r109_s0 v128) []) t → own_S p e below s₁ (mkF m 128 (own_AIIIIIIIIIIIIUUUUUUUUUUUU p0 p1 p2 r0_s0 r12_s0 r25_s0 r38_s0 r52_s0 r66_s0 r80_s0 r94_s0 r109_s0) [(.int v128)]) t := by
    intro t k
    show own_S p e below s₁ (mkF m 128 (own_AIIIIIIIIIIIIUUUUUUUUUUUU p0 p1 p2 r0_s0 r12_s0 r25_s0 r38_s0 r52_s0 r66_s0 r80_s0 r94_s0 r109_s0) [(.int v128)]) _
    refine XS.istore X0.here hx rfl (hb hby at_128) rfl (l' := (own_AIIIIIIIIIIIIIUUUUUUUUUUU p0 p1 p2 r0_s0 r12_s0 r25_s0 r38_s0 r52_s0 r66_s0 r80_s0 r94_s0 r109_s0 v128)) rfl ?_
    exact k
  refine own_by sg130 ?_
  have hb_r0_s0 : r0_s0 = 0 ∨ r0_s0 = 1 := by rw [hr0_s0]; split <;> simp
  have hb_r12_s0 : r12_s0 = 0 ∨ r12_s0 = 1 := by rw [hr12_s0]; split <;> simp
  have hb_r25_s0 : r25_s0 = 0 ∨ r25_s0 = 1 := by rw [hr25_s0]; split <;> simp
  have hb_r38_s0 : r38_s0 = 0 ∨ r38_s0 = 1 := by rw [hr38_s0]; split <;> simp
  have hb_r52_s0 : r52_s0 = 0 ∨ r52_s0 = 1 := by rw [hr52_s0]; split <;> simp
  have hb_r66_s0 : r66_s0 = 0 ∨ r66_s0 = 1 := by rw [hr66_s0]; split <;> simp
  have hb_r80_s0 : r80_s0 = 0 ∨ r80_s0 = 1 := by rw [hr80_s0]; split <;> simp
  have hb_r94_s0 : r94_s0 = 0 ∨ r94_s0 = 1 := by rw [hr94_s0]; split <;> simp
  have hb_r109_s0 : r109_s0 = 0 ∨ r109_s0 = 1 := by rw [hr109_s0]; split <;> simp
  have sg131 : ∀ t, own_S p e below s₁ (mkF m 131 (own_AIIIIIIIIIIIIIUUUUUUUUUUU p0 p1 p2 r0_s0 r12_s0 r25_s0 r38_s0 r52_s0 r66_s0 r80_s0 r94_s0 r109_s0 v128) [(.int (2 : Int32))]) t → own_S p e below s₁ (mkF m 130 (own_AIIIIIIIIIIIIIUUUUUUUUUUU p0 p1 p2 r0_s0 r12_s0 r25_s0 r38_s0 r52_s0 r66_s0 r80_s0 r94_s0 r109_s0 v128) []) t := by
    intro t k
    show own_S p e below s₁ (mkF m 130 (own_AIIIIIIIIIIIIIUUUUUUUUUUU p0 p1 p2 r0_s0 r12_s0 r25_s0 r38_s0 r52_s0 r66_s0 r80_s0 r94_s0 r109_s0 v128) []) _
    refine XS.iconst X0.here hx rfl (hb hby at_130) ?_
    exact k
  refine own_by sg131 ?_
  obtain ⟨T131, h131, kc131, X131, e131, E131, A131, st131⟩ := newP X0 hx hZ (hw _ (List.mem_of_getElem? (i := 1) rfl)) e0 (g := (mkF m 131 (own_AIIIIIIIIIIIIIUUUUUUUUUUU p0 p1 p2 r0_s0 r12_s0 r25_s0 r38_s0 r52_s0 r66_s0 r80_s0 r94_s0 r109_s0 v128) [(.int (2 : Int32))])) rfl (hb hby at_131) rfl (by decide) (cap := 2) (by decide) (by decide) (by decide) (by decide)
  obtain ⟨b131, g131⟩ : ∃ z, z = h0.size := ⟨_, rfl⟩
  rw [← g131] at A131 st131
  have g_b131 : n0 ≤ b131 := Nat.le_trans Z0 (Nat.le_of_eq g131.symm)
  have sz_b131 : h0.size ≤ b131 := Nat.le_trans K0.1 (Nat.le_of_eq g131.symm)
  have K131 := K0.ext E131
  have Z131 : n0 ≤ h131.size := Nat.le_trans Z0 E131.1
  have V131 : Arv Z h131 b131 kc131 .char (2 : Int32) [(.int (0 : Int32)), (.int (0 : Int32))] (.int (0 : Int32)) := (Arv.new A131 (by decide)).pad (pad_rep [] (.int (0 : Int32)) 2)
  refine own_by st131 ?_
  obtain ⟨k141, hk141⟩ : ∃ z : Int32, z = ((p2 &&& (255 : Int32)).toUInt32.toUInt16.toUInt32.toInt32) := ⟨_, rfl⟩
  have hk_k141 : ¬ k141 < 0 ∧ ¬ (255 : Int32) < k141 := by rw [hk141]; exact own_c255 _
  have sg141 : ∀ t, own_S p e below T131 (mkF m 141 (own_AIIIIIIIIIIIIIUUUUUUUUUUU p0 p1 p2 r0_s0 r12_s0 r25_s0 r38_s0 r52_s0 r66_s0 r80_s0 r94_s0 r109_s0 v128) [(.int k141), (.int (0 : Int32)), (.ref b131), (.ref b131)]) t → own_S p e below T131 (mkF m 133 (own_AIIIIIIIIIIIIIUUUUUUUUUUU p0 p1 p2 r0_s0 r12_s0 r25_s0 r38_s0 r52_s0 r66_s0 r80_s0 r94_s0 r109_s0 v128) [(.ref b131)]) t := by
    intro t k
    rw [hk141] at k
    show own_S p e below T131 (mkF m 133 (own_AIIIIIIIIIIIIIUUUUUUUUUUU p0 p1 p2 r0_s0 r12_s0 r25_s0 r38_s0 r52_s0 r66_s0 r80_s0 r94_s0 r109_s0 v128) [(.ref b131)]) _
    refine XS.dup X131.here hx rfl (hb hby at_133) rfl rfl ?_
    show own_S p e below T131 (mkF m 134 (own_AIIIIIIIIIIIIIUUUUUUUUUUU p0 p1 p2 r0_s0 r12_s0 r25_s0 r38_s0 r52_s0 r66_s0 r80_s0 r94_s0 r109_s0 v128) [(.ref b131), (.ref b131)]) _
    refine XS.iconst X131.here hx rfl (hb hby at_134) ?_
    show own_S p e below T131 (mkF m 135 (own_AIIIIIIIIIIIIIUUUUUUUUUUU p0 p1 p2 r0_s0 r12_s0 r25_s0 r38_s0 r52_s0 r66_s0 r80_s0 r94_s0 r109_s0 v128) [(.int (0 : Int32)), (.ref b131), (.ref b131)]) _
    refine XS.iloadN X131.here hx rfl (hb hby at_135) rfl ?_
    show own_S p e below T131 (mkF m 136 (own_AIIIIIIIIIIIIIUUUUUUUUUUU p0 p1 p2 r0_s0 r12_s0 r25_s0 r38_s0 r52_s0 r66_s0 r80_s0 r94_s0 r109_s0 v128) [(.int p2), (.int (0 : Int32)), (.ref b131), (.ref b131)]) _
    refine XS.sipush X131.here hx rfl (hb hby at_136) ?_
    show own_S p e below T131 (mkF m 139 (own_AIIIIIIIIIIIIIUUUUUUUUUUU p0 p1 p2 r0_s0 r12_s0 r25_s0 r38_s0 r52_s0 r66_s0 r80_s0 r94_s0 r109_s0 v128) [(.int (255 : Int32)), (.int p2), (.int (0 : Int32)), (.ref b131), (.ref b131)]) _
    refine XS.iand X131.here hx rfl (hb hby at_139) rfl ?_
    show own_S p e below T131 (mkF m 140 (own_AIIIIIIIIIIIIIUUUUUUUUUUU p0 p1 p2 r0_s0 r12_s0 r25_s0 r38_s0 r52_s0 r66_s0 r80_s0 r94_s0 r109_s0 v128) [(.int (p2 &&& (255 : Int32))), (.int (0 : Int32)), (.ref b131), (.ref b131)]) _
    refine XS.i2c X131.here hx rfl (hb hby at_140) rfl ?_
    exact k
  refine own_by sg141 ?_
  obtain ⟨cl141, Ar141, qa141, Sa141, Na141, Ha141, Ga141⟩ := V131
  obtain ⟨T141, h141, X141, e141, W141, st141⟩ := stC X131 hx hZ e131 Ar141 (j := (0 : Int32)) (inb_of Sa141 ⟨by decide, by decide⟩) (g := (mkF m 141 (own_AIIIIIIIIIIIIIUUUUUUUUUUU p0 p1 p2 r0_s0 r12_s0 r25_s0 r38_s0 r52_s0 r66_s0 r80_s0 r94_s0 r109_s0 v128) [(.int k141), (.int (0 : Int32)), (.ref b131), (.ref b131)])) rfl rfl (hb hby at_141)
  have V141 : Arv Z h141 b131 kc131 .char (2 : Int32) [(.int k141), (.int (0 : Int32))] (.int (0 : Int32)) := by
    have q := Arv.set Ar141 qa141 Sa141 Na141 Ha141 Ga141 (fits_nar_char _) W141 0 rfl (Nat.le_of_ble_eq_true rfl)
    rw [own_narc hk_k141] at q
    exact q
  have K141 : Keep h0 h141 [] := K131.wr W141 (Or.inr sz_b131)
  have Z141 : n0 ≤ h141.size := Nat.le_trans Z131 (Keep.of_wr W141).1
  have N141 := Fr.snoc X141 N0 g_b131
  refine own_by st141 ?_
  obtain ⟨k153, hk153⟩ : ∃ z : Int32, z = ((((p2.toUInt32 >>> ((8 : Int32) &&& 31).toUInt32).toInt32) &&& (255 : Int32)).toUInt32.toUInt16.toUInt32.toInt32) := ⟨_, rfl⟩
  have hk_k153 : ¬ k153 < 0 ∧ ¬ (255 : Int32) < k153 := by rw [hk153]; exact own_c255 _
  have sg153 : ∀ t, own_S p e below T141 (mkF m 153 (own_AIIIIIIIIIIIIIUUUUUUUUUUU p0 p1 p2 r0_s0 r12_s0 r25_s0 r38_s0 r52_s0 r66_s0 r80_s0 r94_s0 r109_s0 v128) [(.int k153), (.int (1 : Int32)), (.ref b131), (.ref b131)]) t → own_S p e below T141 (mkF m 142 (own_AIIIIIIIIIIIIIUUUUUUUUUUU p0 p1 p2 r0_s0 r12_s0 r25_s0 r38_s0 r52_s0 r66_s0 r80_s0 r94_s0 r109_s0 v128) [(.ref b131)]) t := by
    intro t k
    rw [hk153] at k
    show own_S p e below T141 (mkF m 142 (own_AIIIIIIIIIIIIIUUUUUUUUUUU p0 p1 p2 r0_s0 r12_s0 r25_s0 r38_s0 r52_s0 r66_s0 r80_s0 r94_s0 r109_s0 v128) [(.ref b131)]) _
    refine XS.dup X141.here hx rfl (hb hby at_142) rfl rfl ?_
    show own_S p e below T141 (mkF m 143 (own_AIIIIIIIIIIIIIUUUUUUUUUUU p0 p1 p2 r0_s0 r12_s0 r25_s0 r38_s0 r52_s0 r66_s0 r80_s0 r94_s0 r109_s0 v128) [(.ref b131), (.ref b131)]) _
    refine XS.iconst X141.here hx rfl (hb hby at_143) ?_
    show own_S p e below T141 (mkF m 144 (own_AIIIIIIIIIIIIIUUUUUUUUUUU p0 p1 p2 r0_s0 r12_s0 r25_s0 r38_s0 r52_s0 r66_s0 r80_s0 r94_s0 r109_s0 v128) [(.int (1 : Int32)), (.ref b131), (.ref b131)]) _
    refine XS.iloadN X141.here hx rfl (hb hby at_144) rfl ?_
    show own_S p e below T141 (mkF m 145 (own_AIIIIIIIIIIIIIUUUUUUUUUUU p0 p1 p2 r0_s0 r12_s0 r25_s0 r38_s0 r52_s0 r66_s0 r80_s0 r94_s0 r109_s0 v128) [(.int p2), (.int (1 : Int32)), (.ref b131), (.ref b131)]) _
    refine XS.bipush X141.here hx rfl (hb hby at_145) ?_
    show own_S p e below T141 (mkF m 147 (own_AIIIIIIIIIIIIIUUUUUUUUUUU p0 p1 p2 r0_s0 r12_s0 r25_s0 r38_s0 r52_s0 r66_s0 r80_s0 r94_s0 r109_s0 v128) [(.int (8 : Int32)), (.int p2), (.int (1 : Int32)), (.ref b131), (.ref b131)]) _
    refine XS.iushr X141.here hx rfl (hb hby at_147) rfl ?_
    show own_S p e below T141 (mkF m 148 (own_AIIIIIIIIIIIIIUUUUUUUUUUU p0 p1 p2 r0_s0 r12_s0 r25_s0 r38_s0 r52_s0 r66_s0 r80_s0 r94_s0 r109_s0 v128) [(.int ((p2.toUInt32 >>> ((8 : Int32) &&& 31).toUInt32).toInt32)), (.int (1 : Int32)), (.ref b131), (.ref b131)]) _
    refine XS.sipush X141.here hx rfl (hb hby at_148) ?_
    show own_S p e below T141 (mkF m 151 (own_AIIIIIIIIIIIIIUUUUUUUUUUU p0 p1 p2 r0_s0 r12_s0 r25_s0 r38_s0 r52_s0 r66_s0 r80_s0 r94_s0 r109_s0 v128) [(.int (255 : Int32)), (.int ((p2.toUInt32 >>> ((8 : Int32) &&& 31).toUInt32).toInt32)), (.int (1 : Int32)), (.ref b131), (.ref b131)]) _
    refine XS.iand X141.here hx rfl (hb hby at_151) rfl ?_
    show own_S p e below T141 (mkF m 152 (own_AIIIIIIIIIIIIIUUUUUUUUUUU p0 p1 p2 r0_s0 r12_s0 r25_s0 r38_s0 r52_s0 r66_s0 r80_s0 r94_s0 r109_s0 v128) [(.int (((p2.toUInt32 >>> ((8 : Int32) &&& 31).toUInt32).toInt32) &&& (255 : Int32))), (.int (1 : Int32)), (.ref b131), (.ref b131)]) _
    refine XS.i2c X141.here hx rfl (hb hby at_152) rfl ?_
    exact k
  refine own_by sg153 ?_
  obtain ⟨cl153, Ar153, qa153, Sa153, Na153, Ha153, Ga153⟩ := V141
  obtain ⟨T153, h153, X153, e153, W153, st153⟩ := stC X141 hx hZ e141 Ar153 (j := (1 : Int32)) (inb_of Sa153 ⟨by decide, by decide⟩) (g := (mkF m 153 (own_AIIIIIIIIIIIIIUUUUUUUUUUU p0 p1 p2 r0_s0 r12_s0 r25_s0 r38_s0 r52_s0 r66_s0 r80_s0 r94_s0 r109_s0 v128) [(.int k153), (.int (1 : Int32)), (.ref b131), (.ref b131)])) rfl rfl (hb hby at_153)
  have V153 : Arv Z h153 b131 kc131 .char (2 : Int32) [(.int k141), (.int k153)] (.int (0 : Int32)) := by
    have q := Arv.set Ar153 qa153 Sa153 Na153 Ha153 Ga153 (fits_nar_char _) W153 1 rfl (Nat.le_of_ble_eq_true rfl)
    rw [own_narc hk_k153] at q
    exact q
  have K153 : Keep h0 h153 [] := K141.wr W153 (Or.inr sz_b131)
  have Z153 : n0 ≤ h153.size := Nat.le_trans Z141 (Keep.of_wr W153).1
  have N153 := Fr.snoc X153 N141 g_b131
  refine own_by st153 ?_
  have sg156 : ∀ t, own_S p e below T153 (mkF m 156 (own_AIIIIIIIIIIIIIRUUUUUUUUUU p0 p1 p2 r0_s0 r12_s0 r25_s0 r38_s0 r52_s0 r66_s0 r80_s0 r94_s0 r109_s0 v128 b131) []) t → own_S p e below T153 (mkF m 154 (own_AIIIIIIIIIIIIIUUUUUUUUUUU p0 p1 p2 r0_s0 r12_s0 r25_s0 r38_s0 r52_s0 r66_s0 r80_s0 r94_s0 r109_s0 v128) [(.ref b131)]) t := by
    intro t k
    show own_S p e below T153 (mkF m 154 (own_AIIIIIIIIIIIIIUUUUUUUUUUU p0 p1 p2 r0_s0 r12_s0 r25_s0 r38_s0 r52_s0 r66_s0 r80_s0 r94_s0 r109_s0 v128) [(.ref b131)]) _
    refine XS.astore X153.here hx rfl (hb hby at_154) rfl rfl (l' := (own_AIIIIIIIIIIIIIRUUUUUUUUUU p0 p1 p2 r0_s0 r12_s0 r25_s0 r38_s0 r52_s0 r66_s0 r80_s0 r94_s0 r109_s0 v128 b131)) rfl ?_
    exact k
  refine own_by sg156 ?_
  obtain ⟨T156, h156, X156, e156, E156, A156, D156, -, st156⟩ := newO X153 hx hZ hown (hw _ (List.mem_of_getElem? (i := 2) rfl)) (hw _ (List.mem_of_getElem? (i := 3) rfl)) (hw _ (List.mem_of_getElem? (i := 4) rfl)) e153 (g := (mkF m 156 (own_AIIIIIIIIIIIIIRUUUUUUUUUU p0 p1 p2 r0_s0 r12_s0 r25_s0 r38_s0 r52_s0 r66_s0 r80_s0 r94_s0 r109_s0 v128 b131) [])) rfl (hb hby at_156) (by decide) (by decide)
  obtain ⟨b156, g156⟩ : ∃ z, z = h153.size := ⟨_, rfl⟩
  rw [← g156] at A156 D156 st156
  have ne_b131_b156 : b131 ≠ b156 := Nat.ne_of_lt (Nat.lt_of_lt_of_le V153.lt (Nat.le_of_eq g156.symm))
  have g_b156 : n0 ≤ b156 := Nat.le_trans Z153 (Nat.le_of_eq g156.symm)
  have sz_b156 : h0.size ≤ b156 := Nat.le_trans K153.1 (Nat.le_of_eq g156.symm)
  have K156 := K153.ext E156
  have Z156 : n0 ≤ h156.size := Nat.le_trans Z153 E156.1
  have F_coder_b156 : Fld Z h156 b156 "java/lang/String" "coder" "B" (.int (0 : Int32)) := D156 (Or.inr (hw _ (List.mem_of_getElem? (i := 28) rfl))) (ty := .byte) (by decide)
  have F_value_b156 : Fld Z h156 b156 "java/lang/String" "value" "[B" .null := D156 (Or.inr (hw _ (List.mem_of_getElem? (i := 30) rfl))) (ty := (.array .byte)) (by decide)
  refine own_by st156 ?_
  have sg162 : ∀ t, own_S p e below T156 (mkF m 162 (own_AIIIIIIIIIIIIIRUUUUUUUUUU p0 p1 p2 r0_s0 r12_s0 r25_s0 r38_s0 r52_s0 r66_s0 r80_s0 r94_s0 r109_s0 v128 b131) [(.ref b131), (.ref b156), (.ref b156)]) t → own_S p e below T156 (mkF m 159 (own_AIIIIIIIIIIIIIRUUUUUUUUUU p0 p1 p2 r0_s0 r12_s0 r25_s0 r38_s0 r52_s0 r66_s0 r80_s0 r94_s0 r109_s0 v128 b131) [(.ref b156)]) t := by
    intro t k
    show own_S p e below T156 (mkF m 159 (own_AIIIIIIIIIIIIIRUUUUUUUUUU p0 p1 p2 r0_s0 r12_s0 r25_s0 r38_s0 r52_s0 r66_s0 r80_s0 r94_s0 r109_s0 v128 b131) [(.ref b156)]) _
    refine XS.dup X156.here hx rfl (hb hby at_159) rfl rfl ?_
    show own_S p e below T156 (mkF m 160 (own_AIIIIIIIIIIIIIRUUUUUUUUUU p0 p1 p2 r0_s0 r12_s0 r25_s0 r38_s0 r52_s0 r66_s0 r80_s0 r94_s0 r109_s0 v128 b131) [(.ref b156), (.ref b156)]) _
    refine XS.aload X156.here hx rfl (hb hby at_160) rfl rfl ?_
    exact k
  refine own_by sg162 ?_
  have hp162 : ∀ c ∈ ([k141, k153] : List Int32), ¬ c < 0 ∧ ¬ (255 : Int32) < c := by
    intro c hc
    simp only [List.mem_cons, List.not_mem_nil, or_false] at hc
    rcases hc with rfl | rfl
    · exact hk_k141
    · exact hk_k153
  obtain ⟨_, _, ⟨T162, L162, k162, n162⟩, -, X162, ⟨Lc162, hQ162, l162, y162, z162⟩, st162⟩ := X156.specialBack hx (y := (⟨"java/lang/String", "<init>", "([C)V"⟩ : MethodName)) rfl hown (mvT hZ (hw _ (List.mem_of_getElem? (i := 5) rfl))) (mvT hZ (hw _ (List.mem_of_getElem? (i := 6) rfl))) (mvT hZ (hw _ (List.mem_of_getElem? (i := 7) rfl))) (by decide) (StrChars.Road.backV (W := 1) hZ hws (kI := 4) (hw _ (List.mem_of_getElem? (i := 3) rfl)) (cs := ([k141, k153] : List Int32)) (bs := ([k141, k153] : List Int32).map (fun c => c.toInt8.toInt32)) (n := 2) g_b156 Z156 A156 F_value_b156 F_coder_b156 (V153.ext E156) (O2.ext ((((O.ext E131).wr W141 g_b131).wr W153 g_b131).ext E156).2) P5 rfl rfl (by decide) (by decide) hp162 rfl (by decide) (by decide)) (g := (mkF m 162 (own_AIIIIIIIIIIIIIRUUUUUUUUUU p0 p1 p2 r0_s0 r12_s0 r25_s0 r38_s0 r52_s0 r66_s0 r80_s0 r94_s0 r109_s0 v128 b131) [(.ref b131), (.ref b156), (.ref b156)])) rfl (by rw [hml]; rfl) (Steps.refl _) (a := b156) (argsL := [(.ref b131)]) (rest := [(.ref b156)]) (lenOf pd_0_0 rfl) rfl (by show 2 * 0 + _ ≤ _; exact Nat.le_of_eq rfl) (hb hby at_162) (fun _ _ => ⟨rfl, e156, (by decide : 2 + 1 ≤ _), (by decide : 6 + 2 ≤ _)⟩)
  dsimp only [Pt.U, Pt.locs, Pt.cells, Pt.slots] at X162 l162 y162 z162 st162 hQ162
  subst l162 y162 z162
  obtain ⟨rfl, N162q, Kq162, Eq162, Cq162, t162, kb162, u1162, u2162, u3162, Vq162, Aq162⟩ := hQ162
  have N162 := Fr.app N153 N162q
  have ne_b131_t162 : b131 ≠ t162 := Nat.ne_of_lt (Nat.lt_of_lt_of_le (V153.ext E156).lt u2162)
  have ne_b156_t162 : b156 ≠ t162 := Nat.ne_of_lt (Nat.lt_of_lt_of_le A156.lt u2162)
  have g_t162 : n0 ≤ t162 := Nat.le_trans Z156 u2162
  have sz_t162 : h0.size ≤ t162 := Nat.le_trans K156.1 u2162
  have fc := ((V153.ext E156).keep Kq162 (fun h => ne_b131_b156 (List.mem_singleton.mp h)))
  have K162 : Keep h0 T162.heap [] := K156.trans Kq162 (fun x hx => by cases List.mem_singleton.mp hx; exact Or.inr sz_b156)
  have Z162 : n0 ≤ T162.heap.size := Nat.le_trans Z156 Kq162.1
  refine own_by (fun t k => st162.trans k) ?_
  have sg167 : ∀ t, own_S p e below T162 (mkF m 167 (own_AIIIIIIIIIIIIIRRUUUUUUUUU p0 p1 p2 r0_s0 r12_s0 r25_s0 r38_s0 r52_s0 r66_s0 r80_s0 r94_s0 r109_s0 v128 b131 b156) []) t → own_S p e below T162 (mkF m 165 (own_AIIIIIIIIIIIIIRUUUUUUUUUU p0 p1 p2 r0_s0 r12_s0 r25_s0 r38_s0 r52_s0 r66_s0 r80_s0 r94_s0 r109_s0 v128 b131) [(.ref b156)]) t := by
    intro t k
    show own_S p e below T162 (mkF m 165 (own_AIIIIIIIIIIIIIRUUUUUUUUUU p0 p1 p2 r0_s0 r12_s0 r25_s0 r38_s0 r52_s0 r66_s0 r80_s0 r94_s0 r109_s0 v128 b131) [(.ref b156)]) _
    refine XS.astore X162.here hx rfl (hb hby at_165) rfl rfl (l' := (own_AIIIIIIIIIIIIIRRUUUUUUUUU p0 p1 p2 r0_s0 r12_s0 r25_s0 r38_s0 r52_s0 r66_s0 r80_s0 r94_s0 r109_s0 v128 b131 b156)) rfl ?_
    exact k
  refine own_by sg167 ?_
  obtain ⟨T167, h167, X167, e167, E167, A167, D167, -, st167⟩ := newO X162 hx hZ hown (hw _ (List.mem_of_getElem? (i := 31) rfl)) (hw _ (List.mem_of_getElem? (i := 32) rfl)) (hw _ (List.mem_of_getElem? (i := 33) rfl)) rfl (g := (mkF m 167 (own_AIIIIIIIIIIIIIRRUUUUUUUUU p0 p1 p2 r0_s0 r12_s0 r25_s0 r38_s0 r52_s0 r66_s0 r80_s0 r94_s0 r109_s0 v128 b131 b156) [])) rfl (hb hby at_167) (by decide) (by decide)
  obtain ⟨b167, g167⟩ : ∃ z, z = T162.heap.size := ⟨_, rfl⟩
  rw [← g167] at A167 D167 st167
  have ne_b131_b167 : b131 ≠ b167 := Nat.ne_of_lt (Nat.lt_of_lt_of_le fc.lt (Nat.le_of_eq g167.symm))
  have ne_b156_b167 : b156 ≠ b167 := Nat.ne_of_lt (Nat.lt_of_lt_of_le Eq162.lt (Nat.le_of_eq g167.symm))
  have ne_t162_b167 : t162 ≠ b167 := Nat.ne_of_lt (Nat.lt_of_lt_of_le Aq162.lt (Nat.le_of_eq g167.symm))
  have g_b167 : n0 ≤ b167 := Nat.le_trans Z162 (Nat.le_of_eq g167.symm)
  have sz_b167 : h0.size ≤ b167 := Nat.le_trans K162.1 (Nat.le_of_eq g167.symm)
  have K167 := K162.ext E167
  have Z167 : n0 ≤ h167.size := Nat.le_trans Z162 E167.1
  have F_endpointId_b167 : Fld Z h167 b167 "com/example/last_mile/lastmile/store/EndpointTally" "endpointId" "Ljava/lang/String;" .null := D167 (Or.inr (hw _ (List.mem_of_getElem? (i := 44) rfl))) (ty := (.object "java/lang/String")) (by decide)
  have F_succeeded_b167 : Fld Z h167 b167 "com/example/last_mile/lastmile/store/EndpointTally" "succeeded" "Z" (.int (0 : Int32)) := D167 (Or.inr (hw _ (List.mem_of_getElem? (i := 46) rfl))) (ty := .boolean) (by decide)
  have F_failures_b167 : Fld Z h167 b167 "com/example/last_mile/lastmile/store/EndpointTally" "failures" "I" (.int (0 : Int32)) := D167 (Or.inr (hw _ (List.mem_of_getElem? (i := 48) rfl))) (ty := .int) (by decide)
  have F_probeFailed_b167 : Fld Z h167 b167 "com/example/last_mile/lastmile/store/EndpointTally" "probeFailed" "Z" (.int (0 : Int32)) := D167 (Or.inr (hw _ (List.mem_of_getElem? (i := 50) rfl))) (ty := .boolean) (by decide)
  have F_gone_b167 : Fld Z h167 b167 "com/example/last_mile/lastmile/store/EndpointTally" "gone" "Z" (.int (0 : Int32)) := D167 (Or.inr (hw _ (List.mem_of_getElem? (i := 52) rfl))) (ty := .boolean) (by decide)
  refine own_by st167 ?_
  have sg180 : ∀ t, own_S p e below T167 (mkF m 180 (own_AIIIIIIIIIIIIIRRUUUUUUUUU p0 p1 p2 r0_s0 r12_s0 r25_s0 r38_s0 r52_s0 r66_s0 r80_s0 r94_s0 r109_s0 v128 b131 b156) [(.int r25_s0), (.int r12_s0), (.int v128), (.int r0_s0), (.ref b156), (.ref b167), (.ref b167)]) t → own_S p e below T167 (mkF m 170 (own_AIIIIIIIIIIIIIRRUUUUUUUUU p0 p1 p2 r0_s0 r12_s0 r25_s0 r38_s0 r52_s0 r66_s0 r80_s0 r94_s0 r109_s0 v128 b131 b156) [(.ref b167)]) t := by
    intro t k
    show own_S p e below T167 (mkF m 170 (own_AIIIIIIIIIIIIIRRUUUUUUUUU p0 p1 p2 r0_s0 r12_s0 r25_s0 r38_s0 r52_s0 r66_s0 r80_s0 r94_s0 r109_s0 v128 b131 b156) [(.ref b167)]) _
    refine XS.dup X167.here hx rfl (hb hby at_170) rfl rfl ?_
    show own_S p e below T167 (mkF m 171 (own_AIIIIIIIIIIIIIRRUUUUUUUUU p0 p1 p2 r0_s0 r12_s0 r25_s0 r38_s0 r52_s0 r66_s0 r80_s0 r94_s0 r109_s0 v128 b131 b156) [(.ref b167), (.ref b167)]) _
    refine XS.aload X167.here hx rfl (hb hby at_171) rfl rfl ?_
    show own_S p e below T167 (mkF m 173 (own_AIIIIIIIIIIIIIRRUUUUUUUUU p0 p1 p2 r0_s0 r12_s0 r25_s0 r38_s0 r52_s0 r66_s0 r80_s0 r94_s0 r109_s0 v128 b131 b156) [(.ref b156), (.ref b167), (.ref b167)]) _
    refine XS.iloadN X167.here hx rfl (hb hby at_173) rfl ?_
    show own_S p e below T167 (mkF m 174 (own_AIIIIIIIIIIIIIRRUUUUUUUUU p0 p1 p2 r0_s0 r12_s0 r25_s0 r38_s0 r52_s0 r66_s0 r80_s0 r94_s0 r109_s0 v128 b131 b156) [(.int r0_s0), (.ref b156), (.ref b167), (.ref b167)]) _
    refine XS.iload X167.here hx rfl (hb hby at_174) rfl ?_
    show own_S p e below T167 (mkF m 176 (own_AIIIIIIIIIIIIIRRUUUUUUUUU p0 p1 p2 r0_s0 r12_s0 r25_s0 r38_s0 r52_s0 r66_s0 r80_s0 r94_s0 r109_s0 v128 b131 b156) [(.int v128), (.int r0_s0), (.ref b156), (.ref b167), (.ref b167)]) _
    refine XS.iload X167.here hx rfl (hb hby at_176) rfl ?_
    show own_S p e below T167 (mkF m 178 (own_AIIIIIIIIIIIIIRRUUUUUUUUU p0 p1 p2 r0_s0 r12_s0 r25_s0 r38_s0 r52_s0 r66_s0 r80_s0 r94_s0 r109_s0 v128 b131 b156) [(.int r12_s0), (.int v128), (.int r0_s0), (.ref b156), (.ref b167), (.ref b167)]) _
    refine XS.iload X167.here hx rfl (hb hby at_178) rfl ?_
    exact k
  refine own_by sg180 ?_
  obtain ⟨_, _, ⟨T180, L180, k180, n180⟩, -, X180, ⟨Lc180, hQ180, l180, y180, z180⟩, st180⟩ := X167.specialBack hx (y := (⟨"com/example/last_mile/lastmile/store/EndpointTally", "<init>", "(Ljava/lang/String;ZIZZ)V"⟩ : MethodName)) rfl hown (mvT hZ (hw _ (List.mem_of_getElem? (i := 34) rfl))) (mvT hZ (hw _ (List.mem_of_getElem? (i := 35) rfl))) (mvT hZ (hw _ (List.mem_of_getElem? (i := 36) rfl))) (by decide) (backOf (W := 1) (rm7 l Z a0 hw [] b167 b156 r0_s0 v128 r12_s0 r25_s0 h167 n0 Z167 A167 F_endpointId_b167 F_succeeded_b167 F_failures_b167 F_probeFailed_b167 F_gone_b167 g_b167 hb_r0_s0 hb_r12_s0 hb_r25_s0) hZ (hw _ (List.mem_of_getElem? (i := 36) rfl)) (hw _ (List.mem_of_getElem? (i := 33) rfl)) (by decide) (by decide)) (g := (mkF m 180 (own_AIIIIIIIIIIIIIRRUUUUUUUUU p0 p1 p2 r0_s0 r12_s0 r25_s0 r38_s0 r52_s0 r66_s0 r80_s0 r94_s0 r109_s0 v128 b131 b156) [(.int r25_s0), (.int r12_s0), (.int v128), (.int r0_s0), (.ref b156), (.ref b167), (.ref b167)])) rfl (by rw [hml]; rfl) (Steps.refl _) (a := b167) (argsL := [(.ref b156), (.int r0_s0), (.int v128), (.int r12_s0), (.int r25_s0)]) (rest := [(.ref b167)]) (lenOf pd_0_1 rfl) rfl (by show 2 * 0 + _ ≤ _; exact Nat.le_of_eq rfl) (hb hby at_180) (fun _ _ => ⟨rfl, e167, (by decide : 4 + 0 ≤ _), (by decide : 13 + 0 ≤ _)⟩)
  dsimp only [Pt.U, Pt.locs, Pt.cells, Pt.slots] at X180 l180 y180 z180 st180 hQ180
  subst l180 y180 z180
  obtain ⟨rfl, N180q, Kq180, Eq180, FendpointId_180, Fsucceeded_180, Ffailures_180, FprobeFailed_180, Fgone_180⟩ := hQ180
  have N180 := Fr.app N162 N180q
  have fc_2 := ((fc.ext E167).keep Kq180 (fun h => ne_b131_b167 (List.mem_singleton.mp h)))
  have fc_3 := ((Cq162.ext E167).keep Kq180 (fun h => ne_b156_b167 (List.mem_singleton.mp h)))
  have fc_4 := ((Vq162.ext E167).keep Kq180 (fun h => ne_b156_b167 (List.mem_singleton.mp h)))
  have fc_5 := ((Aq162.ext E167).keep Kq180 (fun h => ne_t162_b167 (List.mem_singleton.mp h)))
  have K180 : Keep h0 T180.heap [] := K167.trans Kq180 (fun x hx => by cases List.mem_singleton.mp hx; exact Or.inr sz_b167)
  have Z180 : n0 ≤ T180.heap.size := Nat.le_trans Z167 Kq180.1
  refine own_by (fun t k => st180.trans k) ?_
  have sg193 : ∀ t, own_S p e below T180 (mkF m 193 (own_AIIIIIIIIIIIIIRRRUUUUUUUU p0 p1 p2 r0_s0 r12_s0 r25_s0 r38_s0 r52_s0 r66_s0 r80_s0 r94_s0 r109_s0 v128 b131 b156 b167) [(.int r66_s0), (.int r52_s0), (.int r38_s0), (.ref b156)]) t → own_S p e below T180 (mkF m 183 (own_AIIIIIIIIIIIIIRRUUUUUUUUU p0 p1 p2 r0_s0 r12_s0 r25_s0 r38_s0 r52_s0 r66_s0 r80_s0 r94_s0 r109_s0 v128 b131 b156) [(.ref b167)]) t := by
    intro t k
    show own_S p e below T180 (mkF m 183 (own_AIIIIIIIIIIIIIRRUUUUUUUUU p0 p1 p2 r0_s0 r12_s0 r25_s0 r38_s0 r52_s0 r66_s0 r80_s0 r94_s0 r109_s0 v128 b131 b156) [(.ref b167)]) _
    refine XS.astore X180.here hx rfl (hb hby at_183) rfl rfl (l' := (own_AIIIIIIIIIIIIIRRRUUUUUUUU p0 p1 p2 r0_s0 r12_s0 r25_s0 r38_s0 r52_s0 r66_s0 r80_s0 r94_s0 r109_s0 v128 b131 b156 b167)) rfl ?_
    show own_S p e below T180 (mkF m 185 (own_AIIIIIIIIIIIIIRRRUUUUUUUU p0 p1 p2 r0_s0 r12_s0 r25_s0 r38_s0 r52_s0 r66_s0 r80_s0 r94_s0 r109_s0 v128 b131 b156 b167) []) _
    refine XS.aload X180.here hx rfl (hb hby at_185) rfl rfl ?_
    show own_S p e below T180 (mkF m 187 (own_AIIIIIIIIIIIIIRRRUUUUUUUU p0 p1 p2 r0_s0 r12_s0 r25_s0 r38_s0 r52_s0 r66_s0 r80_s0 r94_s0 r109_s0 v128 b131 b156 b167) [(.ref b156)]) _
    refine XS.iload X180.here hx rfl (hb hby at_187) rfl ?_
    show own_S p e below T180 (mkF m 189 (own_AIIIIIIIIIIIIIRRRUUUUUUUU p0 p1 p2 r0_s0 r12_s0 r25_s0 r38_s0 r52_s0 r66_s0 r80_s0 r94_s0 r109_s0 v128 b131 b156 b167) [(.int r38_s0), (.ref b156)]) _
    refine XS.iload X180.here hx rfl (hb hby at_189) rfl ?_
    show own_S p e below T180 (mkF m 191 (own_AIIIIIIIIIIIIIRRRUUUUUUUU p0 p1 p2 r0_s0 r12_s0 r25_s0 r38_s0 r52_s0 r66_s0 r80_s0 r94_s0 r109_s0 v128 b131 b156 b167) [(.int r52_s0), (.int r38_s0), (.ref b156)]) _
    refine XS.iload X180.here hx rfl (hb hby at_191) rfl ?_
    exact k
  refine own_by sg193 ?_
  obtain ⟨_, _, ⟨T193, L193, k193, n193⟩, -, X193, ⟨Lc193, hQ193, l193, y193, z193⟩, st193⟩ := Jvm.LawKit.callS X180 hx (y := (⟨"com/example/last_mile/lastmile/store/EndpointTally", "of", "(Ljava/lang/String;ZZZ)Lcom/example/last_mile/lastmile/store/EndpointTally;"⟩ : MethodName)) hown (mvT hZ (hw _ (List.mem_of_getElem? (i := 53) rfl))) (mvT hZ (hw _ (List.mem_of_getElem? (i := 54) rfl))) (mvT hZ (hw _ (List.mem_of_getElem? (i := 33) rfl))) (mvT hZ (hw _ (List.mem_of_getElem? (i := 55) rfl))) (by decide) (backOf (W := 0) (rm9 l Z a0 hw [] b156 r38_s0 r52_s0 r66_s0 T180.heap n0 Z180 hb_r38_s0 hb_r52_s0 hb_r66_s0) hZ (hw _ (List.mem_of_getElem? (i := 55) rfl)) (hw _ (List.mem_of_getElem? (i := 33) rfl)) (by decide) (by decide)) (g := (mkF m 193 (own_AIIIIIIIIIIIIIRRRUUUUUUUU p0 p1 p2 r0_s0 r12_s0 r25_s0 r38_s0 r52_s0 r66_s0 r80_s0 r94_s0 r109_s0 v128 b131 b156 b167) [(.int r66_s0), (.int r52_s0), (.int r38_s0), (.ref b156)])) rfl (by rw [hml]; rfl) (argsL := [(.ref b156), (.int r38_s0), (.int r52_s0), (.int r66_s0)]) (rest := []) (lenOf pd_0_2 rfl) rfl (by show 2 * 0 + _ ≤ _; exact Nat.le_of_eq rfl) (hb hby at_193) (fun _ _ => ⟨rfl, rfl, (by decide : 4 + 1 ≤ _), (by decide : 13 + 5 ≤ _)⟩)
  dsimp only [Pt.U, Pt.locs, Pt.cells, Pt.slots] at X193 l193 y193 z193 st193 hQ193
  subst l193 y193 z193
  obtain ⟨r193, rfl, ge193, N193q, Kq193, Eq193, FendpointId_193, Fsucceeded_193, Ffailures_193, FprobeFailed_193, Fgone_193⟩ := hQ193
  have N193 := Fr.app N180 N193q
  have ne_b131_r193 : b131 ≠ r193 := Nat.ne_of_lt (Nat.lt_of_lt_of_le fc_2.lt ge193)
  have ne_b156_r193 : b156 ≠ r193 := Nat.ne_of_lt (Nat.lt_of_lt_of_le ((Eq162.ext E167).keep Kq180).lt ge193)
  have ne_t162_r193 : t162 ≠ r193 := Nat.ne_of_lt (Nat.lt_of_lt_of_le fc_5.lt ge193)
  have ne_b167_r193 : b167 ≠ r193 := Nat.ne_of_lt (Nat.lt_of_lt_of_le Eq180.lt ge193)
  have g_r193 : n0 ≤ r193 := Nat.le_trans Z180 ge193
  have sz_r193 : h0.size ≤ r193 := Nat.le_trans K180.1 ge193
  have K193 : Keep h0 T193.heap [] := K180.trans Kq193 (fun x hx => nomatch hx)
  have Z193 : n0 ≤ T193.heap.size := Nat.le_trans Z180 Kq193.1
  obtain ⟨f193, hf193⟩ : ∃ z : Int32, z = (if r38_s0 = (0 : Int32) then (1 : Int32) else (0 : Int32)) := ⟨_, rfl⟩
  rw [← hf193] at Ffailures_193
  obtain ⟨p193, hp193⟩ : ∃ z : Int32, z = (if r52_s0 = (0 : Int32) then (0 : Int32) else (if r38_s0 = (0 : Int32) then (1 : Int32) else (0 : Int32))) := ⟨_, rfl⟩
  rw [← hp193] at FprobeFailed_193
  have hb_p193 : p193 = 0 ∨ p193 = 1 := by rw [hp193]; exact own_pf _ _
  refine own_by st193 ?_
  have sg206 : ∀ t, own_S p e below T193 (mkF m 206 (own_AIIIIIIIIIIIIIRRRRUUUUUUU p0 p1 p2 r0_s0 r12_s0 r25_s0 r38_s0 r52_s0 r66_s0 r80_s0 r94_s0 r109_s0 v128 b131 b156 b167 r193) [(.int r109_s0), (.int r94_s0), (.int r80_s0), (.ref b156)]) t → own_S p e below T193 (mkF m 196 (own_AIIIIIIIIIIIIIRRRUUUUUUUU p0 p1 p2 r0_s0 r12_s0 r25_s0 r38_s0 r52_s0 r66_s0 r80_s0 r94_s0 r109_s0 v128 b131 b156 b167) [(.ref r193)]) t := by
    intro t k
    show own_S p e below T193 (mkF m 196 (own_AIIIIIIIIIIIIIRRRUUUUUUUU p0 p1 p2 r0_s0 r12_s0 r25_s0 r38_s0 r52_s0 r66_s0 r80_s0 r94_s0 r109_s0 v128 b131 b156 b167) [(.ref r193)]) _
    refine XS.astore X193.here hx rfl (hb hby at_196) rfl rfl (l' := (own_AIIIIIIIIIIIIIRRRRUUUUUUU p0 p1 p2 r0_s0 r12_s0 r25_s0 r38_s0 r52_s0 r66_s0 r80_s0 r94_s0 r109_s0 v128 b131 b156 b167 r193)) rfl ?_
    show own_S p e below T193 (mkF m 198 (own_AIIIIIIIIIIIIIRRRRUUUUUUU p0 p1 p2 r0_s0 r12_s0 r25_s0 r38_s0 r52_s0 r66_s0 r80_s0 r94_s0 r109_s0 v128 b131 b156 b167 r193) []) _
    refine XS.aload X193.here hx rfl (hb hby at_198) rfl rfl ?_
    show own_S p e below T193 (mkF m 200 (own_AIIIIIIIIIIIIIRRRRUUUUUUU p0 p1 p2 r0_s0 r12_s0 r25_s0 r38_s0 r52_s0 r66_s0 r80_s0 r94_s0 r109_s0 v128 b131 b156 b167 r193) [(.ref b156)]) _
    refine XS.iload X193.here hx rfl (hb hby at_200) rfl ?_
    show own_S p e below T193 (mkF m 202 (own_AIIIIIIIIIIIIIRRRRUUUUUUU p0 p1 p2 r0_s0 r12_s0 r25_s0 r38_s0 r52_s0 r66_s0 r80_s0 r94_s0 r109_s0 v128 b131 b156 b167 r193) [(.int r80_s0), (.ref b156)]) _
    refine XS.iload X193.here hx rfl (hb hby at_202) rfl ?_
    show own_S p e below T193 (mkF m 204 (own_AIIIIIIIIIIIIIRRRRUUUUUUU p0 p1 p2 r0_s0 r12_s0 r25_s0 r38_s0 r52_s0 r66_s0 r80_s0 r94_s0 r109_s0 v128 b131 b156 b167 r193) [(.int r94_s0), (.int r80_s0), (.ref b156)]) _
    refine XS.iload X193.here hx rfl (hb hby at_204) rfl ?_
    exact k
  refine own_by sg206 ?_
  obtain ⟨_, _, ⟨T206, L206, k206, n206⟩, -, X206, ⟨Lc206, hQ206, l206, y206, z206⟩, st206⟩ := Jvm.LawKit.callS X193 hx (y := (⟨"com/example/last_mile/lastmile/store/EndpointTally", "of", "(Ljava/lang/String;ZZZ)Lcom/example/last_mile/lastmile/store/EndpointTally;"⟩ : MethodName)) hown (mvT hZ (hw _ (List.mem_of_getElem? (i := 53) rfl))) (mvT hZ (hw _ (List.mem_of_getElem? (i := 54) rfl))) (mvT hZ (hw _ (List.mem_of_getElem? (i := 33) rfl))) (mvT hZ (hw _ (List.mem_of_getElem? (i := 55) rfl))) (by decide) (backOf (W := 0) (rm9 l Z a0 hw [] b156 r80_s0 r94_s0 r109_s0 T193.heap n0 Z193 hb_r80_s0 hb_r94_s0 hb_r109_s0) hZ (hw _ (List.mem_of_getElem? (i := 55) rfl)) (hw _ (List.mem_of_getElem? (i := 33) rfl)) (by decide) (by decide)) (g := (mkF m 206 (own_AIIIIIIIIIIIIIRRRRUUUUUUU p0 p1 p2 r0_s0 r12_s0 r25_s0 r38_s0 r52_s0 r66_s0 r80_s0 r94_s0 r109_s0 v128 b131 b156 b167 r193) [(.int r109_s0), (.int r94_s0), (.int r80_s0), (.ref b156)])) rfl (by rw [hml]; rfl) (argsL := [(.ref b156), (.int r80_s0), (.int r94_s0), (.int r109_s0)]) (rest := []) (lenOf pd_0_2 rfl) rfl (by show 2 * 0 + _ ≤ _; exact Nat.le_of_eq rfl) (hb hby at_206) (fun _ _ => ⟨rfl, rfl, (by decide : 5 + 1 ≤ _), (by decide : 18 + 5 ≤ _)⟩)
  dsimp only [Pt.U, Pt.locs, Pt.cells, Pt.slots] at X206 l206 y206 z206 st206 hQ206
  subst l206 y206 z206
  obtain ⟨r206, rfl, ge206, N206q, Kq206, Eq206, FendpointId_206, Fsucceeded_206, Ffailures_206, FprobeFailed_206, Fgone_206⟩ := hQ206
  have N206 := Fr.app N193 N206q
  have ne_b131_r206 : b131 ≠ r206 := Nat.ne_of_lt (Nat.lt_of_lt_of_le (fc_2.keep Kq193 List.not_mem_nil).lt ge206)
  have ne_b156_r206 : b156 ≠ r206 := Nat.ne_of_lt (Nat.lt_of_lt_of_le (((Eq162.ext E167).keep Kq180).keep Kq193).lt ge206)
  have ne_t162_r206 : t162 ≠ r206 := Nat.ne_of_lt (Nat.lt_of_lt_of_le (fc_5.keep Kq193 List.not_mem_nil).lt ge206)
  have ne_b167_r206 : b167 ≠ r206 := Nat.ne_of_lt (Nat.lt_of_lt_of_le (Eq180.keep Kq193).lt ge206)
  have ne_r193_r206 : r193 ≠ r206 := Nat.ne_of_lt (Nat.lt_of_lt_of_le Eq193.lt ge206)
  have g_r206 : n0 ≤ r206 := Nat.le_trans Z193 ge206
  have sz_r206 : h0.size ≤ r206 := Nat.le_trans K193.1 ge206
  have fc_6 := ((fc_2.keep Kq193 List.not_mem_nil).keep Kq206 List.not_mem_nil)
  have fc_7 := ((fc_3.keep Kq193 List.not_mem_nil).keep Kq206 List.not_mem_nil)
  have fc_8 := ((fc_4.keep Kq193 List.not_mem_nil).keep Kq206 List.not_mem_nil)
  have fc_9 := ((fc_5.keep Kq193 List.not_mem_nil).keep Kq206 List.not_mem_nil)
  have fc_10 := ((FendpointId_180.keep Kq193 List.not_mem_nil).keep Kq206 List.not_mem_nil)
  have fc_11 := ((Fsucceeded_180.keep Kq193 List.not_mem_nil).keep Kq206 List.not_mem_nil)
  have fc_12 := ((Ffailures_180.keep Kq193 List.not_mem_nil).keep Kq206 List.not_mem_nil)
  have fc_13 := ((FprobeFailed_180.keep Kq193 List.not_mem_nil).keep Kq206 List.not_mem_nil)
  have fc_14 := ((Fgone_180.keep Kq193 List.not_mem_nil).keep Kq206 List.not_mem_nil)
  have K206 : Keep h0 T206.heap [] := K193.trans Kq206 (fun x hx => nomatch hx)
  have Z206 : n0 ≤ T206.heap.size := Nat.le_trans Z193 Kq206.1
  obtain ⟨f206, hf206⟩ : ∃ z : Int32, z = (if r80_s0 = (0 : Int32) then (1 : Int32) else (0 : Int32)) := ⟨_, rfl⟩
  rw [← hf206] at Ffailures_206
  obtain ⟨p206, hp206⟩ : ∃ z : Int32, z = (if r94_s0 = (0 : Int32) then (0 : Int32) else (if r80_s0 = (0 : Int32) then (1 : Int32) else (0 : Int32))) := ⟨_, rfl⟩
  rw [← hp206] at FprobeFailed_206
  have hb_p206 : p206 = 0 ∨ p206 = 1 := by rw [hp206]; exact own_pf _ _
  refine own_by st206 ?_
  have sg215 : ∀ t, own_S p e below T206 (mkF m 215 (own_AIIIIIIIIIIIIIRRRRRUUUUUU p0 p1 p2 r0_s0 r12_s0 r25_s0 r38_s0 r52_s0 r66_s0 r80_s0 r94_s0 r109_s0 v128 b131 b156 b167 r193 r206) [(.ref r193), (.ref b167)]) t → own_S p e below T206 (mkF m 209 (own_AIIIIIIIIIIIIIRRRRUUUUUUU p0 p1 p2 r0_s0 r12_s0 r25_s0 r38_s0 r52_s0 r66_s0 r80_s0 r94_s0 r109_s0 v128 b131 b156 b167 r193) [(.ref r206)]) t := by
    intro t k
    show own_S p e below T206 (mkF m 209 (own_AIIIIIIIIIIIIIRRRRUUUUUUU p0 p1 p2 r0_s0 r12_s0 r25_s0 r38_s0 r52_s0 r66_s0 r80_s0 r94_s0 r109_s0 v128 b131 b156 b167 r193) [(.ref r206)]) _
    refine XS.astore X206.here hx rfl (hb hby at_209) rfl rfl (l' := (own_AIIIIIIIIIIIIIRRRRRUUUUUU p0 p1 p2 r0_s0 r12_s0 r25_s0 r38_s0 r52_s0 r66_s0 r80_s0 r94_s0 r109_s0 v128 b131 b156 b167 r193 r206)) rfl ?_
    show own_S p e below T206 (mkF m 211 (own_AIIIIIIIIIIIIIRRRRRUUUUUU p0 p1 p2 r0_s0 r12_s0 r25_s0 r38_s0 r52_s0 r66_s0 r80_s0 r94_s0 r109_s0 v128 b131 b156 b167 r193 r206) []) _
    refine XS.aload X206.here hx rfl (hb hby at_211) rfl rfl ?_
    show own_S p e below T206 (mkF m 213 (own_AIIIIIIIIIIIIIRRRRRUUUUUU p0 p1 p2 r0_s0 r12_s0 r25_s0 r38_s0 r52_s0 r66_s0 r80_s0 r94_s0 r109_s0 v128 b131 b156 b167 r193 r206) [(.ref b167)]) _
    refine XS.aload X206.here hx rfl (hb hby at_213) rfl rfl ?_
    exact k
  refine own_by sg215 ?_
  obtain ⟨cq215, kq215, q215a, q215b, q215c⟩ := isOf hZ rfl ((Eq180.keep Kq193).keep Kq206)
  obtain ⟨_, _, ⟨T215, L215, k215, n215⟩, -, X215, ⟨Lc215, hQ215, l215, y215, z215⟩, st215⟩ := X206.virtualBack hx (y := (⟨"com/example/last_mile/lastmile/store/EndpointTally", "then", "(Lcom/example/last_mile/lastmile/store/EndpointTally;)Lcom/example/last_mile/lastmile/store/EndpointTally;"⟩ : MethodName)) (z := (⟨"com/example/last_mile/lastmile/store/EndpointTally", "then", "(Lcom/example/last_mile/lastmile/store/EndpointTally;)Lcom/example/last_mile/lastmile/store/EndpointTally;"⟩ : MethodName)) hown (mvT hZ (hw _ (List.mem_of_getElem? (i := 58) rfl))) (mvT hZ (hw _ (List.mem_of_getElem? (i := 59) rfl))) (notFace_of_selects (args := #[]) (mvT hZ (hw _ (List.mem_of_getElem? (i := 61) rfl)))) (mvT hZ (hw _ (List.mem_of_getElem? (i := 61) rfl))) (mvT hZ (hw _ (List.mem_of_getElem? (i := 60) rfl))) (by decide) (backOf (W := 0) (rm10 l Z a0 hw [] b167 r193 b156 r0_s0 v128 r12_s0 r25_s0 b156 r38_s0 f193 p193 r66_s0 T206.heap n0 Z206 fc_10 fc_11 fc_12 fc_13 fc_14 (FendpointId_193.keep Kq206 List.not_mem_nil) (Fsucceeded_193.keep Kq206 List.not_mem_nil) (Ffailures_193.keep Kq206 List.not_mem_nil) (FprobeFailed_193.keep Kq206 List.not_mem_nil) (Fgone_193.keep Kq206 List.not_mem_nil)) hZ (hw _ (List.mem_of_getElem? (i := 62) rfl)) (hw _ (List.mem_of_getElem? (i := 33) rfl)) (by decide) (by decide)) q215a q215c (g := (mkF m 215 (own_AIIIIIIIIIIIIIRRRRRUUUUUU p0 p1 p2 r0_s0 r12_s0 r25_s0 r38_s0 r52_s0 r66_s0 r80_s0 r94_s0 r109_s0 v128 b131 b156 b167 r193 r206) [(.ref r193), (.ref b167)])) rfl (by rw [hml]; rfl) (Steps.refl _) (argsL := [(.ref r193)]) (rest := []) (lenOf pd_0_3 rfl) rfl (by show 2 * 0 + _ ≤ _; exact Nat.le_of_eq rfl) (hb hby at_215) (fun _ _ => ⟨rfl, rfl, (by decide : 6 + 1 ≤ _), (by decide : 23 + 5 ≤ _)⟩)
  dsimp only [Pt.U, Pt.locs, Pt.cells, Pt.slots] at X215 l215 y215 z215 st215 hQ215
  subst l215 y215 z215
  obtain ⟨r215, rfl, ge215, N215q, Kq215, Eq215, FendpointId_215, Fsucceeded_215, Ffailures_215, FprobeFailed_215, Fgone_215⟩ := hQ215
  have N215 := Fr.app N206 N215q
  have ne_b131_r215 : b131 ≠ r215 := Nat.ne_of_lt (Nat.lt_of_lt_of_le fc_6.lt ge215)
  have ne_b156_r215 : b156 ≠ r215 := Nat.ne_of_lt (Nat.lt_of_lt_of_le ((((Eq162.ext E167).keep Kq180).keep Kq193).keep Kq206).lt ge215)
  have ne_t162_r215 : t162 ≠ r215 := Nat.ne_of_lt (Nat.lt_of_lt_of_le fc_9.lt ge215)
  have ne_b167_r215 : b167 ≠ r215 := Nat.ne_of_lt (Nat.lt_of_lt_of_le ((Eq180.keep Kq193).keep Kq206).lt ge215)
  have ne_r193_r215 : r193 ≠ r215 := Nat.ne_of_lt (Nat.lt_of_lt_of_le (Eq193.keep Kq206).lt ge215)
  have ne_r206_r215 : r206 ≠ r215 := Nat.ne_of_lt (Nat.lt_of_lt_of_le Eq206.lt ge215)
  have g_r215 : n0 ≤ r215 := Nat.le_trans Z206 ge215
  have sz_r215 : h0.size ≤ r215 := Nat.le_trans K206.1 ge215
  have fc_15 := (((((Eq162.ext E167).keep Kq180).keep Kq193).keep Kq206).keep Kq215)
  have fc_16 := ((FendpointId_193.keep Kq206 List.not_mem_nil).keep Kq215 List.not_mem_nil)
  have fc_17 := ((Fsucceeded_193.keep Kq206 List.not_mem_nil).keep Kq215 List.not_mem_nil)
  have fc_18 := ((Ffailures_193.keep Kq206 List.not_mem_nil).keep Kq215 List.not_mem_nil)
  have fc_19 := ((FprobeFailed_193.keep Kq206 List.not_mem_nil).keep Kq215 List.not_mem_nil)
  have fc_20 := ((Fgone_193.keep Kq206 List.not_mem_nil).keep Kq215 List.not_mem_nil)
  have K215 : Keep h0 T215.heap [] := K206.trans Kq215 (fun x hx => nomatch hx)
  have Z215 : n0 ≤ T215.heap.size := Nat.le_trans Z206 Kq215.1
  obtain ⟨s215, hs215⟩ : ∃ z : Int32, z = (if r0_s0 = (0 : Int32) then (if r38_s0 = (0 : Int32) then (0 : Int32) else (1 : Int32)) else (1 : Int32)) := ⟨_, rfl⟩
  rw [← hs215] at Fsucceeded_215
  have hb_s215 : s215 = 0 ∨ s215 = 1 := by rw [hs215]; exact own_or01 _ _
  obtain ⟨f215, hf215⟩ : ∃ z : Int32, z = (if r38_s0 = (0 : Int32) then (v128 + f193) else f193) := ⟨_, rfl⟩
  rw [← hf215] at Ffailures_215
  obtain ⟨p215, hp215⟩ : ∃ z : Int32, z = (if r12_s0 = (0 : Int32) then (if p193 = (0 : Int32) then (0 : Int32) else (1 : Int32)) else (1 : Int32)) := ⟨_, rfl⟩
  rw [← hp215] at FprobeFailed_215
  have hb_p215 : p215 = 0 ∨ p215 = 1 := by rw [hp215]; exact own_or01 _ _
  obtain ⟨g215, hg215⟩ : ∃ z : Int32, z = (if r25_s0 = (0 : Int32) then (if r66_s0 = (0 : Int32) then (0 : Int32) else (1 : Int32)) else (1 : Int32)) := ⟨_, rfl⟩
  rw [← hg215] at Fgone_215
  have hb_g215 : g215 = 0 ∨ g215 = 1 := by rw [hg215]; exact own_or01 _ _
  refine own_by (fun t k => st215.trans k) ?_
  have sg220 : ∀ t, own_S p e below T215 (mkF m 220 (own_AIIIIIIIIIIIIIRRRRRUUUUUU p0 p1 p2 r0_s0 r12_s0 r25_s0 r38_s0 r52_s0 r66_s0 r80_s0 r94_s0 r109_s0 v128 b131 b156 b167 r193 r206) [(.ref r206), (.ref r215)]) t → own_S p e below T215 (mkF m 218 (own_AIIIIIIIIIIIIIRRRRRUUUUUU p0 p1 p2 r0_s0 r12_s0 r25_s0 r38_s0 r52_s0 r66_s0 r80_s0 r94_s0 r109_s0 v128 b131 b156 b167 r193 r206) [(.ref r215)]) t := by
    intro t k
    show own_S p e below T215 (mkF m 218 (own_AIIIIIIIIIIIIIRRRRRUUUUUU p0 p1 p2 r0_s0 r12_s0 r25_s0 r38_s0 r52_s0 r66_s0 r80_s0 r94_s0 r109_s0 v128 b131 b156 b167 r193 r206) [(.ref r215)]) _
    refine XS.aload X215.here hx rfl (hb hby at_218) rfl rfl ?_
    exact k
  refine own_by sg220 ?_
  obtain ⟨cq220, kq220, q220a, q220b, q220c⟩ := isOf hZ rfl Eq215
  obtain ⟨_, _, ⟨T220, L220, k220, n220⟩, -, X220, ⟨Lc220, hQ220, l220, y220, z220⟩, st220⟩ := X215.virtualBack hx (y := (⟨"com/example/last_mile/lastmile/store/EndpointTally", "then", "(Lcom/example/last_mile/lastmile/store/EndpointTally;)Lcom/example/last_mile/lastmile/store/EndpointTally;"⟩ : MethodName)) (z := (⟨"com/example/last_mile/lastmile/store/EndpointTally", "then", "(Lcom/example/last_mile/lastmile/store/EndpointTally;)Lcom/example/last_mile/lastmile/store/EndpointTally;"⟩ : MethodName)) hown (mvT hZ (hw _ (List.mem_of_getElem? (i := 58) rfl))) (mvT hZ (hw _ (List.mem_of_getElem? (i := 59) rfl))) (notFace_of_selects (args := #[]) (mvT hZ (hw _ (List.mem_of_getElem? (i := 61) rfl)))) (mvT hZ (hw _ (List.mem_of_getElem? (i := 61) rfl))) (mvT hZ (hw _ (List.mem_of_getElem? (i := 60) rfl))) (by decide) (backOf (W := 0) (rm10 l Z a0 hw [] r215 r206 b156 s215 f215 p215 g215 b156 r80_s0 f206 p206 r109_s0 T215.heap n0 Z215 FendpointId_215 Fsucceeded_215 Ffailures_215 FprobeFailed_215 Fgone_215 (FendpointId_206.keep Kq215 List.not_mem_nil) (Fsucceeded_206.keep Kq215 List.not_mem_nil) (Ffailures_206.keep Kq215 List.not_mem_nil) (FprobeFailed_206.keep Kq215 List.not_mem_nil) (Fgone_206.keep Kq215 List.not_mem_nil)) hZ (hw _ (List.mem_of_getElem? (i := 62) rfl)) (hw _ (List.mem_of_getElem? (i := 33) rfl)) (by decide) (by decide)) q220a q220c (g := (mkF m 220 (own_AIIIIIIIIIIIIIRRRRRUUUUUU p0 p1 p2 r0_s0 r12_s0 r25_s0 r38_s0 r52_s0 r66_s0 r80_s0 r94_s0 r109_s0 v128 b131 b156 b167 r193 r206) [(.ref r206), (.ref r215)])) rfl (by rw [hml]; rfl) (Steps.refl _) (argsL := [(.ref r206)]) (rest := []) (lenOf pd_0_3 rfl) rfl (by show 2 * 0 + _ ≤ _; exact Nat.le_of_eq rfl) (hb hby at_220) (fun _ _ => ⟨rfl, rfl, (by decide : 7 + 1 ≤ _), (by decide : 28 + 5 ≤ _)⟩)
  dsimp only [Pt.U, Pt.locs, Pt.cells, Pt.slots] at X220 l220 y220 z220 st220 hQ220
  subst l220 y220 z220
  obtain ⟨r220, rfl, ge220, N220q, Kq220, Eq220, FendpointId_220, Fsucceeded_220, Ffailures_220, FprobeFailed_220, Fgone_220⟩ := hQ220
  have N220 := Fr.app N215 N220q
  have ne_b131_r220 : b131 ≠ r220 := Nat.ne_of_lt (Nat.lt_of_lt_of_le (fc_6.keep Kq215 List.not_mem_nil).lt ge220)
  have ne_b156_r220 : b156 ≠ r220 := Nat.ne_of_lt (Nat.lt_of_lt_of_le fc_15.lt ge220)
  have ne_t162_r220 : t162 ≠ r220 := Nat.ne_of_lt (Nat.lt_of_lt_of_le (fc_9.keep Kq215 List.not_mem_nil).lt ge220)
  have ne_b167_r220 : b167 ≠ r220 := Nat.ne_of_lt (Nat.lt_of_lt_of_le (((Eq180.keep Kq193).keep Kq206).keep Kq215).lt ge220)
  have ne_r193_r220 : r193 ≠ r220 := Nat.ne_of_lt (Nat.lt_of_lt_of_le ((Eq193.keep Kq206).keep Kq215).lt ge220)
  have ne_r206_r220 : r206 ≠ r220 := Nat.ne_of_lt (Nat.lt_of_lt_of_le (Eq206.keep Kq215).lt ge220)
  have ne_r215_r220 : r215 ≠ r220 := Nat.ne_of_lt (Nat.lt_of_lt_of_le Eq215.lt ge220)
  have g_r220 : n0 ≤ r220 := Nat.le_trans Z215 ge220
  have sz_r220 : h0.size ≤ r220 := Nat.le_trans K215.1 ge220
  have fc_21 := ((fc_6.keep Kq215 List.not_mem_nil).keep Kq220 List.not_mem_nil)
  have fc_22 := ((fc_7.keep Kq215 List.not_mem_nil).keep Kq220 List.not_mem_nil)
  have fc_23 := ((fc_8.keep Kq215 List.not_mem_nil).keep Kq220 List.not_mem_nil)
  have fc_24 := ((fc_9.keep Kq215 List.not_mem_nil).keep Kq220 List.not_mem_nil)
  have fc_25 := ((fc_10.keep Kq215 List.not_mem_nil).keep Kq220 List.not_mem_nil)
  have fc_26 := ((fc_11.keep Kq215 List.not_mem_nil).keep Kq220 List.not_mem_nil)
  have fc_27 := ((fc_12.keep Kq215 List.not_mem_nil).keep Kq220 List.not_mem_nil)
  have fc_28 := ((fc_13.keep Kq215 List.not_mem_nil).keep Kq220 List.not_mem_nil)
  have fc_29 := ((fc_14.keep Kq215 List.not_mem_nil).keep Kq220 List.not_mem_nil)
  have fc_30 := ((FendpointId_206.keep Kq215 List.not_mem_nil).keep Kq220 List.not_mem_nil)
  have fc_31 := ((Fsucceeded_206.keep Kq215 List.not_mem_nil).keep Kq220 List.not_mem_nil)
  have fc_32 := ((Ffailures_206.keep Kq215 List.not_mem_nil).keep Kq220 List.not_mem_nil)
  have fc_33 := ((FprobeFailed_206.keep Kq215 List.not_mem_nil).keep Kq220 List.not_mem_nil)
  have fc_34 := ((Fgone_206.keep Kq215 List.not_mem_nil).keep Kq220 List.not_mem_nil)
  have K220 : Keep h0 T220.heap [] := K215.trans Kq220 (fun x hx => nomatch hx)
  have Z220 : n0 ≤ T220.heap.size := Nat.le_trans Z215 Kq220.1
  obtain ⟨s220, hs220⟩ : ∃ z : Int32, z = (if s215 = (0 : Int32) then (if r80_s0 = (0 : Int32) then (0 : Int32) else (1 : Int32)) else (1 : Int32)) := ⟨_, rfl⟩
  rw [← hs220] at Fsucceeded_220
  have hb_s220 : s220 = 0 ∨ s220 = 1 := by rw [hs220]; exact own_or01 _ _
  obtain ⟨f220, hf220⟩ : ∃ z : Int32, z = (if r80_s0 = (0 : Int32) then (f215 + f206) else f206) := ⟨_, rfl⟩
  rw [← hf220] at Ffailures_220
  obtain ⟨p220, hp220⟩ : ∃ z : Int32, z = (if p215 = (0 : Int32) then (if p206 = (0 : Int32) then (0 : Int32) else (1 : Int32)) else (1 : Int32)) := ⟨_, rfl⟩
  rw [← hp220] at FprobeFailed_220
  have hb_p220 : p220 = 0 ∨ p220 = 1 := by rw [hp220]; exact own_or01 _ _
  obtain ⟨g220, hg220⟩ : ∃ z : Int32, z = (if g215 = (0 : Int32) then (if r109_s0 = (0 : Int32) then (0 : Int32) else (1 : Int32)) else (1 : Int32)) := ⟨_, rfl⟩
  rw [← hg220] at Fgone_220
  have hb_g220 : g220 = 0 ∨ g220 = 1 := by rw [hg220]; exact own_or01 _ _
  refine own_by (fun t k => st220.trans k) ?_
  have sg231 : ∀ t, own_S p e below T220 (mkF m 231 (own_AIIIIIIIIIIIIIRRRRRRUUUUU p0 p1 p2 r0_s0 r12_s0 r25_s0 r38_s0 r52_s0 r66_s0 r80_s0 r94_s0 r109_s0 v128 b131 b156 b167 r193 r206 r220) [(.ref r206), (.ref r193), (.ref b167)]) t → own_S p e below T220 (mkF m 223 (own_AIIIIIIIIIIIIIRRRRRUUUUUU p0 p1 p2 r0_s0 r12_s0 r25_s0 r38_s0 r52_s0 r66_s0 r80_s0 r94_s0 r109_s0 v128 b131 b156 b167 r193 r206) [(.ref r220)]) t := by
    intro t k
    show own_S p e below T220 (mkF m 223 (own_AIIIIIIIIIIIIIRRRRRUUUUUU p0 p1 p2 r0_s0 r12_s0 r25_s0 r38_s0 r52_s0 r66_s0 r80_s0 r94_s0 r109_s0 v128 b131 b156 b167 r193 r206) [(.ref r220)]) _
    refine XS.astore X220.here hx rfl (hb hby at_223) rfl rfl (l' := (own_AIIIIIIIIIIIIIRRRRRRUUUUU p0 p1 p2 r0_s0 r12_s0 r25_s0 r38_s0 r52_s0 r66_s0 r80_s0 r94_s0 r109_s0 v128 b131 b156 b167 r193 r206 r220)) rfl ?_
    show own_S p e below T220 (mkF m 225 (own_AIIIIIIIIIIIIIRRRRRRUUUUU p0 p1 p2 r0_s0 r12_s0 r25_s0 r38_s0 r52_s0 r66_s0 r80_s0 r94_s0 r109_s0 v128 b131 b156 b167 r193 r206 r220) []) _
    refine XS.aload X220.here hx rfl (hb hby at_225) rfl rfl ?_
    show own_S p e below T220 (mkF m 227 (own_AIIIIIIIIIIIIIRRRRRRUUUUU p0 p1 p2 r0_s0 r12_s0 r25_s0 r38_s0 r52_s0 r66_s0 r80_s0 r94_s0 r109_s0 v128 b131 b156 b167 r193 r206 r220) [(.ref b167)]) _
    refine XS.aload X220.here hx rfl (hb hby at_227) rfl rfl ?_
    show own_S p e below T220 (mkF m 229 (own_AIIIIIIIIIIIIIRRRRRRUUUUU p0 p1 p2 r0_s0 r12_s0 r25_s0 r38_s0 r52_s0 r66_s0 r80_s0 r94_s0 r109_s0 v128 b131 b156 b167 r193 r206 r220) [(.ref r193), (.ref b167)]) _
    refine XS.aload X220.here hx rfl (hb hby at_229) rfl rfl ?_
    exact k
  refine own_by sg231 ?_
  obtain ⟨cq231, kq231, q231a, q231b, q231c⟩ := isOf hZ rfl (((Eq193.keep Kq206).keep Kq215).keep Kq220)
  obtain ⟨_, _, ⟨T231, L231, k231, n231⟩, -, X231, ⟨Lc231, hQ231, l231, y231, z231⟩, st231⟩ := X220.virtualBack hx (y := (⟨"com/example/last_mile/lastmile/store/EndpointTally", "then", "(Lcom/example/last_mile/lastmile/store/EndpointTally;)Lcom/example/last_mile/lastmile/store/EndpointTally;"⟩ : MethodName)) (z := (⟨"com/example/last_mile/lastmile/store/EndpointTally", "then", "(Lcom/example/last_mile/lastmile/store/EndpointTally;)Lcom/example/last_mile/lastmile/store/EndpointTally;"⟩ : MethodName)) hown (mvT hZ (hw _ (List.mem_of_getElem? (i := 58) rfl))) (mvT hZ (hw _ (List.mem_of_getElem? (i := 59) rfl))) (notFace_of_selects (args := #[]) (mvT hZ (hw _ (List.mem_of_getElem? (i := 61) rfl)))) (mvT hZ (hw _ (List.mem_of_getElem? (i := 61) rfl))) (mvT hZ (hw _ (List.mem_of_getElem? (i := 60) rfl))) (by decide) (backOf (W := 1) (rm10 l Z a0 hw [] r193 r206 b156 r38_s0 f193 p193 r66_s0 b156 r80_s0 f206 p206 r109_s0 T220.heap n0 Z220 (fc_16.keep Kq220 List.not_mem_nil) (fc_17.keep Kq220 List.not_mem_nil) (fc_18.keep Kq220 List.not_mem_nil) (fc_19.keep Kq220 List.not_mem_nil) (fc_20.keep Kq220 List.not_mem_nil) fc_30 fc_31 fc_32 fc_33 fc_34) hZ (hw _ (List.mem_of_getElem? (i := 62) rfl)) (hw _ (List.mem_of_getElem? (i := 33) rfl)) (by decide) (by decide)) q231a q231c (g := (mkF m 231 (own_AIIIIIIIIIIIIIRRRRRRUUUUU p0 p1 p2 r0_s0 r12_s0 r25_s0 r38_s0 r52_s0 r66_s0 r80_s0 r94_s0 r109_s0 v128 b131 b156 b167 r193 r206 r220) [(.ref r206), (.ref r193), (.ref b167)])) rfl (by rw [hml]; rfl) (Steps.refl _) (argsL := [(.ref r206)]) (rest := [(.ref b167)]) (lenOf pd_0_3 rfl) rfl (by show 2 * 0 + _ ≤ _; exact Nat.le_of_eq rfl) (hb hby at_231) (fun _ _ => ⟨rfl, rfl, (by decide : 8 + 1 ≤ _), (by decide : 33 + 5 ≤ _)⟩)
  dsimp only [Pt.U, Pt.locs, Pt.cells, Pt.slots] at X231 l231 y231 z231 st231 hQ231
  subst l231 y231 z231
  obtain ⟨r231, rfl, ge231, N231q, Kq231, Eq231, FendpointId_231, Fsucceeded_231, Ffailures_231, FprobeFailed_231, Fgone_231⟩ := hQ231
  have N231 := Fr.app N220 N231q
  have ne_b131_r231 : b131 ≠ r231 := Nat.ne_of_lt (Nat.lt_of_lt_of_le fc_21.lt ge231)
  have ne_b156_r231 : b156 ≠ r231 := Nat.ne_of_lt (Nat.lt_of_lt_of_le (fc_15.keep Kq220).lt ge231)
  have ne_t162_r231 : t162 ≠ r231 := Nat.ne_of_lt (Nat.lt_of_lt_of_le fc_24.lt ge231)
  have ne_b167_r231 : b167 ≠ r231 := Nat.ne_of_lt (Nat.lt_of_lt_of_le ((((Eq180.keep Kq193).keep Kq206).keep Kq215).keep Kq220).lt ge231)
  have ne_r193_r231 : r193 ≠ r231 := Nat.ne_of_lt (Nat.lt_of_lt_of_le (((Eq193.keep Kq206).keep Kq215).keep Kq220).lt ge231)
  have ne_r206_r231 : r206 ≠ r231 := Nat.ne_of_lt (Nat.lt_of_lt_of_le ((Eq206.keep Kq215).keep Kq220).lt ge231)
  have ne_r215_r231 : r215 ≠ r231 := Nat.ne_of_lt (Nat.lt_of_lt_of_le (Eq215.keep Kq220).lt ge231)
  have ne_r220_r231 : r220 ≠ r231 := Nat.ne_of_lt (Nat.lt_of_lt_of_le Eq220.lt ge231)
  have g_r231 : n0 ≤ r231 := Nat.le_trans Z220 ge231
  have sz_r231 : h0.size ≤ r231 := Nat.le_trans K220.1 ge231
  have fc_35 := (((((Eq180.keep Kq193).keep Kq206).keep Kq215).keep Kq220).keep Kq231)
  have fc_36 := ((fc_16.keep Kq220 List.not_mem_nil).keep Kq231 List.not_mem_nil)
  have fc_37 := ((fc_17.keep Kq220 List.not_mem_nil).keep Kq231 List.not_mem_nil)
  have fc_38 := ((fc_18.keep Kq220 List.not_mem_nil).keep Kq231 List.not_mem_nil)
  have fc_39 := ((fc_19.keep Kq220 List.not_mem_nil).keep Kq231 List.not_mem_nil)
  have fc_40 := ((fc_20.keep Kq220 List.not_mem_nil).keep Kq231 List.not_mem_nil)
  have fc_41 := ((FendpointId_215.keep Kq220 List.not_mem_nil).keep Kq231 List.not_mem_nil)
  have fc_42 := ((Fsucceeded_215.keep Kq220 List.not_mem_nil).keep Kq231 List.not_mem_nil)
  have fc_43 := ((Ffailures_215.keep Kq220 List.not_mem_nil).keep Kq231 List.not_mem_nil)
  have fc_44 := ((FprobeFailed_215.keep Kq220 List.not_mem_nil).keep Kq231 List.not_mem_nil)
  have fc_45 := ((Fgone_215.keep Kq220 List.not_mem_nil).keep Kq231 List.not_mem_nil)
  have K231 : Keep h0 T231.heap [] := K220.trans Kq231 (fun x hx => nomatch hx)
  have Z231 : n0 ≤ T231.heap.size := Nat.le_trans Z220 Kq231.1
  obtain ⟨s231, hs231⟩ : ∃ z : Int32, z = (if r38_s0 = (0 : Int32) then (if r80_s0 = (0 : Int32) then (0 : Int32) else (1 : Int32)) else (1 : Int32)) := ⟨_, rfl⟩
  rw [← hs231] at Fsucceeded_231
  have hb_s231 : s231 = 0 ∨ s231 = 1 := by rw [hs231]; exact own_or01 _ _
  obtain ⟨f231, hf231⟩ : ∃ z : Int32, z = (if r80_s0 = (0 : Int32) then (f193 + f206) else f206) := ⟨_, rfl⟩
  rw [← hf231] at Ffailures_231
  obtain ⟨p231, hp231⟩ : ∃ z : Int32, z = (if p193 = (0 : Int32) then (if p206 = (0 : Int32) then (0 : Int32) else (1 : Int32)) else (1 : Int32)) := ⟨_, rfl⟩
  rw [← hp231] at FprobeFailed_231
  have hb_p231 : p231 = 0 ∨ p231 = 1 := by rw [hp231]; exact own_or01 _ _
  obtain ⟨g231, hg231⟩ : ∃ z : Int32, z = (if r66_s0 = (0 : Int32) then (if r109_s0 = (0 : Int32) then (0 : Int32) else (1 : Int32)) else (1 : Int32)) := ⟨_, rfl⟩
  rw [← hg231] at Fgone_231
  have hb_g231 : g231 = 0 ∨ g231 = 1 := by rw [hg231]; exact own_or01 _ _
  refine own_by (fun t k => st231.trans k) ?_
  obtain ⟨cq234, kq234, q234a, q234b, q234c⟩ := isOf hZ rfl fc_35
  obtain ⟨_, _, ⟨T234, L234, k234, n234⟩, -, X234, ⟨Lc234, hQ234, l234, y234, z234⟩, st234⟩ := X231.virtualBack hx (y := (⟨"com/example/last_mile/lastmile/store/EndpointTally", "then", "(Lcom/example/last_mile/lastmile/store/EndpointTally;)Lcom/example/last_mile/lastmile/store/EndpointTally;"⟩ : MethodName)) (z := (⟨"com/example/last_mile/lastmile/store/EndpointTally", "then", "(Lcom/example/last_mile/lastmile/store/EndpointTally;)Lcom/example/last_mile/lastmile/store/EndpointTally;"⟩ : MethodName)) hown (mvT hZ (hw _ (List.mem_of_getElem? (i := 58) rfl))) (mvT hZ (hw _ (List.mem_of_getElem? (i := 59) rfl))) (notFace_of_selects (args := #[]) (mvT hZ (hw _ (List.mem_of_getElem? (i := 61) rfl)))) (mvT hZ (hw _ (List.mem_of_getElem? (i := 61) rfl))) (mvT hZ (hw _ (List.mem_of_getElem? (i := 60) rfl))) (by decide) (backOf (W := 0) (rm10 l Z a0 hw [] b167 r231 b156 r0_s0 v128 r12_s0 r25_s0 b156 s231 f231 p231 g231 T231.heap n0 Z231 (fc_25.keep Kq231 List.not_mem_nil) (fc_26.keep Kq231 List.not_mem_nil) (fc_27.keep Kq231 List.not_mem_nil) (fc_28.keep Kq231 List.not_mem_nil) (fc_29.keep Kq231 List.not_mem_nil) FendpointId_231 Fsucceeded_231 Ffailures_231 FprobeFailed_231 Fgone_231) hZ (hw _ (List.mem_of_getElem? (i := 62) rfl)) (hw _ (List.mem_of_getElem? (i := 33) rfl)) (by decide) (by decide)) q234a q234c (g := (mkF m 234 (own_AIIIIIIIIIIIIIRRRRRRUUUUU p0 p1 p2 r0_s0 r12_s0 r25_s0 r38_s0 r52_s0 r66_s0 r80_s0 r94_s0 r109_s0 v128 b131 b156 b167 r193 r206 r220) [(.ref r231), (.ref b167)])) rfl (by rw [hml]; rfl) (Steps.refl _) (argsL := [(.ref r231)]) (rest := []) (lenOf pd_0_3 rfl) rfl (by show 2 * 0 + _ ≤ _; exact Nat.le_of_eq rfl) (hb hby at_234) (fun _ _ => ⟨rfl, rfl, (by decide : 9 + 1 ≤ _), (by decide : 38 + 5 ≤ _)⟩)
  dsimp only [Pt.U, Pt.locs, Pt.cells, Pt.slots] at X234 l234 y234 z234 st234 hQ234
  subst l234 y234 z234
  obtain ⟨r234, rfl, ge234, N234q, Kq234, Eq234, FendpointId_234, Fsucceeded_234, Ffailures_234, FprobeFailed_234, Fgone_234⟩ := hQ234
  have N234 := Fr.app N231 N234q
  have ne_b131_r234 : b131 ≠ r234 := Nat.ne_of_lt (Nat.lt_of_lt_of_le (fc_21.keep Kq231 List.not_mem_nil).lt ge234)
  have ne_b156_r234 : b156 ≠ r234 := Nat.ne_of_lt (Nat.lt_of_lt_of_le ((fc_15.keep Kq220).keep Kq231).lt ge234)
  have ne_t162_r234 : t162 ≠ r234 := Nat.ne_of_lt (Nat.lt_of_lt_of_le (fc_24.keep Kq231 List.not_mem_nil).lt ge234)
  have ne_b167_r234 : b167 ≠ r234 := Nat.ne_of_lt (Nat.lt_of_lt_of_le fc_35.lt ge234)
  have ne_r193_r234 : r193 ≠ r234 := Nat.ne_of_lt (Nat.lt_of_lt_of_le ((((Eq193.keep Kq206).keep Kq215).keep Kq220).keep Kq231).lt ge234)
  have ne_r206_r234 : r206 ≠ r234 := Nat.ne_of_lt (Nat.lt_of_lt_of_le (((Eq206.keep Kq215).keep Kq220).keep Kq231).lt ge234)
  have ne_r215_r234 : r215 ≠ r234 := Nat.ne_of_lt (Nat.lt_of_lt_of_le ((Eq215.keep Kq220).keep Kq231).lt ge234)
  have ne_r220_r234 : r220 ≠ r234 := Nat.ne_of_lt (Nat.lt_of_lt_of_le (Eq220.keep Kq231).lt ge234)
  have ne_r231_r234 : r231 ≠ r234 := Nat.ne_of_lt (Nat.lt_of_lt_of_le Eq231.lt ge234)
  have g_r234 : n0 ≤ r234 := Nat.le_trans Z231 ge234
  have sz_r234 : h0.size ≤ r234 := Nat.le_trans K231.1 ge234
  have fc_46 := ((fc_21.keep Kq231 List.not_mem_nil).keep Kq234 List.not_mem_nil)
  have fc_47 := ((fc_22.keep Kq231 List.not_mem_nil).keep Kq234 List.not_mem_nil)
  have fc_48 := ((fc_23.keep Kq231 List.not_mem_nil).keep Kq234 List.not_mem_nil)
  have fc_49 := ((fc_24.keep Kq231 List.not_mem_nil).keep Kq234 List.not_mem_nil)
  have fc_50 := ((fc_25.keep Kq231 List.not_mem_nil).keep Kq234 List.not_mem_nil)
  have fc_51 := ((fc_26.keep Kq231 List.not_mem_nil).keep Kq234 List.not_mem_nil)
  have fc_52 := ((fc_27.keep Kq231 List.not_mem_nil).keep Kq234 List.not_mem_nil)
  have fc_53 := ((fc_28.keep Kq231 List.not_mem_nil).keep Kq234 List.not_mem_nil)
  have fc_54 := ((fc_29.keep Kq231 List.not_mem_nil).keep Kq234 List.not_mem_nil)
  have fc_55 := (((((Eq193.keep Kq206).keep Kq215).keep Kq220).keep Kq231).keep Kq234)
  have fc_56 := ((fc_30.keep Kq231 List.not_mem_nil).keep Kq234 List.not_mem_nil)
  have fc_57 := ((fc_31.keep Kq231 List.not_mem_nil).keep Kq234 List.not_mem_nil)
  have fc_58 := ((fc_32.keep Kq231 List.not_mem_nil).keep Kq234 List.not_mem_nil)
  have fc_59 := ((fc_33.keep Kq231 List.not_mem_nil).keep Kq234 List.not_mem_nil)
  have fc_60 := ((fc_34.keep Kq231 List.not_mem_nil).keep Kq234 List.not_mem_nil)
  have fc_61 := ((FendpointId_220.keep Kq231 List.not_mem_nil).keep Kq234 List.not_mem_nil)
  have fc_62 := ((Fsucceeded_220.keep Kq231 List.not_mem_nil).keep Kq234 List.not_mem_nil)
  have fc_63 := ((Ffailures_220.keep Kq231 List.not_mem_nil).keep Kq234 List.not_mem_nil)
  have fc_64 := ((FprobeFailed_220.keep Kq231 List.not_mem_nil).keep Kq234 List.not_mem_nil)
  have fc_65 := ((Fgone_220.keep Kq231 List.not_mem_nil).keep Kq234 List.not_mem_nil)
  have K234 : Keep h0 T234.heap [] := K231.trans Kq234 (fun x hx => nomatch hx)
  have Z234 : n0 ≤ T234.heap.size := Nat.le_trans Z231 Kq234.1
  obtain ⟨s234, hs234⟩ : ∃ z : Int32, z = (if r0_s0 = (0 : Int32) then (if s231 = (0 : Int32) then (0 : Int32) else (1 : Int32)) else (1 : Int32)) := ⟨_, rfl⟩
  rw [← hs234] at Fsucceeded_234
  have hb_s234 : s234 = 0 ∨ s234 = 1 := by rw [hs234]; exact own_or01 _ _
  obtain ⟨f234, hf234⟩ : ∃ z : Int32, z = (if s231 = (0 : Int32) then (v128 + f231) else f231) := ⟨_, rfl⟩
  rw [← hf234] at Ffailures_234
  obtain ⟨p234, hp234⟩ : ∃ z : Int32, z = (if r12_s0 = (0 : Int32) then (if p231 = (0 : Int32) then (0 : Int32) else (1 : Int32)) else (1 : Int32)) := ⟨_, rfl⟩
  rw [← hp234] at FprobeFailed_234
  have hb_p234 : p234 = 0 ∨ p234 = 1 := by rw [hp234]; exact own_or01 _ _
  obtain ⟨g234, hg234⟩ : ∃ z : Int32, z = (if r25_s0 = (0 : Int32) then (if g231 = (0 : Int32) then (0 : Int32) else (1 : Int32)) else (1 : Int32)) := ⟨_, rfl⟩
  rw [← hg234] at Fgone_234
  have hb_g234 : g234 = 0 ∨ g234 = 1 := by rw [hg234]; exact own_or01 _ _
  refine own_by (fun t k => st234.trans k) ?_
  have sg239 : ∀ t, own_S p e below T234 (mkF m 239 (own_AIIIIIIIIIIIIIRRRRRRRUUUU p0 p1 p2 r0_s0 r12_s0 r25_s0 r38_s0 r52_s0 r66_s0 r80_s0 r94_s0 r109_s0 v128 b131 b156 b167 r193 r206 r220 r234) []) t → own_S p e below T234 (mkF m 237 (own_AIIIIIIIIIIIIIRRRRRRUUUUU p0 p1 p2 r0_s0 r12_s0 r25_s0 r38_s0 r52_s0 r66_s0 r80_s0 r94_s0 r109_s0 v128 b131 b156 b167 r193 r206 r220) [(.ref r234)]) t := by
    intro t k
    show own_S p e below T234 (mkF m 237 (own_AIIIIIIIIIIIIIRRRRRRUUUUU p0 p1 p2 r0_s0 r12_s0 r25_s0 r38_s0 r52_s0 r66_s0 r80_s0 r94_s0 r109_s0 v128 b131 b156 b167 r193 r206 r220) [(.ref r234)]) _
    refine XS.astore X234.here hx rfl (hb hby at_237) rfl rfl (l' := (own_AIIIIIIIIIIIIIRRRRRRRUUUU p0 p1 p2 r0_s0 r12_s0 r25_s0 r38_s0 r52_s0 r66_s0 r80_s0 r94_s0 r109_s0 v128 b131 b156 b167 r193 r206 r220 r234)) rfl ?_
    exact k
  refine own_by sg239 ?_
  obtain ⟨r239_s0, hr239_s0⟩ : ∃ z : Int32, z = (if r0_s0 = (0 : Int32) then (if r38_s0 = (0 : Int32) then (if r80_s0 = (0 : Int32) then (0 : Int32) else (1 : Int32)) else (1 : Int32)) else (1 : Int32)) := ⟨_, rfl⟩
  have str239 : ∀ t, own_S p e below T234 (mkF m 258 (own_AIIIIIIIIIIIIIRRRRRRRUUUU p0 p1 p2 r0_s0 r12_s0 r25_s0 r38_s0 r52_s0 r66_s0 r80_s0 r94_s0 r109_s0 v128 b131 b156 b167 r193 r206 r220 r234) [(.int r239_s0)]) t → own_S p e below T234 (mkF m 239 (own_AIIIIIIIIIIIIIRRRRRRRUUUU p0 p1 p2 r0_s0 r12_s0 r25_s0 r38_s0 r52_s0 r66_s0 r80_s0 r94_s0 r109_s0 v128 b131 b156 b167 r193 r206 r220 r234) []) t := by
    have sg240 : ∀ t, own_S p e below T234 (mkF m 240 (own_AIIIIIIIIIIIIIRRRRRRRUUUU p0 p1 p2 r0_s0 r12_s0 r25_s0 r38_s0 r52_s0 r66_s0 r80_s0 r94_s0 r109_s0 v128 b131 b156 b167 r193 r206 r220 r234) [(.int r0_s0)]) t → own_S p e below T234 (mkF m 239 (own_AIIIIIIIIIIIIIRRRRRRRUUUU p0 p1 p2 r0_s0 r12_s0 r25_s0 r38_s0 r52_s0 r66_s0 r80_s0 r94_s0 r109_s0 v128 b131 b156 b167 r193 r206 r220 r234) []) t := by
      intro t k
      show own_S p e below T234 (mkF m 239 (own_AIIIIIIIIIIIIIRRRRRRRUUUU p0 p1 p2 r0_s0 r12_s0 r25_s0 r38_s0 r52_s0 r66_s0 r80_s0 r94_s0 r109_s0 v128 b131 b156 b167 r193 r206 r220 r234) []) _
      refine XS.iloadN X234.here hx rfl (hb hby at_239) rfl ?_
      exact k
    by_cases hc240 : r0_s0 = (0 : Int32)
    · rw [if_pos hc240] at hr239_s0
      have sg245 : ∀ t, own_S p e below T234 (mkF m 245 (own_AIIIIIIIIIIIIIRRRRRRRUUUU p0 p1 p2 r0_s0 r12_s0 r25_s0 r38_s0 r52_s0 r66_s0 r80_s0 r94_s0 r109_s0 v128 b131 b156 b167 r193 r206 r220 r234) [(.int r38_s0)]) t → own_S p e below T234 (mkF m 240 (own_AIIIIIIIIIIIIIRRRRRRRUUUU p0 p1 p2 r0_s0 r12_s0 r25_s0 r38_s0 r52_s0 r66_s0 r80_s0 r94_s0 r109_s0 v128 b131 b156 b167 r193 r206 r220 r234) [(.int r0_s0)]) t := by
        intro t k
        show own_S p e below T234 (mkF m 240 (own_AIIIIIIIIIIIIIRRRRRRRUUUU p0 p1 p2 r0_s0 r12_s0 r25_s0 r38_s0 r52_s0 r66_s0 r80_s0 r94_s0 r109_s0 v128 b131 b156 b167 r193 r206 r220 r234) [(.int r0_s0)]) _
        refine XS.ifNo X234.here hx rfl (hb hby at_240) rfl ((if0 _ _).trans (teq hc240).2) ?_
        show own_S p e below T234 (mkF m 243 (own_AIIIIIIIIIIIIIRRRRRRRUUUU p0 p1 p2 r0_s0 r12_s0 r25_s0 r38_s0 r52_s0 r66_s0 r80_s0 r94_s0 r109_s0 v128 b131 b156 b167 r193 r206 r220 r234) []) _
        refine XS.iload X234.here hx rfl (hb hby at_243) rfl ?_
        exact k
      by_cases hc245 : r38_s0 = (0 : Int32)
      · rw [if_pos hc245] at hr239_s0
        have sg250 : ∀ t, own_S p e below T234 (mkF m 250 (own_AIIIIIIIIIIIIIRRRRRRRUUUU p0 p1 p2 r0_s0 r12_s0 r25_s0 r38_s0 r52_s0 r66_s0 r80_s0 r94_s0 r109_s0 v128 b131 b156 b167 r193 r206 r220 r234) [(.int r80_s0)]) t → own_S p e below T234 (mkF m 245 (own_AIIIIIIIIIIIIIRRRRRRRUUUU p0 p1 p2 r0_s0 r12_s0 r25_s0 r38_s0 r52_s0 r66_s0 r80_s0 r94_s0 r109_s0 v128 b131 b156 b167 r193 r206 r220 r234) [(.int r38_s0)]) t := by
          intro t k
          show own_S p e below T234 (mkF m 245 (own_AIIIIIIIIIIIIIRRRRRRRUUUU p0 p1 p2 r0_s0 r12_s0 r25_s0 r38_s0 r52_s0 r66_s0 r80_s0 r94_s0 r109_s0 v128 b131 b156 b167 r193 r206 r220 r234) [(.int r38_s0)]) _
          refine XS.ifNo X234.here hx rfl (hb hby at_245) rfl ((if0 _ _).trans (teq hc245).2) ?_
          show own_S p e below T234 (mkF m 248 (own_AIIIIIIIIIIIIIRRRRRRRUUUU p0 p1 p2 r0_s0 r12_s0 r25_s0 r38_s0 r52_s0 r66_s0 r80_s0 r94_s0 r109_s0 v128 b131 b156 b167 r193 r206 r220 r234) []) _
          refine XS.iload X234.here hx rfl (hb hby at_248) rfl ?_
          exact k
        by_cases hc250 : r80_s0 = (0 : Int32)
        · rw [if_pos hc250] at hr239_s0
          have sg258 : ∀ t, own_S p e below T234 (mkF m 258 (own_AIIIIIIIIIIIIIRRRRRRRUUUU p0 p1 p2 r0_s0 r12_s0 r25_s0 r38_s0 r52_s0 r66_s0 r80_s0 r94_s0 r109_s0 v128 b131 b156 b167 r193 r206 r220 r234) [(.int (0 : Int32))]) t → own_S p e below T234 (mkF m 250 (own_AIIIIIIIIIIIIIRRRRRRRUUUU p0 p1 p2 r0_s0 r12_s0 r25_s0 r38_s0 r52_s0 r66_s0 r80_s0 r94_s0 r109_s0 v128 b131 b156 b167 r193 r206 r220 r234) [(.int r80_s0)]) t := by
            intro t k
            show own_S p e below T234 (mkF m 250 (own_AIIIIIIIIIIIIIRRRRRRRUUUU p0 p1 p2 r0_s0 r12_s0 r25_s0 r38_s0 r52_s0 r66_s0 r80_s0 r94_s0 r109_s0 v128 b131 b156 b167 r193 r206 r220 r234) [(.int r80_s0)]) _
            refine XS.ifYes X234.here hx rfl (pc0 := 250) (pc' := 257) rfl (hb hby at_250) rfl ((if0 _ _).trans (teq hc250).1) (by decide) (by decide) ?_
            show own_S p e below T234 (mkF m 257 (own_AIIIIIIIIIIIIIRRRRRRRUUUU p0 p1 p2 r0_s0 r12_s0 r25_s0 r38_s0 r52_s0 r66_s0 r80_s0 r94_s0 r109_s0 v128 b131 b156 b167 r193 r206 r220 r234) []) _
            refine XS.iconst X234.here hx rfl (hb hby at_257) ?_
            exact k
          rw [hr239_s0]
          exact fun t k => (sg240 t (sg245 t (sg250 t (sg258 t k))))
        · rw [if_neg hc250] at hr239_s0
          have sg258 : ∀ t, own_S p e below T234 (mkF m 258 (own_AIIIIIIIIIIIIIRRRRRRRUUUU p0 p1 p2 r0_s0 r12_s0 r25_s0 r38_s0 r52_s0 r66_s0 r80_s0 r94_s0 r109_s0 v128 b131 b156 b167 r193 r206 r220 r234) [(.int (1 : Int32))]) t → own_S p e below T234 (mkF m 250 (own_AIIIIIIIIIIIIIRRRRRRRUUUU p0 p1 p2 r0_s0 r12_s0 r25_s0 r38_s0 r52_s0 r66_s0 r80_s0 r94_s0 r109_s0 v128 b131 b156 b167 r193 r206 r220 r234) [(.int r80_s0)]) t := by
            intro t k
            show own_S p e below T234 (mkF m 250 (own_AIIIIIIIIIIIIIRRRRRRRUUUU p0 p1 p2 r0_s0 r12_s0 r25_s0 r38_s0 r52_s0 r66_s0 r80_s0 r94_s0 r109_s0 v128 b131 b156 b167 r193 r206 r220 r234) [(.int r80_s0)]) _
            refine XS.ifNo X234.here hx rfl (hb hby at_250) rfl ((if0 _ _).trans (feq hc250).1) ?_
            show own_S p e below T234 (mkF m 253 (own_AIIIIIIIIIIIIIRRRRRRRUUUU p0 p1 p2 r0_s0 r12_s0 r25_s0 r38_s0 r52_s0 r66_s0 r80_s0 r94_s0 r109_s0 v128 b131 b156 b167 r193 r206 r220 r234) []) _
            refine XS.iconst X234.here hx rfl (hb hby at_253) ?_
            show own_S p e below T234 (mkF m 254 (own_AIIIIIIIIIIIIIRRRRRRRUUUU p0 p1 p2 r0_s0 r12_s0 r25_s0 r38_s0 r52_s0 r66_s0 r80_s0 r94_s0 r109_s0 v128 b131 b156 b167 r193 r206 r220 r234) [(.int (1 : Int32))]) _
            refine XS.goto X234.here hx rfl (pc0 := 254) (pc' := 258) rfl (hb hby at_254) (by decide) (by decide) ?_
            exact k
          rw [hr239_s0]
          exact fun t k => (sg240 t (sg245 t (sg250 t (sg258 t k))))
      · rw [if_neg hc245] at hr239_s0
        have sg258 : ∀ t, own_S p e below T234 (mkF m 258 (own_AIIIIIIIIIIIIIRRRRRRRUUUU p0 p1 p2 r0_s0 r12_s0 r25_s0 r38_s0 r52_s0 r66_s0 r80_s0 r94_s0 r109_s0 v128 b131 b156 b167 r193 r206 r220 r234) [(.int (1 : Int32))]) t → own_S p e below T234 (mkF m 245 (own_AIIIIIIIIIIIIIRRRRRRRUUUU p0 p1 p2 r0_s0 r12_s0 r25_s0 r38_s0 r52_s0 r66_s0 r80_s0 r94_s0 r109_s0 v128 b131 b156 b167 r193 r206 r220 r234) [(.int r38_s0)]) t := by
          intro t k
          show own_S p e below T234 (mkF m 245 (own_AIIIIIIIIIIIIIRRRRRRRUUUU p0 p1 p2 r0_s0 r12_s0 r25_s0 r38_s0 r52_s0 r66_s0 r80_s0 r94_s0 r109_s0 v128 b131 b156 b167 r193 r206 r220 r234) [(.int r38_s0)]) _
          refine XS.ifYes X234.here hx rfl (pc0 := 245) (pc' := 253) rfl (hb hby at_245) rfl ((if0 _ _).trans (feq hc245).2) (by decide) (by decide) ?_
          show own_S p e below T234 (mkF m 253 (own_AIIIIIIIIIIIIIRRRRRRRUUUU p0 p1 p2 r0_s0 r12_s0 r25_s0 r38_s0 r52_s0 r66_s0 r80_s0 r94_s0 r109_s0 v128 b131 b156 b167 r193 r206 r220 r234) []) _
          refine XS.iconst X234.here hx rfl (hb hby at_253) ?_
          show own_S p e below T234 (mkF m 254 (own_AIIIIIIIIIIIIIRRRRRRRUUUU p0 p1 p2 r0_s0 r12_s0 r25_s0 r38_s0 r52_s0 r66_s0 r80_s0 r94_s0 r109_s0 v128 b131 b156 b167 r193 r206 r220 r234) [(.int (1 : Int32))]) _
          refine XS.goto X234.here hx rfl (pc0 := 254) (pc' := 258) rfl (hb hby at_254) (by decide) (by decide) ?_
          exact k
        rw [hr239_s0]
        exact fun t k => (sg240 t (sg245 t (sg258 t k)))
    · rw [if_neg hc240] at hr239_s0
      have sg258 : ∀ t, own_S p e below T234 (mkF m 258 (own_AIIIIIIIIIIIIIRRRRRRRUUUU p0 p1 p2 r0_s0 r12_s0 r25_s0 r38_s0 r52_s0 r66_s0 r80_s0 r94_s0 r109_s0 v128 b131 b156 b167 r193 r206 r220 r234) [(.int (1 : Int32))]) t → own_S p e below T234 (mkF m 240 (own_AIIIIIIIIIIIIIRRRRRRRUUUU p0 p1 p2 r0_s0 r12_s0 r25_s0 r38_s0 r52_s0 r66_s0 r80_s0 r94_s0 r109_s0 v128 b131 b156 b167 r193 r206 r220 r234) [(.int r0_s0)]) t := by
        intro t k
        show own_S p e below T234 (mkF m 240 (own_AIIIIIIIIIIIIIRRRRRRRUUUU p0 p1 p2 r0_s0 r12_s0 r25_s0 r38_s0 r52_s0 r66_s0 r80_s0 r94_s0 r109_s0 v128 b131 b156 b167 r193 r206 r220 r234) [(.int r0_s0)]) _
        refine XS.ifYes X234.here hx rfl (pc0 := 240) (pc' := 253) rfl (hb hby at_240) rfl ((if0 _ _).trans (feq hc240).2) (by decide) (by decide) ?_
        show own_S p e below T234 (mkF m 253 (own_AIIIIIIIIIIIIIRRRRRRRUUUU p0 p1 p2 r0_s0 r12_s0 r25_s0 r38_s0 r52_s0 r66_s0 r80_s0 r94_s0 r109_s0 v128 b131 b156 b167 r193 r206 r220 r234) []) _
        refine XS.iconst X234.here hx rfl (hb hby at_253) ?_
        show own_S p e below T234 (mkF m 254 (own_AIIIIIIIIIIIIIRRRRRRRUUUU p0 p1 p2 r0_s0 r12_s0 r25_s0 r38_s0 r52_s0 r66_s0 r80_s0 r94_s0 r109_s0 v128 b131 b156 b167 r193 r206 r220 r234) [(.int (1 : Int32))]) _
        refine XS.goto X234.here hx rfl (pc0 := 254) (pc' := 258) rfl (hb hby at_254) (by decide) (by decide) ?_
        exact k
      rw [hr239_s0]
      exact fun t k => (sg240 t (sg258 t k))
  refine own_by str239 ?_
  have sg260 : ∀ t, own_S p e below T234 (mkF m 260 (own_AIIIIIIIIIIIIIRRRRRRRIUUU p0 p1 p2 r0_s0 r12_s0 r25_s0 r38_s0 r52_s0 r66_s0 r80_s0 r94_s0 r109_s0 v128 b131 b156 b167 r193 r206 r220 r234 r239_s0) []) t → own_S p e below T234 (mkF m 258 (own_AIIIIIIIIIIIIIRRRRRRRUUUU p0 p1 p2 r0_s0 r12_s0 r25_s0 r38_s0 r52_s0 r66_s0 r80_s0 r94_s0 r109_s0 v128 b131 b156 b167 r193 r206 r220 r234) [(.int r239_s0)]) t := by
    intro t k
    show own_S p e below T234 (mkF m 258 (own_AIIIIIIIIIIIIIRRRRRRRUUUU p0 p1 p2 r0_s0 r12_s0 r25_s0 r38_s0 r52_s0 r66_s0 r80_s0 r94_s0 r109_s0 v128 b131 b156 b167 r193 r206 r220 r234) [(.int r239_s0)]) _
    refine XS.istore X234.here hx rfl (hb hby at_258) rfl (l' := (own_AIIIIIIIIIIIIIRRRRRRRIUUU p0 p1 p2 r0_s0 r12_s0 r25_s0 r38_s0 r52_s0 r66_s0 r80_s0 r94_s0 r109_s0 v128 b131 b156 b167 r193 r206 r220 r234 r239_s0)) rfl ?_
    exact k
  refine own_by sg260 ?_
  obtain ⟨r260_s0, hr260_s0⟩ : ∃ z : Int32, z = (if r80_s0 = (0 : Int32) then (if r38_s0 = (0 : Int32) then (v128 + (2 : Int32)) else (1 : Int32)) else (0 : Int32)) := ⟨_, rfl⟩
  have str260 : ∀ t, own_S p e below T234 (mkF m 282 (own_AIIIIIIIIIIIIIRRRRRRRIUUU p0 p1 p2 r0_s0 r12_s0 r25_s0 r38_s0 r52_s0 r66_s0 r80_s0 r94_s0 r109_s0 v128 b131 b156 b167 r193 r206 r220 r234 r239_s0) [(.int r260_s0)]) t → own_S p e below T234 (mkF m 260 (own_AIIIIIIIIIIIIIRRRRRRRIUUU p0 p1 p2 r0_s0 r12_s0 r25_s0 r38_s0 r52_s0 r66_s0 r80_s0 r94_s0 r109_s0 v128 b131 b156 b167 r193 r206 r220 r234 r239_s0) []) t := by
    have sg262 : ∀ t, own_S p e below T234 (mkF m 262 (own_AIIIIIIIIIIIIIRRRRRRRIUUU p0 p1 p2 r0_s0 r12_s0 r25_s0 r38_s0 r52_s0 r66_s0 r80_s0 r94_s0 r109_s0 v128 b131 b156 b167 r193 r206 r220 r234 r239_s0) [(.int r80_s0)]) t → own_S p e below T234 (mkF m 260 (own_AIIIIIIIIIIIIIRRRRRRRIUUU p0 p1 p2 r0_s0 r12_s0 r25_s0 r38_s0 r52_s0 r66_s0 r80_s0 r94_s0 r109_s0 v128 b131 b156 b167 r193 r206 r220 r234 r239_s0) []) t := by
      intro t k
      show own_S p e below T234 (mkF m 260 (own_AIIIIIIIIIIIIIRRRRRRRIUUU p0 p1 p2 r0_s0 r12_s0 r25_s0 r38_s0 r52_s0 r66_s0 r80_s0 r94_s0 r109_s0 v128 b131 b156 b167 r193 r206 r220 r234 r239_s0) []) _
      refine XS.iload X234.here hx rfl (hb hby at_260) rfl ?_
      exact k
    by_cases hc262 : r80_s0 = (0 : Int32)
    · rw [if_pos hc262] at hr260_s0
      have sg271 : ∀ t, own_S p e below T234 (mkF m 271 (own_AIIIIIIIIIIIIIRRRRRRRIUUU p0 p1 p2 r0_s0 r12_s0 r25_s0 r38_s0 r52_s0 r66_s0 r80_s0 r94_s0 r109_s0 v128 b131 b156 b167 r193 r206 r220 r234 r239_s0) [(.int r38_s0)]) t → own_S p e below T234 (mkF m 262 (own_AIIIIIIIIIIIIIRRRRRRRIUUU p0 p1 p2 r0_s0 r12_s0 r25_s0 r38_s0 r52_s0 r66_s0 r80_s0 r94_s0 r109_s0 v128 b131 b156 b167 r193 r206 r220 r234 r239_s0) [(.int r80_s0)]) t := by
        intro t k
        show own_S p e below T234 (mkF m 262 (own_AIIIIIIIIIIIIIRRRRRRRIUUU p0 p1 p2 r0_s0 r12_s0 r25_s0 r38_s0 r52_s0 r66_s0 r80_s0 r94_s0 r109_s0 v128 b131 b156 b167 r193 r206 r220 r234 r239_s0) [(.int r80_s0)]) _
        refine XS.ifYes X234.here hx rfl (pc0 := 262) (pc' := 269) rfl (hb hby at_262) rfl ((if0 _ _).trans (teq hc262).1) (by decide) (by decide) ?_
        show own_S p e below T234 (mkF m 269 (own_AIIIIIIIIIIIIIRRRRRRRIUUU p0 p1 p2 r0_s0 r12_s0 r25_s0 r38_s0 r52_s0 r66_s0 r80_s0 r94_s0 r109_s0 v128 b131 b156 b167 r193 r206 r220 r234 r239_s0) []) _
        refine XS.iload X234.here hx rfl (hb hby at_269) rfl ?_
        exact k
      by_cases hc271 : r38_s0 = (0 : Int32)
      · rw [if_pos hc271] at hr260_s0
        have sg282 : ∀ t, own_S p e below T234 (mkF m 282 (own_AIIIIIIIIIIIIIRRRRRRRIUUU p0 p1 p2 r0_s0 r12_s0 r25_s0 r38_s0 r52_s0 r66_s0 r80_s0 r94_s0 r109_s0 v128 b131 b156 b167 r193 r206 r220 r234 r239_s0) [(.int (v128 + (2 : Int32)))]) t → own_S p e below T234 (mkF m 271 (own_AIIIIIIIIIIIIIRRRRRRRIUUU p0 p1 p2 r0_s0 r12_s0 r25_s0 r38_s0 r52_s0 r66_s0 r80_s0 r94_s0 r109_s0 v128 b131 b156 b167 r193 r206 r220 r234 r239_s0) [(.int r38_s0)]) t := by
          intro t k
          show own_S p e below T234 (mkF m 271 (own_AIIIIIIIIIIIIIRRRRRRRIUUU p0 p1 p2 r0_s0 r12_s0 r25_s0 r38_s0 r52_s0 r66_s0 r80_s0 r94_s0 r109_s0 v128 b131 b156 b167 r193 r206 r220 r234 r239_s0) [(.int r38_s0)]) _
          refine XS.ifYes X234.here hx rfl (pc0 := 271) (pc' := 278) rfl (hb hby at_271) rfl ((if0 _ _).trans (teq hc271).1) (by decide) (by decide) ?_
          show own_S p e below T234 (mkF m 278 (own_AIIIIIIIIIIIIIRRRRRRRIUUU p0 p1 p2 r0_s0 r12_s0 r25_s0 r38_s0 r52_s0 r66_s0 r80_s0 r94_s0 r109_s0 v128 b131 b156 b167 r193 r206 r220 r234 r239_s0) []) _
          refine XS.iload X234.here hx rfl (hb hby at_278) rfl ?_
          show own_S p e below T234 (mkF m 280 (own_AIIIIIIIIIIIIIRRRRRRRIUUU p0 p1 p2 r0_s0 r12_s0 r25_s0 r38_s0 r52_s0 r66_s0 r80_s0 r94_s0 r109_s0 v128 b131 b156 b167 r193 r206 r220 r234 r239_s0) [(.int v128)]) _
          refine XS.iconst X234.here hx rfl (hb hby at_280) ?_
          show own_S p e below T234 (mkF m 281 (own_AIIIIIIIIIIIIIRRRRRRRIUUU p0 p1 p2 r0_s0 r12_s0 r25_s0 r38_s0 r52_s0 r66_s0 r80_s0 r94_s0 r109_s0 v128 b131 b156 b167 r193 r206 r220 r234 r239_s0) [(.int (2 : Int32)), (.int v128)]) _
          refine XS.iadd X234.here hx rfl (hb hby at_281) rfl ?_
          exact k
        rw [hr260_s0]
        exact fun t k => (sg262 t (sg271 t (sg282 t k)))
      · rw [if_neg hc271] at hr260_s0
        have sg282 : ∀ t, own_S p e below T234 (mkF m 282 (own_AIIIIIIIIIIIIIRRRRRRRIUUU p0 p1 p2 r0_s0 r12_s0 r25_s0 r38_s0 r52_s0 r66_s0 r80_s0 r94_s0 r109_s0 v128 b131 b156 b167 r193 r206 r220 r234 r239_s0) [(.int (1 : Int32))]) t → own_S p e below T234 (mkF m 271 (own_AIIIIIIIIIIIIIRRRRRRRIUUU p0 p1 p2 r0_s0 r12_s0 r25_s0 r38_s0 r52_s0 r66_s0 r80_s0 r94_s0 r109_s0 v128 b131 b156 b167 r193 r206 r220 r234 r239_s0) [(.int r38_s0)]) t := by
          intro t k
          show own_S p e below T234 (mkF m 271 (own_AIIIIIIIIIIIIIRRRRRRRIUUU p0 p1 p2 r0_s0 r12_s0 r25_s0 r38_s0 r52_s0 r66_s0 r80_s0 r94_s0 r109_s0 v128 b131 b156 b167 r193 r206 r220 r234 r239_s0) [(.int r38_s0)]) _
          refine XS.ifNo X234.here hx rfl (hb hby at_271) rfl ((if0 _ _).trans (feq hc271).1) ?_
          show own_S p e below T234 (mkF m 274 (own_AIIIIIIIIIIIIIRRRRRRRIUUU p0 p1 p2 r0_s0 r12_s0 r25_s0 r38_s0 r52_s0 r66_s0 r80_s0 r94_s0 r109_s0 v128 b131 b156 b167 r193 r206 r220 r234 r239_s0) []) _
          refine XS.iconst X234.here hx rfl (hb hby at_274) ?_
          show own_S p e below T234 (mkF m 275 (own_AIIIIIIIIIIIIIRRRRRRRIUUU p0 p1 p2 r0_s0 r12_s0 r25_s0 r38_s0 r52_s0 r66_s0 r80_s0 r94_s0 r109_s0 v128 b131 b156 b167 r193 r206 r220 r234 r239_s0) [(.int (1 : Int32))]) _
          refine XS.goto X234.here hx rfl (pc0 := 275) (pc' := 282) rfl (hb hby at_275) (by decide) (by decide) ?_
          exact k
        rw [hr260_s0]
        exact fun t k => (sg262 t (sg271 t (sg282 t k)))
    · rw [if_neg hc262] at hr260_s0
      have sg282 : ∀ t, own_S p e below T234 (mkF m 282 (own_AIIIIIIIIIIIIIRRRRRRRIUUU p0 p1 p2 r0_s0 r12_s0 r25_s0 r38_s0 r52_s0 r66_s0 r80_s0 r94_s0 r109_s0 v128 b131 b156 b167 r193 r206 r220 r234 r239_s0) [(.int (0 : Int32))]) t → own_S p e below T234 (mkF m 262 (own_AIIIIIIIIIIIIIRRRRRRRIUUU p0 p1 p2 r0_s0 r12_s0 r25_s0 r38_s0 r52_s0 r66_s0 r80_s0 r94_s0 r109_s0 v128 b131 b156 b167 r193 r206 r220 r234 r239_s0) [(.int r80_s0)]) t := by
        intro t k
        show own_S p e below T234 (mkF m 262 (own_AIIIIIIIIIIIIIRRRRRRRIUUU p0 p1 p2 r0_s0 r12_s0 r25_s0 r38_s0 r52_s0 r66_s0 r80_s0 r94_s0 r109_s0 v128 b131 b156 b167 r193 r206 r220 r234 r239_s0) [(.int r80_s0)]) _
        refine XS.ifNo X234.here hx rfl (hb hby at_262) rfl ((if0 _ _).trans (feq hc262).1) ?_
        show own_S p e below T234 (mkF m 265 (own_AIIIIIIIIIIIIIRRRRRRRIUUU p0 p1 p2 r0_s0 r12_s0 r25_s0 r38_s0 r52_s0 r66_s0 r80_s0 r94_s0 r109_s0 v128 b131 b156 b167 r193 r206 r220 r234 r239_s0) []) _
        refine XS.iconst X234.here hx rfl (hb hby at_265) ?_
        show own_S p e below T234 (mkF m 266 (own_AIIIIIIIIIIIIIRRRRRRRIUUU p0 p1 p2 r0_s0 r12_s0 r25_s0 r38_s0 r52_s0 r66_s0 r80_s0 r94_s0 r109_s0 v128 b131 b156 b167 r193 r206 r220 r234 r239_s0) [(.int (0 : Int32))]) _
        refine XS.goto X234.here hx rfl (pc0 := 266) (pc' := 282) rfl (hb hby at_266) (by decide) (by decide) ?_
        exact k
      rw [hr260_s0]
      exact fun t k => (sg262 t (sg282 t k))
  refine own_by str260 ?_
  have sg284 : ∀ t, own_S p e below T234 (mkF m 284 (own_AIIIIIIIIIIIIIRRRRRRRIIUU p0 p1 p2 r0_s0 r12_s0 r25_s0 r38_s0 r52_s0 r66_s0 r80_s0 r94_s0 r109_s0 v128 b131 b156 b167 r193 r206 r220 r234 r239_s0 r260_s0) []) t → own_S p e below T234 (mkF m 282 (own_AIIIIIIIIIIIIIRRRRRRRIUUU p0 p1 p2 r0_s0 r12_s0 r25_s0 r38_s0 r52_s0 r66_s0 r80_s0 r94_s0 r109_s0 v128 b131 b156 b167 r193 r206 r220 r234 r239_s0) [(.int r260_s0)]) t := by
    intro t k
    show own_S p e below T234 (mkF m 282 (own_AIIIIIIIIIIIIIRRRRRRRIUUU p0 p1 p2 r0_s0 r12_s0 r25_s0 r38_s0 r52_s0 r66_s0 r80_s0 r94_s0 r109_s0 v128 b131 b156 b167 r193 r206 r220 r234 r239_s0) [(.int r260_s0)]) _
    refine XS.istore X234.here hx rfl (hb hby at_282) rfl (l' := (own_AIIIIIIIIIIIIIRRRRRRRIIUU p0 p1 p2 r0_s0 r12_s0 r25_s0 r38_s0 r52_s0 r66_s0 r80_s0 r94_s0 r109_s0 v128 b131 b156 b167 r193 r206 r220 r234 r239_s0 r260_s0)) rfl ?_
    exact k
  refine own_by sg284 ?_
  obtain ⟨r284_s0, hr284_s0⟩ : ∃ z : Int32, z = (if r12_s0 = (0 : Int32) then (if r52_s0 = (0 : Int32) then (if r94_s0 = (0 : Int32) then (0 : Int32) else (if r80_s0 = (0 : Int32) then (1 : Int32) else (0 : Int32))) else (if r38_s0 = (0 : Int32) then (1 : Int32) else (if r94_s0 = (0 : Int32) then (0 : Int32) else (if r80_s0 = (0 : Int32) then (1 : Int32) else (0 : Int32))))) else (1 : Int32)) := ⟨_, rfl⟩
  have str284 : ∀ t, own_S p e below T234 (mkF m 314 (own_AIIIIIIIIIIIIIRRRRRRRIIUU p0 p1 p2 r0_s0 r12_s0 r25_s0 r38_s0 r52_s0 r66_s0 r80_s0 r94_s0 r109_s0 v128 b131 b156 b167 r193 r206 r220 r234 r239_s0 r260_s0) [(.int r284_s0)]) t → own_S p e below T234 (mkF m 284 (own_AIIIIIIIIIIIIIRRRRRRRIIUU p0 p1 p2 r0_s0 r12_s0 r25_s0 r38_s0 r52_s0 r66_s0 r80_s0 r94_s0 r109_s0 v128 b131 b156 b167 r193 r206 r220 r234 r239_s0 r260_s0) []) t := by
    have sg286 : ∀ t, own_S p e below T234 (mkF m 286 (own_AIIIIIIIIIIIIIRRRRRRRIIUU p0 p1 p2 r0_s0 r12_s0 r25_s0 r38_s0 r52_s0 r66_s0 r80_s0 r94_s0 r109_s0 v128 b131 b156 b167 r193 r206 r220 r234 r239_s0 r260_s0) [(.int r12_s0)]) t → own_S p e below T234 (mkF m 284 (own_AIIIIIIIIIIIIIRRRRRRRIIUU p0 p1 p2 r0_s0 r12_s0 r25_s0 r38_s0 r52_s0 r66_s0 r80_s0 r94_s0 r109_s0 v128 b131 b156 b167 r193 r206 r220 r234 r239_s0 r260_s0) []) t := by
      intro t k
      show own_S p e below T234 (mkF m 284 (own_AIIIIIIIIIIIIIRRRRRRRIIUU p0 p1 p2 r0_s0 r12_s0 r25_s0 r38_s0 r52_s0 r66_s0 r80_s0 r94_s0 r109_s0 v128 b131 b156 b167 r193 r206 r220 r234 r239_s0 r260_s0) []) _
      refine XS.iload X234.here hx rfl (hb hby at_284) rfl ?_
      exact k
    by_cases hc286 : r12_s0 = (0 : Int32)
    · rw [if_pos hc286] at hr284_s0
      have sg291 : ∀ t, own_S p e below T234 (mkF m 291 (own_AIIIIIIIIIIIIIRRRRRRRIIUU p0 p1 p2 r0_s0 r12_s0 r25_s0 r38_s0 r52_s0 r66_s0 r80_s0 r94_s0 r109_s0 v128 b131 b156 b167 r193 r206 r220 r234 r239_s0 r260_s0) [(.int r52_s0)]) t → own_S p e below T234 (mkF m 286 (own_AIIIIIIIIIIIIIRRRRRRRIIUU p0 p1 p2 r0_s0 r12_s0 r25_s0 r38_s0 r52_s0 r66_s0 r80_s0 r94_s0 r109_s0 v128 b131 b156 b167 r193 r206 r220 r234 r239_s0 r260_s0) [(.int r12_s0)]) t := by
        intro t k
        show own_S p e below T234 (mkF m 286 (own_AIIIIIIIIIIIIIRRRRRRRIIUU p0 p1 p2 r0_s0 r12_s0 r25_s0 r38_s0 r52_s0 r66_s0 r80_s0 r94_s0 r109_s0 v128 b131 b156 b167 r193 r206 r220 r234 r239_s0 r260_s0) [(.int r12_s0)]) _
        refine XS.ifNo X234.here hx rfl (hb hby at_286) rfl ((if0 _ _).trans (teq hc286).2) ?_
        show own_S p e below T234 (mkF m 289 (own_AIIIIIIIIIIIIIRRRRRRRIIUU p0 p1 p2 r0_s0 r12_s0 r25_s0 r38_s0 r52_s0 r66_s0 r80_s0 r94_s0 r109_s0 v128 b131 b156 b167 r193 r206 r220 r234 r239_s0 r260_s0) []) _
        refine XS.iload X234.here hx rfl (hb hby at_289) rfl ?_
        exact k
      by_cases hc291 : r52_s0 = (0 : Int32)
      · rw [if_pos hc291] at hr284_s0
        have sg301 : ∀ t, own_S p e below T234 (mkF m 301 (own_AIIIIIIIIIIIIIRRRRRRRIIUU p0 p1 p2 r0_s0 r12_s0 r25_s0 r38_s0 r52_s0 r66_s0 r80_s0 r94_s0 r109_s0 v128 b131 b156 b167 r193 r206 r220 r234 r239_s0 r260_s0) [(.int r94_s0)]) t → own_S p e below T234 (mkF m 291 (own_AIIIIIIIIIIIIIRRRRRRRIIUU p0 p1 p2 r0_s0 r12_s0 r25_s0 r38_s0 r52_s0 r66_s0 r80_s0 r94_s0 r109_s0 v128 b131 b156 b167 r193 r206 r220 r234 r239_s0 r260_s0) [(.int r52_s0)]) t := by
          intro t k
          show own_S p e below T234 (mkF m 291 (own_AIIIIIIIIIIIIIRRRRRRRIIUU p0 p1 p2 r0_s0 r12_s0 r25_s0 r38_s0 r52_s0 r66_s0 r80_s0 r94_s0 r109_s0 v128 b131 b156 b167 r193 r206 r220 r234 r239_s0 r260_s0) [(.int r52_s0)]) _
          refine XS.ifYes X234.here hx rfl (pc0 := 291) (pc' := 299) rfl (hb hby at_291) rfl ((if0 _ _).trans (teq hc291).1) (by decide) (by decide) ?_
          show own_S p e below T234 (mkF m 299 (own_AIIIIIIIIIIIIIRRRRRRRIIUU p0 p1 p2 r0_s0 r12_s0 r25_s0 r38_s0 r52_s0 r66_s0 r80_s0 r94_s0 r109_s0 v128 b131 b156 b167 r193 r206 r220 r234 r239_s0 r260_s0) []) _
          refine XS.iload X234.here hx rfl (hb hby at_299) rfl ?_
          exact k
        by_cases hc301 : r94_s0 = (0 : Int32)
        · rw [if_pos hc301] at hr284_s0
          have sg314 : ∀ t, own_S p e below T234 (mkF m 314 (own_AIIIIIIIIIIIIIRRRRRRRIIUU p0 p1 p2 r0_s0 r12_s0 r25_s0 r38_s0 r52_s0 r66_s0 r80_s0 r94_s0 r109_s0 v128 b131 b156 b167 r193 r206 r220 r234 r239_s0 r260_s0) [(.int (0 : Int32))]) t → own_S p e below T234 (mkF m 301 (own_AIIIIIIIIIIIIIRRRRRRRIIUU p0 p1 p2 r0_s0 r12_s0 r25_s0 r38_s0 r52_s0 r66_s0 r80_s0 r94_s0 r109_s0 v128 b131 b156 b167 r193 r206 r220 r234 r239_s0 r260_s0) [(.int r94_s0)]) t := by
            intro t k
            show own_S p e below T234 (mkF m 301 (own_AIIIIIIIIIIIIIRRRRRRRIIUU p0 p1 p2 r0_s0 r12_s0 r25_s0 r38_s0 r52_s0 r66_s0 r80_s0 r94_s0 r109_s0 v128 b131 b156 b167 r193 r206 r220 r234 r239_s0 r260_s0) [(.int r94_s0)]) _
            refine XS.ifYes X234.here hx rfl (pc0 := 301) (pc' := 313) rfl (hb hby at_301) rfl ((if0 _ _).trans (teq hc301).1) (by decide) (by decide) ?_
            show own_S p e below T234 (mkF m 313 (own_AIIIIIIIIIIIIIRRRRRRRIIUU p0 p1 p2 r0_s0 r12_s0 r25_s0 r38_s0 r52_s0 r66_s0 r80_s0 r94_s0 r109_s0 v128 b131 b156 b167 r193 r206 r220 r234 r239_s0 r260_s0) []) _
            refine XS.iconst X234.here hx rfl (hb hby at_313) ?_
            exact k
          rw [hr284_s0]
          exact fun t k => (sg286 t (sg291 t (sg301 t (sg314 t k))))
        · rw [if_neg hc301] at hr284_s0
          have sg306 : ∀ t, own_S p e below T234 (mkF m 306 (own_AIIIIIIIIIIIIIRRRRRRRIIUU p0 p1 p2 r0_s0 r12_s0 r25_s0 r38_s0 r52_s0 r66_s0 r80_s0 r94_s0 r109_s0 v128 b131 b156 b167 r193 r206 r220 r234 r239_s0 r260_s0) [(.int r80_s0)]) t → own_S p e below T234 (mkF m 301 (own_AIIIIIIIIIIIIIRRRRRRRIIUU p0 p1 p2 r0_s0 r12_s0 r25_s0 r38_s0 r52_s0 r66_s0 r80_s0 r94_s0 r109_s0 v128 b131 b156 b167 r193 r206 r220 r234 r239_s0 r260_s0) [(.int r94_s0)]) t := by
            intro t k
            show own_S p e below T234 (mkF m 301 (own_AIIIIIIIIIIIIIRRRRRRRIIUU p0 p1 p2 r0_s0 r12_s0 r25_s0 r38_s0 r52_s0 r66_s0 r80_s0 r94_s0 r109_s0 v128 b131 b156 b167 r193 r206 r220 r234 r239_s0 r260_s0) [(.int r94_s0)]) _
            refine XS.ifNo X234.here hx rfl (hb hby at_301) rfl ((if0 _ _).trans (feq hc301).1) ?_
            show own_S p e below T234 (mkF m 304 (own_AIIIIIIIIIIIIIRRRRRRRIIUU p0 p1 p2 r0_s0 r12_s0 r25_s0 r38_s0 r52_s0 r66_s0 r80_s0 r94_s0 r109_s0 v128 b131 b156 b167 r193 r206 r220 r234 r239_s0 r260_s0) []) _
            refine XS.iload X234.here hx rfl (hb hby at_304) rfl ?_
            exact k
          by_cases hc306 : r80_s0 = (0 : Int32)
          · rw [if_pos hc306] at hr284_s0
            have sg314 : ∀ t, own_S p e below T234 (mkF m 314 (own_AIIIIIIIIIIIIIRRRRRRRIIUU p0 p1 p2 r0_s0 r12_s0 r25_s0 r38_s0 r52_s0 r66_s0 r80_s0 r94_s0 r109_s0 v128 b131 b156 b167 r193 r206 r220 r234 r239_s0 r260_s0) [(.int (1 : Int32))]) t → own_S p e below T234 (mkF m 306 (own_AIIIIIIIIIIIIIRRRRRRRIIUU p0 p1 p2 r0_s0 r12_s0 r25_s0 r38_s0 r52_s0 r66_s0 r80_s0 r94_s0 r109_s0 v128 b131 b156 b167 r193 r206 r220 r234 r239_s0 r260_s0) [(.int r80_s0)]) t := by
              intro t k
              show own_S p e below T234 (mkF m 306 (own_AIIIIIIIIIIIIIRRRRRRRIIUU p0 p1 p2 r0_s0 r12_s0 r25_s0 r38_s0 r52_s0 r66_s0 r80_s0 r94_s0 r109_s0 v128 b131 b156 b167 r193 r206 r220 r234 r239_s0 r260_s0) [(.int r80_s0)]) _
              refine XS.ifNo X234.here hx rfl (hb hby at_306) rfl ((if0 _ _).trans (teq hc306).2) ?_
              show own_S p e below T234 (mkF m 309 (own_AIIIIIIIIIIIIIRRRRRRRIIUU p0 p1 p2 r0_s0 r12_s0 r25_s0 r38_s0 r52_s0 r66_s0 r80_s0 r94_s0 r109_s0 v128 b131 b156 b167 r193 r206 r220 r234 r239_s0 r260_s0) []) _
              refine XS.iconst X234.here hx rfl (hb hby at_309) ?_
              show own_S p e below T234 (mkF m 310 (own_AIIIIIIIIIIIIIRRRRRRRIIUU p0 p1 p2 r0_s0 r12_s0 r25_s0 r38_s0 r52_s0 r66_s0 r80_s0 r94_s0 r109_s0 v128 b131 b156 b167 r193 r206 r220 r234 r239_s0 r260_s0) [(.int (1 : Int32))]) _
              refine XS.goto X234.here hx rfl (pc0 := 310) (pc' := 314) rfl (hb hby at_310) (by decide) (by decide) ?_
              exact k
            rw [hr284_s0]
            exact fun t k => (sg286 t (sg291 t (sg301 t (sg306 t (sg314 t k)))))
          · rw [if_neg hc306] at hr284_s0
            have sg314 : ∀ t, own_S p e below T234 (mkF m 314 (own_AIIIIIIIIIIIIIRRRRRRRIIUU p0 p1 p2 r0_s0 r12_s0 r25_s0 r38_s0 r52_s0 r66_s0 r80_s0 r94_s0 r109_s0 v128 b131 b156 b167 r193 r206 r220 r234 r239_s0 r260_s0) [(.int (0 : Int32))]) t → own_S p e below T234 (mkF m 306 (own_AIIIIIIIIIIIIIRRRRRRRIIUU p0 p1 p2 r0_s0 r12_s0 r25_s0 r38_s0 r52_s0 r66_s0 r80_s0 r94_s0 r109_s0 v128 b131 b156 b167 r193 r206 r220 r234 r239_s0 r260_s0) [(.int r80_s0)]) t := by
              intro t k
              show own_S p e below T234 (mkF m 306 (own_AIIIIIIIIIIIIIRRRRRRRIIUU p0 p1 p2 r0_s0 r12_s0 r25_s0 r38_s0 r52_s0 r66_s0 r80_s0 r94_s0 r109_s0 v128 b131 b156 b167 r193 r206 r220 r234 r239_s0 r260_s0) [(.int r80_s0)]) _
              refine XS.ifYes X234.here hx rfl (pc0 := 306) (pc' := 313) rfl (hb hby at_306) rfl ((if0 _ _).trans (feq hc306).2) (by decide) (by decide) ?_
              show own_S p e below T234 (mkF m 313 (own_AIIIIIIIIIIIIIRRRRRRRIIUU p0 p1 p2 r0_s0 r12_s0 r25_s0 r38_s0 r52_s0 r66_s0 r80_s0 r94_s0 r109_s0 v128 b131 b156 b167 r193 r206 r220 r234 r239_s0 r260_s0) []) _
              refine XS.iconst X234.here hx rfl (hb hby at_313) ?_
              exact k
            rw [hr284_s0]
            exact fun t k => (sg286 t (sg291 t (sg301 t (sg306 t (sg314 t k)))))
      · rw [if_neg hc291] at hr284_s0
        have sg296 : ∀ t, own_S p e below T234 (mkF m 296 (own_AIIIIIIIIIIIIIRRRRRRRIIUU p0 p1 p2 r0_s0 r12_s0 r25_s0 r38_s0 r52_s0 r66_s0 r80_s0 r94_s0 r109_s0 v128 b131 b156 b167 r193 r206 r220 r234 r239_s0 r260_s0) [(.int r38_s0)]) t → own_S p e below T234 (mkF m 291 (own_AIIIIIIIIIIIIIRRRRRRRIIUU p0 p1 p2 r0_s0 r12_s0 r25_s0 r38_s0 r52_s0 r66_s0 r80_s0 r94_s0 r109_s0 v128 b131 b156 b167 r193 r206 r220 r234 r239_s0 r260_s0) [(.int r52_s0)]) t := by
          intro t k
          show own_S p e below T234 (mkF m 291 (own_AIIIIIIIIIIIIIRRRRRRRIIUU p0 p1 p2 r0_s0 r12_s0 r25_s0 r38_s0 r52_s0 r66_s0 r80_s0 r94_s0 r109_s0 v128 b131 b156 b167 r193 r206 r220 r234 r239_s0 r260_s0) [(.int r52_s0)]) _
          refine XS.ifNo X234.here hx rfl (hb hby at_291) rfl ((if0 _ _).trans (feq hc291).1) ?_
          show own_S p e below T234 (mkF m 294 (own_AIIIIIIIIIIIIIRRRRRRRIIUU p0 p1 p2 r0_s0 r12_s0 r25_s0 r38_s0 r52_s0 r66_s0 r80_s0 r94_s0 r109_s0 v128 b131 b156 b167 r193 r206 r220 r234 r239_s0 r260_s0) []) _
          refine XS.iload X234.here hx rfl (hb hby at_294) rfl ?_
          exact k
        by_cases hc296 : r38_s0 = (0 : Int32)
        · rw [if_pos hc296] at hr284_s0
          have sg314 : ∀ t, own_S p e below T234 (mkF m 314 (own_AIIIIIIIIIIIIIRRRRRRRIIUU p0 p1 p2 r0_s0 r12_s0 r25_s0 r38_s0 r52_s0 r66_s0 r80_s0 r94_s0 r109_s0 v128 b131 b156 b167 r193 r206 r220 r234 r239_s0 r260_s0) [(.int (1 : Int32))]) t → own_S p e below T234 (mkF m 296 (own_AIIIIIIIIIIIIIRRRRRRRIIUU p0 p1 p2 r0_s0 r12_s0 r25_s0 r38_s0 r52_s0 r66_s0 r80_s0 r94_s0 r109_s0 v128 b131 b156 b167 r193 r206 r220 r234 r239_s0 r260_s0) [(.int r38_s0)]) t := by
            intro t k
            show own_S p e below T234 (mkF m 296 (own_AIIIIIIIIIIIIIRRRRRRRIIUU p0 p1 p2 r0_s0 r12_s0 r25_s0 r38_s0 r52_s0 r66_s0 r80_s0 r94_s0 r109_s0 v128 b131 b156 b167 r193 r206 r220 r234 r239_s0 r260_s0) [(.int r38_s0)]) _
            refine XS.ifYes X234.here hx rfl (pc0 := 296) (pc' := 309) rfl (hb hby at_296) rfl ((if0 _ _).trans (teq hc296).1) (by decide) (by decide) ?_
            show own_S p e below T234 (mkF m 309 (own_AIIIIIIIIIIIIIRRRRRRRIIUU p0 p1 p2 r0_s0 r12_s0 r25_s0 r38_s0 r52_s0 r66_s0 r80_s0 r94_s0 r109_s0 v128 b131 b156 b167 r193 r206 r220 r234 r239_s0 r260_s0) []) _
            refine XS.iconst X234.here hx rfl (hb hby at_309) ?_
            show own_S p e below T234 (mkF m 310 (own_AIIIIIIIIIIIIIRRRRRRRIIUU p0 p1 p2 r0_s0 r12_s0 r25_s0 r38_s0 r52_s0 r66_s0 r80_s0 r94_s0 r109_s0 v128 b131 b156 b167 r193 r206 r220 r234 r239_s0 r260_s0) [(.int (1 : Int32))]) _
            refine XS.goto X234.here hx rfl (pc0 := 310) (pc' := 314) rfl (hb hby at_310) (by decide) (by decide) ?_
            exact k
          rw [hr284_s0]
          exact fun t k => (sg286 t (sg291 t (sg296 t (sg314 t k))))
        · rw [if_neg hc296] at hr284_s0
          have sg301 : ∀ t, own_S p e below T234 (mkF m 301 (own_AIIIIIIIIIIIIIRRRRRRRIIUU p0 p1 p2 r0_s0 r12_s0 r25_s0 r38_s0 r52_s0 r66_s0 r80_s0 r94_s0 r109_s0 v128 b131 b156 b167 r193 r206 r220 r234 r239_s0 r260_s0) [(.int r94_s0)]) t → own_S p e below T234 (mkF m 296 (own_AIIIIIIIIIIIIIRRRRRRRIIUU p0 p1 p2 r0_s0 r12_s0 r25_s0 r38_s0 r52_s0 r66_s0 r80_s0 r94_s0 r109_s0 v128 b131 b156 b167 r193 r206 r220 r234 r239_s0 r260_s0) [(.int r38_s0)]) t := by
            intro t k
            show own_S p e below T234 (mkF m 296 (own_AIIIIIIIIIIIIIRRRRRRRIIUU p0 p1 p2 r0_s0 r12_s0 r25_s0 r38_s0 r52_s0 r66_s0 r80_s0 r94_s0 r109_s0 v128 b131 b156 b167 r193 r206 r220 r234 r239_s0 r260_s0) [(.int r38_s0)]) _
            refine XS.ifNo X234.here hx rfl (hb hby at_296) rfl ((if0 _ _).trans (feq hc296).1) ?_
            show own_S p e below T234 (mkF m 299 (own_AIIIIIIIIIIIIIRRRRRRRIIUU p0 p1 p2 r0_s0 r12_s0 r25_s0 r38_s0 r52_s0 r66_s0 r80_s0 r94_s0 r109_s0 v128 b131 b156 b167 r193 r206 r220 r234 r239_s0 r260_s0) []) _
            refine XS.iload X234.here hx rfl (hb hby at_299) rfl ?_
            exact k
          by_cases hc301 : r94_s0 = (0 : Int32)
          · rw [if_pos hc301] at hr284_s0
            have sg314 : ∀ t, own_S p e below T234 (mkF m 314 (own_AIIIIIIIIIIIIIRRRRRRRIIUU p0 p1 p2 r0_s0 r12_s0 r25_s0 r38_s0 r52_s0 r66_s0 r80_s0 r94_s0 r109_s0 v128 b131 b156 b167 r193 r206 r220 r234 r239_s0 r260_s0) [(.int (0 : Int32))]) t → own_S p e below T234 (mkF m 301 (own_AIIIIIIIIIIIIIRRRRRRRIIUU p0 p1 p2 r0_s0 r12_s0 r25_s0 r38_s0 r52_s0 r66_s0 r80_s0 r94_s0 r109_s0 v128 b131 b156 b167 r193 r206 r220 r234 r239_s0 r260_s0) [(.int r94_s0)]) t := by
              intro t k
              show own_S p e below T234 (mkF m 301 (own_AIIIIIIIIIIIIIRRRRRRRIIUU p0 p1 p2 r0_s0 r12_s0 r25_s0 r38_s0 r52_s0 r66_s0 r80_s0 r94_s0 r109_s0 v128 b131 b156 b167 r193 r206 r220 r234 r239_s0 r260_s0) [(.int r94_s0)]) _
              refine XS.ifYes X234.here hx rfl (pc0 := 301) (pc' := 313) rfl (hb hby at_301) rfl ((if0 _ _).trans (teq hc301).1) (by decide) (by decide) ?_
              show own_S p e below T234 (mkF m 313 (own_AIIIIIIIIIIIIIRRRRRRRIIUU p0 p1 p2 r0_s0 r12_s0 r25_s0 r38_s0 r52_s0 r66_s0 r80_s0 r94_s0 r109_s0 v128 b131 b156 b167 r193 r206 r220 r234 r239_s0 r260_s0) []) _
              refine XS.iconst X234.here hx rfl (hb hby at_313) ?_
              exact k
            rw [hr284_s0]
            exact fun t k => (sg286 t (sg291 t (sg296 t (sg301 t (sg314 t k)))))
          · rw [if_neg hc301] at hr284_s0
            have sg306 : ∀ t, own_S p e below T234 (mkF m 306 (own_AIIIIIIIIIIIIIRRRRRRRIIUU p0 p1 p2 r0_s0 r12_s0 r25_s0 r38_s0 r52_s0 r66_s0 r80_s0 r94_s0 r109_s0 v128 b131 b156 b167 r193 r206 r220 r234 r239_s0 r260_s0) [(.int r80_s0)]) t → own_S p e below T234 (mkF m 301 (own_AIIIIIIIIIIIIIRRRRRRRIIUU p0 p1 p2 r0_s0 r12_s0 r25_s0 r38_s0 r52_s0 r66_s0 r80_s0 r94_s0 r109_s0 v128 b131 b156 b167 r193 r206 r220 r234 r239_s0 r260_s0) [(.int r94_s0)]) t := by
              intro t k
              show own_S p e below T234 (mkF m 301 (own_AIIIIIIIIIIIIIRRRRRRRIIUU p0 p1 p2 r0_s0 r12_s0 r25_s0 r38_s0 r52_s0 r66_s0 r80_s0 r94_s0 r109_s0 v128 b131 b156 b167 r193 r206 r220 r234 r239_s0 r260_s0) [(.int r94_s0)]) _
              refine XS.ifNo X234.here hx rfl (hb hby at_301) rfl ((if0 _ _).trans (feq hc301).1) ?_
              show own_S p e below T234 (mkF m 304 (own_AIIIIIIIIIIIIIRRRRRRRIIUU p0 p1 p2 r0_s0 r12_s0 r25_s0 r38_s0 r52_s0 r66_s0 r80_s0 r94_s0 r109_s0 v128 b131 b156 b167 r193 r206 r220 r234 r239_s0 r260_s0) []) _
              refine XS.iload X234.here hx rfl (hb hby at_304) rfl ?_
              exact k
            by_cases hc306 : r80_s0 = (0 : Int32)
            · rw [if_pos hc306] at hr284_s0
              have sg314 : ∀ t, own_S p e below T234 (mkF m 314 (own_AIIIIIIIIIIIIIRRRRRRRIIUU p0 p1 p2 r0_s0 r12_s0 r25_s0 r38_s0 r52_s0 r66_s0 r80_s0 r94_s0 r109_s0 v128 b131 b156 b167 r193 r206 r220 r234 r239_s0 r260_s0) [(.int (1 : Int32))]) t → own_S p e below T234 (mkF m 306 (own_AIIIIIIIIIIIIIRRRRRRRIIUU p0 p1 p2 r0_s0 r12_s0 r25_s0 r38_s0 r52_s0 r66_s0 r80_s0 r94_s0 r109_s0 v128 b131 b156 b167 r193 r206 r220 r234 r239_s0 r260_s0) [(.int r80_s0)]) t := by
                intro t k
                show own_S p e below T234 (mkF m 306 (own_AIIIIIIIIIIIIIRRRRRRRIIUU p0 p1 p2 r0_s0 r12_s0 r25_s0 r38_s0 r52_s0 r66_s0 r80_s0 r94_s0 r109_s0 v128 b131 b156 b167 r193 r206 r220 r234 r239_s0 r260_s0) [(.int r80_s0)]) _
                refine XS.ifNo X234.here hx rfl (hb hby at_306) rfl ((if0 _ _).trans (teq hc306).2) ?_
                show own_S p e below T234 (mkF m 309 (own_AIIIIIIIIIIIIIRRRRRRRIIUU p0 p1 p2 r0_s0 r12_s0 r25_s0 r38_s0 r52_s0 r66_s0 r80_s0 r94_s0 r109_s0 v128 b131 b156 b167 r193 r206 r220 r234 r239_s0 r260_s0) []) _
                refine XS.iconst X234.here hx rfl (hb hby at_309) ?_
                show own_S p e below T234 (mkF m 310 (own_AIIIIIIIIIIIIIRRRRRRRIIUU p0 p1 p2 r0_s0 r12_s0 r25_s0 r38_s0 r52_s0 r66_s0 r80_s0 r94_s0 r109_s0 v128 b131 b156 b167 r193 r206 r220 r234 r239_s0 r260_s0) [(.int (1 : Int32))]) _
                refine XS.goto X234.here hx rfl (pc0 := 310) (pc' := 314) rfl (hb hby at_310) (by decide) (by decide) ?_
                exact k
              rw [hr284_s0]
              exact fun t k => (sg286 t (sg291 t (sg296 t (sg301 t (sg306 t (sg314 t k))))))
            · rw [if_neg hc306] at hr284_s0
              have sg314 : ∀ t, own_S p e below T234 (mkF m 314 (own_AIIIIIIIIIIIIIRRRRRRRIIUU p0 p1 p2 r0_s0 r12_s0 r25_s0 r38_s0 r52_s0 r66_s0 r80_s0 r94_s0 r109_s0 v128 b131 b156 b167 r193 r206 r220 r234 r239_s0 r260_s0) [(.int (0 : Int32))]) t → own_S p e below T234 (mkF m 306 (own_AIIIIIIIIIIIIIRRRRRRRIIUU p0 p1 p2 r0_s0 r12_s0 r25_s0 r38_s0 r52_s0 r66_s0 r80_s0 r94_s0 r109_s0 v128 b131 b156 b167 r193 r206 r220 r234 r239_s0 r260_s0) [(.int r80_s0)]) t := by
                intro t k
                show own_S p e below T234 (mkF m 306 (own_AIIIIIIIIIIIIIRRRRRRRIIUU p0 p1 p2 r0_s0 r12_s0 r25_s0 r38_s0 r52_s0 r66_s0 r80_s0 r94_s0 r109_s0 v128 b131 b156 b167 r193 r206 r220 r234 r239_s0 r260_s0) [(.int r80_s0)]) _
                refine XS.ifYes X234.here hx rfl (pc0 := 306) (pc' := 313) rfl (hb hby at_306) rfl ((if0 _ _).trans (feq hc306).2) (by decide) (by decide) ?_
                show own_S p e below T234 (mkF m 313 (own_AIIIIIIIIIIIIIRRRRRRRIIUU p0 p1 p2 r0_s0 r12_s0 r25_s0 r38_s0 r52_s0 r66_s0 r80_s0 r94_s0 r109_s0 v128 b131 b156 b167 r193 r206 r220 r234 r239_s0 r260_s0) []) _
                refine XS.iconst X234.here hx rfl (hb hby at_313) ?_
                exact k
              rw [hr284_s0]
              exact fun t k => (sg286 t (sg291 t (sg296 t (sg301 t (sg306 t (sg314 t k))))))
    · rw [if_neg hc286] at hr284_s0
      have sg314 : ∀ t, own_S p e below T234 (mkF m 314 (own_AIIIIIIIIIIIIIRRRRRRRIIUU p0 p1 p2 r0_s0 r12_s0 r25_s0 r38_s0 r52_s0 r66_s0 r80_s0 r94_s0 r109_s0 v128 b131 b156 b167 r193 r206 r220 r234 r239_s0 r260_s0) [(.int (1 : Int32))]) t → own_S p e below T234 (mkF m 286 (own_AIIIIIIIIIIIIIRRRRRRRIIUU p0 p1 p2 r0_s0 r12_s0 r25_s0 r38_s0 r52_s0 r66_s0 r80_s0 r94_s0 r109_s0 v128 b131 b156 b167 r193 r206 r220 r234 r239_s0 r260_s0) [(.int r12_s0)]) t := by
        intro t k
        show own_S p e below T234 (mkF m 286 (own_AIIIIIIIIIIIIIRRRRRRRIIUU p0 p1 p2 r0_s0 r12_s0 r25_s0 r38_s0 r52_s0 r66_s0 r80_s0 r94_s0 r109_s0 v128 b131 b156 b167 r193 r206 r220 r234 r239_s0 r260_s0) [(.int r12_s0)]) _
        refine XS.ifYes X234.here hx rfl (pc0 := 286) (pc' := 309) rfl (hb hby at_286) rfl ((if0 _ _).trans (feq hc286).2) (by decide) (by decide) ?_
        show own_S p e below T234 (mkF m 309 (own_AIIIIIIIIIIIIIRRRRRRRIIUU p0 p1 p2 r0_s0 r12_s0 r25_s0 r38_s0 r52_s0 r66_s0 r80_s0 r94_s0 r109_s0 v128 b131 b156 b167 r193 r206 r220 r234 r239_s0 r260_s0) []) _
        refine XS.iconst X234.here hx rfl (hb hby at_309) ?_
        show own_S p e below T234 (mkF m 310 (own_AIIIIIIIIIIIIIRRRRRRRIIUU p0 p1 p2 r0_s0 r12_s0 r25_s0 r38_s0 r52_s0 r66_s0 r80_s0 r94_s0 r109_s0 v128 b131 b156 b167 r193 r206 r220 r234 r239_s0 r260_s0) [(.int (1 : Int32))]) _
        refine XS.goto X234.here hx rfl (pc0 := 310) (pc' := 314) rfl (hb hby at_310) (by decide) (by decide) ?_
        exact k
      rw [hr284_s0]
      exact fun t k => (sg286 t (sg314 t k))
  refine own_by str284 ?_
  have sg316 : ∀ t, own_S p e below T234 (mkF m 316 (own_AIIIIIIIIIIIIIRRRRRRRIIIU p0 p1 p2 r0_s0 r12_s0 r25_s0 r38_s0 r52_s0 r66_s0 r80_s0 r94_s0 r109_s0 v128 b131 b156 b167 r193 r206 r220 r234 r239_s0 r260_s0 r284_s0) []) t → own_S p e below T234 (mkF m 314 (own_AIIIIIIIIIIIIIRRRRRRRIIUU p0 p1 p2 r0_s0 r12_s0 r25_s0 r38_s0 r52_s0 r66_s0 r80_s0 r94_s0 r109_s0 v128 b131 b156 b167 r193 r206 r220 r234 r239_s0 r260_s0) [(.int r284_s0)]) t := by
    intro t k
    show own_S p e below T234 (mkF m 314 (own_AIIIIIIIIIIIIIRRRRRRRIIUU p0 p1 p2 r0_s0 r12_s0 r25_s0 r38_s0 r52_s0 r66_s0 r80_s0 r94_s0 r109_s0 v128 b131 b156 b167 r193 r206 r220 r234 r239_s0 r260_s0) [(.int r284_s0)]) _
    refine XS.istore X234.here hx rfl (hb hby at_314) rfl (l' := (own_AIIIIIIIIIIIIIRRRRRRRIIIU p0 p1 p2 r0_s0 r12_s0 r25_s0 r38_s0 r52_s0 r66_s0 r80_s0 r94_s0 r109_s0 v128 b131 b156 b167 r193 r206 r220 r234 r239_s0 r260_s0 r284_s0)) rfl ?_
    exact k
  refine own_by sg316 ?_
  obtain ⟨r316_s0, hr316_s0⟩ : ∃ z : Int32, z = (if r25_s0 = (0 : Int32) then (if r66_s0 = (0 : Int32) then (if r109_s0 = (0 : Int32) then (0 : Int32) else (1 : Int32)) else (1 : Int32)) else (1 : Int32)) := ⟨_, rfl⟩
  have str316 : ∀ t, own_S p e below T234 (mkF m 336 (own_AIIIIIIIIIIIIIRRRRRRRIIIU p0 p1 p2 r0_s0 r12_s0 r25_s0 r38_s0 r52_s0 r66_s0 r80_s0 r94_s0 r109_s0 v128 b131 b156 b167 r193 r206 r220 r234 r239_s0 r260_s0 r284_s0) [(.int r316_s0)]) t → own_S p e below T234 (mkF m 316 (own_AIIIIIIIIIIIIIRRRRRRRIIIU p0 p1 p2 r0_s0 r12_s0 r25_s0 r38_s0 r52_s0 r66_s0 r80_s0 r94_s0 r109_s0 v128 b131 b156 b167 r193 r206 r220 r234 r239_s0 r260_s0 r284_s0) []) t := by
    have sg318 : ∀ t, own_S p e below T234 (mkF m 318 (own_AIIIIIIIIIIIIIRRRRRRRIIIU p0 p1 p2 r0_s0 r12_s0 r25_s0 r38_s0 r52_s0 r66_s0 r80_s0 r94_s0 r109_s0 v128 b131 b156 b167 r193 r206 r220 r234 r239_s0 r260_s0 r284_s0) [(.int r25_s0)]) t → own_S p e below T234 (mkF m 316 (own_AIIIIIIIIIIIIIRRRRRRRIIIU p0 p1 p2 r0_s0 r12_s0 r25_s0 r38_s0 r52_s0 r66_s0 r80_s0 r94_s0 r109_s0 v128 b131 b156 b167 r193 r206 r220 r234 r239_s0 r260_s0 r284_s0) []) t := by
      intro t k
      show own_S p e below T234 (mkF m 316 (own_AIIIIIIIIIIIIIRRRRRRRIIIU p0 p1 p2 r0_s0 r12_s0 r25_s0 r38_s0 r52_s0 r66_s0 r80_s0 r94_s0 r109_s0 v128 b131 b156 b167 r193 r206 r220 r234 r239_s0 r260_s0 r284_s0) []) _
      refine XS.iload X234.here hx rfl (hb hby at_316) rfl ?_
      exact k
    by_cases hc318 : r25_s0 = (0 : Int32)
    · rw [if_pos hc318] at hr316_s0
      have sg323 : ∀ t, own_S p e below T234 (mkF m 323 (own_AIIIIIIIIIIIIIRRRRRRRIIIU p0 p1 p2 r0_s0 r12_s0 r25_s0 r38_s0 r52_s0 r66_s0 r80_s0 r94_s0 r109_s0 v128 b131 b156 b167 r193 r206 r220 r234 r239_s0 r260_s0 r284_s0) [(.int r66_s0)]) t → own_S p e below T234 (mkF m 318 (own_AIIIIIIIIIIIIIRRRRRRRIIIU p0 p1 p2 r0_s0 r12_s0 r25_s0 r38_s0 r52_s0 r66_s0 r80_s0 r94_s0 r109_s0 v128 b131 b156 b167 r193 r206 r220 r234 r239_s0 r260_s0 r284_s0) [(.int r25_s0)]) t := by
        intro t k
        show own_S p e below T234 (mkF m 318 (own_AIIIIIIIIIIIIIRRRRRRRIIIU p0 p1 p2 r0_s0 r12_s0 r25_s0 r38_s0 r52_s0 r66_s0 r80_s0 r94_s0 r109_s0 v128 b131 b156 b167 r193 r206 r220 r234 r239_s0 r260_s0 r284_s0) [(.int r25_s0)]) _
        refine XS.ifNo X234.here hx rfl (hb hby at_318) rfl ((if0 _ _).trans (teq hc318).2) ?_
        show own_S p e below T234 (mkF m 321 (own_AIIIIIIIIIIIIIRRRRRRRIIIU p0 p1 p2 r0_s0 r12_s0 r25_s0 r38_s0 r52_s0 r66_s0 r80_s0 r94_s0 r109_s0 v128 b131 b156 b167 r193 r206 r220 r234 r239_s0 r260_s0 r284_s0) []) _
        refine XS.iload X234.here hx rfl (hb hby at_321) rfl ?_
        exact k
      by_cases hc323 : r66_s0 = (0 : Int32)
      · rw [if_pos hc323] at hr316_s0
        have sg328 : ∀ t, own_S p e below T234 (mkF m 328 (own_AIIIIIIIIIIIIIRRRRRRRIIIU p0 p1 p2 r0_s0 r12_s0 r25_s0 r38_s0 r52_s0 r66_s0 r80_s0 r94_s0 r109_s0 v128 b131 b156 b167 r193 r206 r220 r234 r239_s0 r260_s0 r284_s0) [(.int r109_s0)]) t → own_S p e below T234 (mkF m 323 (own_AIIIIIIIIIIIIIRRRRRRRIIIU p0 p1 p2 r0_s0 r12_s0 r25_s0 r38_s0 r52_s0 r66_s0 r80_s0 r94_s0 r109_s0 v128 b131 b156 b167 r193 r206 r220 r234 r239_s0 r260_s0 r284_s0) [(.int r66_s0)]) t := by
          intro t k
          show own_S p e below T234 (mkF m 323 (own_AIIIIIIIIIIIIIRRRRRRRIIIU p0 p1 p2 r0_s0 r12_s0 r25_s0 r38_s0 r52_s0 r66_s0 r80_s0 r94_s0 r109_s0 v128 b131 b156 b167 r193 r206 r220 r234 r239_s0 r260_s0 r284_s0) [(.int r66_s0)]) _
          refine XS.ifNo X234.here hx rfl (hb hby at_323) rfl ((if0 _ _).trans (teq hc323).2) ?_
          show own_S p e below T234 (mkF m 326 (own_AIIIIIIIIIIIIIRRRRRRRIIIU p0 p1 p2 r0_s0 r12_s0 r25_s0 r38_s0 r52_s0 r66_s0 r80_s0 r94_s0 r109_s0 v128 b131 b156 b167 r193 r206 r220 r234 r239_s0 r260_s0 r284_s0) []) _
          refine XS.iload X234.here hx rfl (hb hby at_326) rfl ?_
          exact k
        by_cases hc328 : r109_s0 = (0 : Int32)
        · rw [if_pos hc328] at hr316_s0
          have sg336 : ∀ t, own_S p e below T234 (mkF m 336 (own_AIIIIIIIIIIIIIRRRRRRRIIIU p0 p1 p2 r0_s0 r12_s0 r25_s0 r38_s0 r52_s0 r66_s0 r80_s0 r94_s0 r109_s0 v128 b131 b156 b167 r193 r206 r220 r234 r239_s0 r260_s0 r284_s0) [(.int (0 : Int32))]) t → own_S p e below T234 (mkF m 328 (own_AIIIIIIIIIIIIIRRRRRRRIIIU p0 p1 p2 r0_s0 r12_s0 r25_s0 r38_s0 r52_s0 r66_s0 r80_s0 r94_s0 r109_s0 v128 b131 b156 b167 r193 r206 r220 r234 r239_s0 r260_s0 r284_s0) [(.int r109_s0)]) t := by
            intro t k
            show own_S p e below T234 (mkF m 328 (own_AIIIIIIIIIIIIIRRRRRRRIIIU p0 p1 p2 r0_s0 r12_s0 r25_s0 r38_s0 r52_s0 r66_s0 r80_s0 r94_s0 r109_s0 v128 b131 b156 b167 r193 r206 r220 r234 r239_s0 r260_s0 r284_s0) [(.int r109_s0)]) _
            refine XS.ifYes X234.here hx rfl (pc0 := 328) (pc' := 335) rfl (hb hby at_328) rfl ((if0 _ _).trans (teq hc328).1) (by decide) (by decide) ?_
            show own_S p e below T234 (mkF m 335 (own_AIIIIIIIIIIIIIRRRRRRRIIIU p0 p1 p2 r0_s0 r12_s0 r25_s0 r38_s0 r52_s0 r66_s0 r80_s0 r94_s0 r109_s0 v128 b131 b156 b167 r193 r206 r220 r234 r239_s0 r260_s0 r284_s0) []) _
            refine XS.iconst X234.here hx rfl (hb hby at_335) ?_
            exact k
          rw [hr316_s0]
          exact fun t k => (sg318 t (sg323 t (sg328 t (sg336 t k))))
        · rw [if_neg hc328] at hr316_s0
          have sg336 : ∀ t, own_S p e below T234 (mkF m 336 (own_AIIIIIIIIIIIIIRRRRRRRIIIU p0 p1 p2 r0_s0 r12_s0 r25_s0 r38_s0 r52_s0 r66_s0 r80_s0 r94_s0 r109_s0 v128 b131 b156 b167 r193 r206 r220 r234 r239_s0 r260_s0 r284_s0) [(.int (1 : Int32))]) t → own_S p e below T234 (mkF m 328 (own_AIIIIIIIIIIIIIRRRRRRRIIIU p0 p1 p2 r0_s0 r12_s0 r25_s0 r38_s0 r52_s0 r66_s0 r80_s0 r94_s0 r109_s0 v128 b131 b156 b167 r193 r206 r220 r234 r239_s0 r260_s0 r284_s0) [(.int r109_s0)]) t := by
            intro t k
            show own_S p e below T234 (mkF m 328 (own_AIIIIIIIIIIIIIRRRRRRRIIIU p0 p1 p2 r0_s0 r12_s0 r25_s0 r38_s0 r52_s0 r66_s0 r80_s0 r94_s0 r109_s0 v128 b131 b156 b167 r193 r206 r220 r234 r239_s0 r260_s0 r284_s0) [(.int r109_s0)]) _
            refine XS.ifNo X234.here hx rfl (hb hby at_328) rfl ((if0 _ _).trans (feq hc328).1) ?_
            show own_S p e below T234 (mkF m 331 (own_AIIIIIIIIIIIIIRRRRRRRIIIU p0 p1 p2 r0_s0 r12_s0 r25_s0 r38_s0 r52_s0 r66_s0 r80_s0 r94_s0 r109_s0 v128 b131 b156 b167 r193 r206 r220 r234 r239_s0 r260_s0 r284_s0) []) _
            refine XS.iconst X234.here hx rfl (hb hby at_331) ?_
            show own_S p e below T234 (mkF m 332 (own_AIIIIIIIIIIIIIRRRRRRRIIIU p0 p1 p2 r0_s0 r12_s0 r25_s0 r38_s0 r52_s0 r66_s0 r80_s0 r94_s0 r109_s0 v128 b131 b156 b167 r193 r206 r220 r234 r239_s0 r260_s0 r284_s0) [(.int (1 : Int32))]) _
            refine XS.goto X234.here hx rfl (pc0 := 332) (pc' := 336) rfl (hb hby at_332) (by decide) (by decide) ?_
            exact k
          rw [hr316_s0]
          exact fun t k => (sg318 t (sg323 t (sg328 t (sg336 t k))))
      · rw [if_neg hc323] at hr316_s0
        have sg336 : ∀ t, own_S p e below T234 (mkF m 336 (own_AIIIIIIIIIIIIIRRRRRRRIIIU p0 p1 p2 r0_s0 r12_s0 r25_s0 r38_s0 r52_s0 r66_s0 r80_s0 r94_s0 r109_s0 v128 b131 b156 b167 r193 r206 r220 r234 r239_s0 r260_s0 r284_s0) [(.int (1 : Int32))]) t → own_S p e below T234 (mkF m 323 (own_AIIIIIIIIIIIIIRRRRRRRIIIU p0 p1 p2 r0_s0 r12_s0 r25_s0 r38_s0 r52_s0 r66_s0 r80_s0 r94_s0 r109_s0 v128 b131 b156 b167 r193 r206 r220 r234 r239_s0 r260_s0 r284_s0) [(.int r66_s0)]) t := by
          intro t k
          show own_S p e below T234 (mkF m 323 (own_AIIIIIIIIIIIIIRRRRRRRIIIU p0 p1 p2 r0_s0 r12_s0 r25_s0 r38_s0 r52_s0 r66_s0 r80_s0 r94_s0 r109_s0 v128 b131 b156 b167 r193 r206 r220 r234 r239_s0 r260_s0 r284_s0) [(.int r66_s0)]) _
          refine XS.ifYes X234.here hx rfl (pc0 := 323) (pc' := 331) rfl (hb hby at_323) rfl ((if0 _ _).trans (feq hc323).2) (by decide) (by decide) ?_
          show own_S p e below T234 (mkF m 331 (own_AIIIIIIIIIIIIIRRRRRRRIIIU p0 p1 p2 r0_s0 r12_s0 r25_s0 r38_s0 r52_s0 r66_s0 r80_s0 r94_s0 r109_s0 v128 b131 b156 b167 r193 r206 r220 r234 r239_s0 r260_s0 r284_s0) []) _
          refine XS.iconst X234.here hx rfl (hb hby at_331) ?_
          show own_S p e below T234 (mkF m 332 (own_AIIIIIIIIIIIIIRRRRRRRIIIU p0 p1 p2 r0_s0 r12_s0 r25_s0 r38_s0 r52_s0 r66_s0 r80_s0 r94_s0 r109_s0 v128 b131 b156 b167 r193 r206 r220 r234 r239_s0 r260_s0 r284_s0) [(.int (1 : Int32))]) _
          refine XS.goto X234.here hx rfl (pc0 := 332) (pc' := 336) rfl (hb hby at_332) (by decide) (by decide) ?_
          exact k
        rw [hr316_s0]
        exact fun t k => (sg318 t (sg323 t (sg336 t k)))
    · rw [if_neg hc318] at hr316_s0
      have sg336 : ∀ t, own_S p e below T234 (mkF m 336 (own_AIIIIIIIIIIIIIRRRRRRRIIIU p0 p1 p2 r0_s0 r12_s0 r25_s0 r38_s0 r52_s0 r66_s0 r80_s0 r94_s0 r109_s0 v128 b131 b156 b167 r193 r206 r220 r234 r239_s0 r260_s0 r284_s0) [(.int (1 : Int32))]) t → own_S p e below T234 (mkF m 318 (own_AIIIIIIIIIIIIIRRRRRRRIIIU p0 p1 p2 r0_s0 r12_s0 r25_s0 r38_s0 r52_s0 r66_s0 r80_s0 r94_s0 r109_s0 v128 b131 b156 b167 r193 r206 r220 r234 r239_s0 r260_s0 r284_s0) [(.int r25_s0)]) t := by
        intro t k
        show own_S p e below T234 (mkF m 318 (own_AIIIIIIIIIIIIIRRRRRRRIIIU p0 p1 p2 r0_s0 r12_s0 r25_s0 r38_s0 r52_s0 r66_s0 r80_s0 r94_s0 r109_s0 v128 b131 b156 b167 r193 r206 r220 r234 r239_s0 r260_s0 r284_s0) [(.int r25_s0)]) _
        refine XS.ifYes X234.here hx rfl (pc0 := 318) (pc' := 331) rfl (hb hby at_318) rfl ((if0 _ _).trans (feq hc318).2) (by decide) (by decide) ?_
        show own_S p e below T234 (mkF m 331 (own_AIIIIIIIIIIIIIRRRRRRRIIIU p0 p1 p2 r0_s0 r12_s0 r25_s0 r38_s0 r52_s0 r66_s0 r80_s0 r94_s0 r109_s0 v128 b131 b156 b167 r193 r206 r220 r234 r239_s0 r260_s0 r284_s0) []) _
        refine XS.iconst X234.here hx rfl (hb hby at_331) ?_
        show own_S p e below T234 (mkF m 332 (own_AIIIIIIIIIIIIIRRRRRRRIIIU p0 p1 p2 r0_s0 r12_s0 r25_s0 r38_s0 r52_s0 r66_s0 r80_s0 r94_s0 r109_s0 v128 b131 b156 b167 r193 r206 r220 r234 r239_s0 r260_s0 r284_s0) [(.int (1 : Int32))]) _
        refine XS.goto X234.here hx rfl (pc0 := 332) (pc' := 336) rfl (hb hby at_332) (by decide) (by decide) ?_
        exact k
      rw [hr316_s0]
      exact fun t k => (sg318 t (sg336 t k))
  refine own_by str316 ?_
  have sg350 : ∀ t, own_S p e below T234 (mkF m 350 (own_AIIIIIIIIIIIIIRRRRRRRIIII p0 p1 p2 r0_s0 r12_s0 r25_s0 r38_s0 r52_s0 r66_s0 r80_s0 r94_s0 r109_s0 v128 b131 b156 b167 r193 r206 r220 r234 r239_s0 r260_s0 r284_s0 r316_s0) [(.int r316_s0), (.int r284_s0), (.int r260_s0), (.int r239_s0), (.ref b156), (.ref r220)]) t → own_S p e below T234 (mkF m 336 (own_AIIIIIIIIIIIIIRRRRRRRIIIU p0 p1 p2 r0_s0 r12_s0 r25_s0 r38_s0 r52_s0 r66_s0 r80_s0 r94_s0 r109_s0 v128 b131 b156 b167 r193 r206 r220 r234 r239_s0 r260_s0 r284_s0) [(.int r316_s0)]) t := by
    intro t k
    show own_S p e below T234 (mkF m 336 (own_AIIIIIIIIIIIIIRRRRRRRIIIU p0 p1 p2 r0_s0 r12_s0 r25_s0 r38_s0 r52_s0 r66_s0 r80_s0 r94_s0 r109_s0 v128 b131 b156 b167 r193 r206 r220 r234 r239_s0 r260_s0 r284_s0) [(.int r316_s0)]) _
    refine XS.istore X234.here hx rfl (hb hby at_336) rfl (l' := (own_AIIIIIIIIIIIIIRRRRRRRIIII p0 p1 p2 r0_s0 r12_s0 r25_s0 r38_s0 r52_s0 r66_s0 r80_s0 r94_s0 r109_s0 v128 b131 b156 b167 r193 r206 r220 r234 r239_s0 r260_s0 r284_s0 r316_s0)) rfl ?_
    show own_S p e below T234 (mkF m 338 (own_AIIIIIIIIIIIIIRRRRRRRIIII p0 p1 p2 r0_s0 r12_s0 r25_s0 r38_s0 r52_s0 r66_s0 r80_s0 r94_s0 r109_s0 v128 b131 b156 b167 r193 r206 r220 r234 r239_s0 r260_s0 r284_s0 r316_s0) []) _
    refine XS.aload X234.here hx rfl (hb hby at_338) rfl rfl ?_
    show own_S p e below T234 (mkF m 340 (own_AIIIIIIIIIIIIIRRRRRRRIIII p0 p1 p2 r0_s0 r12_s0 r25_s0 r38_s0 r52_s0 r66_s0 r80_s0 r94_s0 r109_s0 v128 b131 b156 b167 r193 r206 r220 r234 r239_s0 r260_s0 r284_s0 r316_s0) [(.ref r220)]) _
    refine XS.aload X234.here hx rfl (hb hby at_340) rfl rfl ?_
    show own_S p e below T234 (mkF m 342 (own_AIIIIIIIIIIIIIRRRRRRRIIII p0 p1 p2 r0_s0 r12_s0 r25_s0 r38_s0 r52_s0 r66_s0 r80_s0 r94_s0 r109_s0 v128 b131 b156 b167 r193 r206 r220 r234 r239_s0 r260_s0 r284_s0 r316_s0) [(.ref b156), (.ref r220)]) _
    refine XS.iload X234.here hx rfl (hb hby at_342) rfl ?_
    show own_S p e below T234 (mkF m 344 (own_AIIIIIIIIIIIIIRRRRRRRIIII p0 p1 p2 r0_s0 r12_s0 r25_s0 r38_s0 r52_s0 r66_s0 r80_s0 r94_s0 r109_s0 v128 b131 b156 b167 r193 r206 r220 r234 r239_s0 r260_s0 r284_s0 r316_s0) [(.int r239_s0), (.ref b156), (.ref r220)]) _
    refine XS.iload X234.here hx rfl (hb hby at_344) rfl ?_
    show own_S p e below T234 (mkF m 346 (own_AIIIIIIIIIIIIIRRRRRRRIIII p0 p1 p2 r0_s0 r12_s0 r25_s0 r38_s0 r52_s0 r66_s0 r80_s0 r94_s0 r109_s0 v128 b131 b156 b167 r193 r206 r220 r234 r239_s0 r260_s0 r284_s0 r316_s0) [(.int r260_s0), (.int r239_s0), (.ref b156), (.ref r220)]) _
    refine XS.iload X234.here hx rfl (hb hby at_346) rfl ?_
    show own_S p e below T234 (mkF m 348 (own_AIIIIIIIIIIIIIRRRRRRRIIII p0 p1 p2 r0_s0 r12_s0 r25_s0 r38_s0 r52_s0 r66_s0 r80_s0 r94_s0 r109_s0 v128 b131 b156 b167 r193 r206 r220 r234 r239_s0 r260_s0 r284_s0 r316_s0) [(.int r284_s0), (.int r260_s0), (.int r239_s0), (.ref b156), (.ref r220)]) _
    refine XS.iload X234.here hx rfl (hb hby at_348) rfl ?_
    exact k
  refine own_by sg350 ?_
  have eqs_350 : s220 = r239_s0 := by
    rw [hs220, hs215, hr239_s0]; exact own_sl _ _ _
  have eqf_350 : f220 = r260_s0 := by
    rw [hf220, hf215, hf193, hf206, hr260_s0]; exact own_fl _ _ _
  have eqp_350 : p220 = r284_s0 := by
    rw [hp220, hp215, hp193, hp206, hr284_s0]; exact own_pl _ _ _ _ _
  have eqg_350 : g220 = r316_s0 := by
    rw [hg220, hg215, hr316_s0]; exact own_sl _ _ _
  have hb_r239_s0_350 : r239_s0 = 0 ∨ r239_s0 = 1 := by rw [← eqs_350]; exact hb_s220
  have hb_r284_s0_350 : r284_s0 = 0 ∨ r284_s0 = 1 := by rw [← eqp_350]; exact hb_p220
  have hb_r316_s0_350 : r316_s0 = 0 ∨ r316_s0 = 1 := by rw [← eqg_350]; exact hb_g220
  obtain ⟨_, _, ⟨T350, L350, k350, n350⟩, -, X350, ⟨Lc350, hQ350, l350, y350, z350⟩, st350⟩ := Jvm.LawKit.callS X234 hx (y := (⟨"com/example/last_mile/lastmile/store/EndpointTallyThenPinLaw", "matches", "(Lcom/example/last_mile/lastmile/store/EndpointTally;Ljava/lang/String;ZIZZ)Z"⟩ : MethodName)) hown (mvT hZ (hw _ (List.mem_of_getElem? (i := 63) rfl))) (mvT hZ (hw _ (List.mem_of_getElem? (i := 64) rfl))) (mvT hZ (hw _ (List.mem_of_getElem? (i := 65) rfl))) (mvT hZ (hw _ (List.mem_of_getElem? (i := 66) rfl))) (by decide) (backOf (W := 0) (rm11 l Z a0 hw [] r220 b156 r239_s0 r260_s0 r284_s0 r316_s0 T234.heap n0 Z234 ((Eq220.keep Kq231).keep Kq234) (((fc_15.keep Kq220).keep Kq231).keep Kq234) fc_61 (by rw [← eqs_350]; exact fc_62) (by rw [← eqf_350]; exact fc_63) (by rw [← eqp_350]; exact fc_64) (by rw [← eqg_350]; exact fc_65) hb_r239_s0_350 hb_r284_s0_350 hb_r316_s0_350) hZ (hw _ (List.mem_of_getElem? (i := 66) rfl)) (hw _ (List.mem_of_getElem? (i := 65) rfl)) (by decide) (by decide)) (g := (mkF m 350 (own_AIIIIIIIIIIIIIRRRRRRRIIII p0 p1 p2 r0_s0 r12_s0 r25_s0 r38_s0 r52_s0 r66_s0 r80_s0 r94_s0 r109_s0 v128 b131 b156 b167 r193 r206 r220 r234 r239_s0 r260_s0 r284_s0 r316_s0) [(.int r316_s0), (.int r284_s0), (.int r260_s0), (.int r239_s0), (.ref b156), (.ref r220)])) rfl (by rw [hml]; rfl) (argsL := [(.ref r220), (.ref b156), (.int r239_s0), (.int r260_s0), (.int r284_s0), (.int r316_s0)]) (rest := []) (lenOf pd_0_4 rfl) rfl (by show 2 * 0 + _ ≤ _; exact Nat.le_of_eq rfl) (hb hby at_350) (fun _ _ => ⟨rfl, rfl, (by decide : 10 + 0 ≤ _), (by decide : 43 + 0 ≤ _)⟩)
  dsimp only [Pt.U, Pt.locs, Pt.cells, Pt.slots] at X350 l350 y350 z350 st350 hQ350
  subst l350 y350 z350
  obtain ⟨rfl, N350q, hq350⟩ := hQ350
  have N350 := Fr.app N234 N350q
  refine own_by st350 ?_
  have sg368 : ∀ t, own_S p e below T350 (mkF m 368 (own_AIIIIIIIIIIIIIRRRRRRRIIII p0 p1 p2 r0_s0 r12_s0 r25_s0 r38_s0 r52_s0 r66_s0 r80_s0 r94_s0 r109_s0 v128 b131 b156 b167 r193 r206 r220 r234 r239_s0 r260_s0 r284_s0 r316_s0) [(.int r316_s0), (.int r284_s0), (.int r260_s0), (.int r239_s0), (.ref b156), (.ref r234)]) t → own_S p e below T350 (mkF m 353 (own_AIIIIIIIIIIIIIRRRRRRRIIII p0 p1 p2 r0_s0 r12_s0 r25_s0 r38_s0 r52_s0 r66_s0 r80_s0 r94_s0 r109_s0 v128 b131 b156 b167 r193 r206 r220 r234 r239_s0 r260_s0 r284_s0 r316_s0) [(.int (1 : Int32))]) t := by
    intro t k
    show own_S p e below T350 (mkF m 353 (own_AIIIIIIIIIIIIIRRRRRRRIIII p0 p1 p2 r0_s0 r12_s0 r25_s0 r38_s0 r52_s0 r66_s0 r80_s0 r94_s0 r109_s0 v128 b131 b156 b167 r193 r206 r220 r234 r239_s0 r260_s0 r284_s0 r316_s0) [(.int (1 : Int32))]) _
    refine XS.ifNo X350.here hx rfl (hb hby at_353) rfl ((if0 _ _).trans (feq (by decide : ¬ ((1 : Int32) = (0 : Int32)))).1) ?_
    show own_S p e below T350 (mkF m 356 (own_AIIIIIIIIIIIIIRRRRRRRIIII p0 p1 p2 r0_s0 r12_s0 r25_s0 r38_s0 r52_s0 r66_s0 r80_s0 r94_s0 r109_s0 v128 b131 b156 b167 r193 r206 r220 r234 r239_s0 r260_s0 r284_s0 r316_s0) []) _
    refine XS.aload X350.here hx rfl (hb hby at_356) rfl rfl ?_
    show own_S p e below T350 (mkF m 358 (own_AIIIIIIIIIIIIIRRRRRRRIIII p0 p1 p2 r0_s0 r12_s0 r25_s0 r38_s0 r52_s0 r66_s0 r80_s0 r94_s0 r109_s0 v128 b131 b156 b167 r193 r206 r220 r234 r239_s0 r260_s0 r284_s0 r316_s0) [(.ref r234)]) _
    refine XS.aload X350.here hx rfl (hb hby at_358) rfl rfl ?_
    show own_S p e below T350 (mkF m 360 (own_AIIIIIIIIIIIIIRRRRRRRIIII p0 p1 p2 r0_s0 r12_s0 r25_s0 r38_s0 r52_s0 r66_s0 r80_s0 r94_s0 r109_s0 v128 b131 b156 b167 r193 r206 r220 r234 r239_s0 r260_s0 r284_s0 r316_s0) [(.ref b156), (.ref r234)]) _
    refine XS.iload X350.here hx rfl (hb hby at_360) rfl ?_
    show own_S p e below T350 (mkF m 362 (own_AIIIIIIIIIIIIIRRRRRRRIIII p0 p1 p2 r0_s0 r12_s0 r25_s0 r38_s0 r52_s0 r66_s0 r80_s0 r94_s0 r109_s0 v128 b131 b156 b167 r193 r206 r220 r234 r239_s0 r260_s0 r284_s0 r316_s0) [(.int r239_s0), (.ref b156), (.ref r234)]) _
    refine XS.iload X350.here hx rfl (hb hby at_362) rfl ?_
    show own_S p e below T350 (mkF m 364 (own_AIIIIIIIIIIIIIRRRRRRRIIII p0 p1 p2 r0_s0 r12_s0 r25_s0 r38_s0 r52_s0 r66_s0 r80_s0 r94_s0 r109_s0 v128 b131 b156 b167 r193 r206 r220 r234 r239_s0 r260_s0 r284_s0 r316_s0) [(.int r260_s0), (.int r239_s0), (.ref b156), (.ref r234)]) _
    refine XS.iload X350.here hx rfl (hb hby at_364) rfl ?_
    show own_S p e below T350 (mkF m 366 (own_AIIIIIIIIIIIIIRRRRRRRIIII p0 p1 p2 r0_s0 r12_s0 r25_s0 r38_s0 r52_s0 r66_s0 r80_s0 r94_s0 r109_s0 v128 b131 b156 b167 r193 r206 r220 r234 r239_s0 r260_s0 r284_s0 r316_s0) [(.int r284_s0), (.int r260_s0), (.int r239_s0), (.ref b156), (.ref r234)]) _
    refine XS.iload X350.here hx rfl (hb hby at_366) rfl ?_
    exact k
  refine own_by sg368 ?_
  have eqs_368 : s234 = r239_s0 := by
    rw [hs234, hs231, hr239_s0]; exact own_sr _ _ _
  have eqf_368 : f234 = r260_s0 := by
    rw [hf234, hf231, hf193, hf206, hs231, hr260_s0]; exact own_fr _ _ _
  have eqp_368 : p234 = r284_s0 := by
    rw [hp234, hp231, hp193, hp206, hr284_s0]; exact own_pr _ _ _ _ _
  have eqg_368 : g234 = r316_s0 := by
    rw [hg234, hg231, hr316_s0]; exact own_sr _ _ _
  obtain ⟨_, _, ⟨T368, L368, k368, n368⟩, -, X368, ⟨Lc368, hQ368, l368, y368, z368⟩, st368⟩ := Jvm.LawKit.callS X350 hx (y := (⟨"com/example/last_mile/lastmile/store/EndpointTallyThenPinLaw", "matches", "(Lcom/example/last_mile/lastmile/store/EndpointTally;Ljava/lang/String;ZIZZ)Z"⟩ : MethodName)) hown (mvT hZ (hw _ (List.mem_of_getElem? (i := 63) rfl))) (mvT hZ (hw _ (List.mem_of_getElem? (i := 64) rfl))) (mvT hZ (hw _ (List.mem_of_getElem? (i := 65) rfl))) (mvT hZ (hw _ (List.mem_of_getElem? (i := 66) rfl))) (by decide) (backOf (W := 0) (rm11 l Z a0 hw [] r234 b156 r239_s0 r260_s0 r284_s0 r316_s0 T234.heap n0 Z234 Eq234 (((fc_15.keep Kq220).keep Kq231).keep Kq234) FendpointId_234 (by rw [← eqs_368]; exact Fsucceeded_234) (by rw [← eqf_368]; exact Ffailures_234) (by rw [← eqp_368]; exact FprobeFailed_234) (by rw [← eqg_368]; exact Fgone_234) hb_r239_s0_350 hb_r284_s0_350 hb_r316_s0_350) hZ (hw _ (List.mem_of_getElem? (i := 66) rfl)) (hw _ (List.mem_of_getElem? (i := 65) rfl)) (by decide) (by decide)) (g := (mkF m 368 (own_AIIIIIIIIIIIIIRRRRRRRIIII p0 p1 p2 r0_s0 r12_s0 r25_s0 r38_s0 r52_s0 r66_s0 r80_s0 r94_s0 r109_s0 v128 b131 b156 b167 r193 r206 r220 r234 r239_s0 r260_s0 r284_s0 r316_s0) [(.int r316_s0), (.int r284_s0), (.int r260_s0), (.int r239_s0), (.ref b156), (.ref r234)])) rfl (by rw [hml]; rfl) (argsL := [(.ref r234), (.ref b156), (.int r239_s0), (.int r260_s0), (.int r284_s0), (.int r316_s0)]) (rest := []) (lenOf pd_0_4 rfl) rfl (by show 2 * 0 + _ ≤ _; exact Nat.le_of_eq rfl) (hb hby at_368) (fun _ _ => ⟨rfl, hq350, (by decide : 10 + 0 ≤ _), (by decide : 43 + 0 ≤ _)⟩)
  dsimp only [Pt.U, Pt.locs, Pt.cells, Pt.slots] at X368 l368 y368 z368 st368 hQ368
  subst l368 y368 z368
  obtain ⟨rfl, N368q, hq368⟩ := hQ368
  have N368 := Fr.app N350 N368q
  refine own_by st368 ?_
  have sg379 : ∀ t, own_S p e below T368 (mkF m 379 (own_AIIIIIIIIIIIIIRRRRRRRIIII p0 p1 p2 r0_s0 r12_s0 r25_s0 r38_s0 r52_s0 r66_s0 r80_s0 r94_s0 r109_s0 v128 b131 b156 b167 r193 r206 r220 r234 r239_s0 r260_s0 r284_s0 r316_s0) [(.int (1 : Int32))]) t → own_S p e below T368 (mkF m 371 (own_AIIIIIIIIIIIIIRRRRRRRIIII p0 p1 p2 r0_s0 r12_s0 r25_s0 r38_s0 r52_s0 r66_s0 r80_s0 r94_s0 r109_s0 v128 b131 b156 b167 r193 r206 r220 r234 r239_s0 r260_s0 r284_s0 r316_s0) [(.int (1 : Int32))]) t := by
    intro t k
    show own_S p e below T368 (mkF m 371 (own_AIIIIIIIIIIIIIRRRRRRRIIII p0 p1 p2 r0_s0 r12_s0 r25_s0 r38_s0 r52_s0 r66_s0 r80_s0 r94_s0 r109_s0 v128 b131 b156 b167 r193 r206 r220 r234 r239_s0 r260_s0 r284_s0 r316_s0) [(.int (1 : Int32))]) _
    refine XS.ifNo X368.here hx rfl (hb hby at_371) rfl ((if0 _ _).trans (feq (by decide : ¬ ((1 : Int32) = (0 : Int32)))).1) ?_
    show own_S p e below T368 (mkF m 374 (own_AIIIIIIIIIIIIIRRRRRRRIIII p0 p1 p2 r0_s0 r12_s0 r25_s0 r38_s0 r52_s0 r66_s0 r80_s0 r94_s0 r109_s0 v128 b131 b156 b167 r193 r206 r220 r234 r239_s0 r260_s0 r284_s0 r316_s0) []) _
    refine XS.iconst X368.here hx rfl (hb hby at_374) ?_
    show own_S p e below T368 (mkF m 375 (own_AIIIIIIIIIIIIIRRRRRRRIIII p0 p1 p2 r0_s0 r12_s0 r25_s0 r38_s0 r52_s0 r66_s0 r80_s0 r94_s0 r109_s0 v128 b131 b156 b167 r193 r206 r220 r234 r239_s0 r260_s0 r284_s0 r316_s0) [(.int (1 : Int32))]) _
    refine XS.goto X368.here hx rfl (pc0 := 375) (pc' := 379) rfl (hb hby at_375) (by decide) (by decide) ?_
    exact k
  refine own_by sg379 ?_
  obtain ⟨fs, hr, hrun, hended, hW, hsame⟩ := X368.leave (v := some (.int (1 : Int32))) (fun h => by rw [Bd.returns] at h; cases h)
  refine ⟨_, _, ?_, hrun, hended, _, _, rfl, ?_, ⟨_, rfl⟩, hW, hsame.mono (by decide) (by decide)⟩
  · exact retN X368 hx (t := .boolean) Bd.returns (by simp) (hb hby at_379) hr
  · show Q0 Z p0 p1 p2 gz h0 n0 _ T368.heap _
    rw [hq368]
    exact ⟨rfl, N368⟩
set_option maxRecDepth 65536 in
set_option maxHeartbeats 40000000 in
theorem comes_1 {Post : Tables → Env → Array Value → State → Outcome → State → Prop} (hpost : ∀ tb e args s v u, (limb_1_1.after args s (.returned v) u = true ∧ limb_1_2.after args s (.returned v) u = true ∧ True) → FrameEnd s (.returned v) u (Jvm.fieldLocs frame_1_writes args s ++ Jvm.arrayLocs frame_1_arrays args s ++ Jvm.staticLocs frame_1_statics s) 32 192 → Post tb e args s (.returned v) u) :
    ArmFor flags0 classFile x code maxLocals ret World_1 tables_1 room_1 Calls_1 rest_1 Pre_1 Post := by
  intro l hfl _ _ p e ha hc hk s m args below hf hA hF happ hP
  obtain ⟨hcalls, hrest, hpre⟩ := hP
  obtain ⟨-, -, -, hnamed, -, -, -, hat⟩ := (Spec.applies_iff hf).mp happ
  obtain ⟨hg, nn⟩ := and_e (Cond.before_iff.mp (show (Jvm.Cond.and given_1 narrow_1).before args s = true from hpre))
  obtain ⟨hh0, hh1⟩ := and_e hg
  obtain ⟨hh2, hh3⟩ := and_e hh1
  obtain ⟨hh4, hh5⟩ := and_e hh3
  obtain ⟨w0, w1, w2, rfl⟩ : ∃ w0 w1 w2 : Value, args = #[w0, w1, w2] := by
    have hs : args.size = 3 := by simpa [Cond.value, given_1] using hh0
    obtain ⟨L⟩ := args
    match L, hs with
    | [w0, w1, w2], _ => exact ⟨w0, w1, w2, rfl⟩
  have hw := fun d (hd : d ∈ tables_1) => atoms_spec (ws := Jvm.Cond.code x code maxLocals ret :: tables_1) hat d (List.mem_cons_of_mem _ hd)
  have hfit : Fit s := fun {y c} hc i hi => by
    obtain ⟨ha, rfl⟩ := Array.getElem?_eq_some_iff.mp hc
    have q := List.all_eq_true.mp ((Array.all_eq_true_iff_forall_mem.mp hF) _ (Array.getElem_mem ha)) i (List.mem_range.mpr hi)
    simpa [Array.getElem?_eq_getElem hi] using q
  obtain ⟨hsets, hown0⟩ := atoms_of _ (rest_1_c_eq ▸ (show rest_1_c.before _ s = true from hrest))
  have hr0 := Cond.before_iff.mp hown0
  obtain ⟨gz, ez⟩ := is_v (Cond.before_iff.mp (hsets _ (List.mem_of_getElem? (i := 1) rfl)))
  have Sz : Sta s s.heap "java/lang/String" "COMPACT_STRINGS" "Z" (.int gz) := Sta.start ez (Or.inl (hsets _ (List.mem_of_getElem? (i := 0) rfl)))
  have cz : ¬ (gz = (0 : Int32)) := gotF (Cond.eq_ints ez (Term.int_eval (0))) (not_v (Cond.before_iff.mp (hsets _ (List.mem_of_getElem? (i := 2) rfl))))
  obtain ⟨gf, ef, rf⟩ := isR_v (Cond.before_iff.mp (hsets _ (List.mem_of_getElem? (i := 8) rfl)))
  have Sf : Sta s s.heap "jdk/internal/util/Preconditions" "SIOOBE_FORMATTER" "Ljava/util/function/BiFunction;" gf := Sta.start ef (Or.inl (hsets _ (List.mem_of_getElem? (i := 7) rfl)))
  obtain ⟨i0, ei0⟩ := is_v hh2
  obtain rfl : w0 = (.int i0) := Option.some.inj ei0
  obtain ⟨i1, ei1⟩ := is_v hh4
  obtain rfl : w1 = (.int i1) := Option.some.inj ei1
  obtain ⟨i2, ei2⟩ := is_v hh5
  obtain rfl : w2 = (.int i2) := Option.some.inj ei2
  obtain ⟨n, o, h1, h2, h3, _, L, rfl, ⟨rfl, N⟩, hq⟩ := rm0 l s _ hw tables_1 i0 i1 i2 gz s.heap s.heap.size (Nat.le_refl _) (Old.start s) Sz cz p e ha hc hk s m _ below hf ((Spec.applies_iff_loose hf).mp happ).1 ⟨rfl, State.Warmed39.refl s, rfl⟩ trivial
  refine ⟨n, _, h1, h2, h3, hpost _ _ _ _ _ _ ⟨Cond.after_iff.mpr rfl, Cond.after_iff.mpr (eq_i res_at (Term.int_eval (1)) rfl), trivial⟩ ⟨hq.1, hq.2.1, (hq.2.2.sift fun y hy => Or.inr (N y hy)).mono (by decide) (by decide)⟩⟩
theorem main_1_1 : Claimed_1_1 := comes_1 fun _ _ _ _ _ _ h hF => ⟨h.1, hF⟩
theorem main_1_2 : Claimed_1_2 := comes_1 fun _ _ _ _ _ _ h hF => ⟨h.2.1, hF⟩
end Jvm.Pilot.@@N@@
namespace Jvm.Pilot.@@N@@
open Jvm Jvm.ClassFile Sem Op Lib Jvm.Free Jvm.Stand Jvm.Pilot.@@N@@.Jvm.D
/-! MADE BY PROGRAM (witnessworld.py) out of the Statement's table words and the real class files: 21 classes; the members and pool entries that the words name. The judged class is class 1, her method 1. -/
namespace start1
open Jvm.ClassFile
def u (s : String) : CpInfo := .utf8 (stringToUtf16 s)
/-- a pool by its gaps: so many unusable entries, then the entry; so many at the end -/
def gap : Nat → List CpInfo → List CpInfo
  | 0, r => r
  | n + 1, r => .unusable :: gap n r
def poolList (es : List (Nat × CpInfo)) (last : Nat) : List CpInfo := es.foldr (fun e r => gap e.1 (e.2 :: r)) (gap last [])
def pool (es : List (Nat × CpInfo)) (last : Nat) : Array CpInfo := ⟨poolList es last⟩
def fileOf (pool : Array CpInfo) (this : Nat) (attrs : Array Attribute := #[]) (ms : Array MethodInfo := #[]) (fl : Nat := 33) (sup : Nat := 0) (ifs : Array Nat := #[]) (fds : Array FieldInfo := #[]) : ClassFile where
  minorVersion := 0
  majorVersion := 65
  constantPool := pool
  accessFlags := fl
  thisClass := this
  superClass := sup
  interfaces := ifs
  fields := fds
  methods := ms
  attributes := attrs
def plain (name : String) (sup : Option ClassId) : Class where
  name := name
  kind := .ordinary
  loader := none
  accessFlags := 33
  super := sup
  interfaces := #[]
  cf := none
  fields := #[]
  methods := #[]
  instanceTypes := #[]
  staticTypes := #[]
  resolved := #[]
  callSites := []
  init := .initialized
  statics := none
  mirror := none

def pool0 : Array CpInfo := pool [(5, u "<init>"), (0, u "()V"), (1, .class_ 10), (1, u "java/lang/Object")] 113

def k0c0 : Code := { maxStack := 0, maxLocals := 1, code := object_method_1_code, exceptionTable := #[], attributes := #[] }
def k0m0 : Method := { name := "<init>", desc := "()V", sig := { parameters := [], returnType := none }, accessFlags := 1, code := some k0c0 }
/-- java/lang/Object -/
def k0 : Class := { plain "java/lang/Object" none with
  accessFlags := 33
  interfaces := #[]
  cf := some (fileOf pool0 8 #[] #[{ accessFlags := 1, nameIndex := 5, descriptorIndex := 6, attributes := #[] }] 33 0 #[] #[])
  fields := #[]
  methods := #[k0m0]
  instanceTypes := #[]
  staticTypes := #[]
  resolved := Array.replicate 124 none
  statics := none }

def pool1 : Array CpInfo := pool [(2, .class_ 4), (1, u "java/lang/Object"), (0, u "<init>"), (0, u "()V"), (0, .integer 1073741823), (0, .class_ 9), (0, u "java/lang/String"), (0, .methodref 8 11), (0, .nameAndType 5 12), (0, u "([C)V"), (0, .class_ 14), (0, u "com/example/last_mile/lastmile/store/EndpointTally"), (0, .methodref 13 16), (0, .nameAndType 5 17), (0, u "(Ljava/lang/String;ZIZZ)V"), (0, .methodref 13 19), (0, .nameAndType 20 21), (0, u "of"), (0, u "(Ljava/lang/String;ZZZ)Lcom/example/last_mile/lastmile/store/EndpointTally;"), (0, .methodref 13 23), (0, .nameAndType 24 25), (0, u "then"), (0, u "(Lcom/example/last_mile/lastmile/store/EndpointTally;)Lcom/example/last_mile/lastmile/store/EndpointTally;"), (0, .methodref 27 28), (0, .class_ 29), (0, .nameAndType 30 31), (0, u "com/example/last_mile/lastmile/store/EndpointTallyThenPinLaw"), (0, u "matches"), (0, u "(Lcom/example/last_mile/lastmile/store/EndpointTally;Ljava/lang/String;ZIZZ)Z"), (0, .methodref 13 33), (0, .nameAndType 34 35), (0, u "endpointId"), (0, u "()Ljava/lang/String;"), (0, .methodref 8 37), (0, .nameAndType 38 39), (0, u "equals"), (0, u "(Ljava/lang/Object;)Z"), (0, .methodref 13 41), (0, .nameAndType 42 43), (0, u "succeeded"), (0, u "()Z"), (0, .methodref 13 45), (0, .nameAndType 46 47), (0, u "failures"), (0, u "()I"), (0, .methodref 13 49), (0, .nameAndType 50 43), (0, u "probeFailed"), (0, .methodref 13 52), (0, .nameAndType 53 43), (0, u "gone"), (2, u "law"), (0, u "(III)Z")] 5

def k1m0 : Method := { name := "<init>", desc := "()V", sig := { parameters := [], returnType := none }, accessFlags := 1, code := none }
def k1c1 : Code := { maxStack := 7, maxLocals := 24, code := code, exceptionTable := #[], attributes := #[] }
def k1m1 : Method := { name := "law", desc := "(III)Z", sig := { parameters := [.int, .int, .int], returnType := some .boolean }, accessFlags := 9, code := some k1c1 }
def k1c2 : Code := { maxStack := 2, maxLocals := 6, code := method_3_code, exceptionTable := #[], attributes := #[] }
def k1m2 : Method := { name := "matches", desc := "(Lcom/example/last_mile/lastmile/store/EndpointTally;Ljava/lang/String;ZIZZ)Z", sig := { parameters := [(.object "com/example/last_mile/lastmile/store/EndpointTally"), (.object "java/lang/String"), .boolean, .int, .boolean, .boolean], returnType := some .boolean }, accessFlags := 10, code := some k1c2 }
/-- com/example/last_mile/lastmile/store/EndpointTallyThenPinLaw -/
def k1 : Class := { plain "com/example/last_mile/lastmile/store/EndpointTallyThenPinLaw" (some 0) with
  accessFlags := 49
  interfaces := #[]
  cf := some (fileOf pool1 27 #[] #[{ accessFlags := 1, nameIndex := 5, descriptorIndex := 6, attributes := #[] }, { accessFlags := 9, nameIndex := 56, descriptorIndex := 57, attributes := #[] }, { accessFlags := 10, nameIndex := 30, descriptorIndex := 31, attributes := #[] }] 49 2 #[] #[])
  fields := #[]
  methods := #[k1m0, k1m1, k1m2]
  instanceTypes := #[]
  staticTypes := #[]
  resolved := Array.replicate 63 none
  statics := none }

def pool2 : Array CpInfo := pool [(1, .class_ 2), (0, u "java/io/Serializable"), (0, .class_ 4), (0, u "java/lang/Object")] 2

/-- java/io/Serializable -/
def k2 : Class := { plain "java/io/Serializable" (some 0) with
  accessFlags := 1537
  interfaces := #[]
  cf := some (fileOf pool2 1 #[] #[] 1537 3 #[] #[])
  fields := #[]
  methods := #[]
  instanceTypes := #[]
  staticTypes := #[]
  resolved := Array.replicate 7 none
  statics := none }

def pool3 : Array CpInfo := pool [(1, .class_ 2), (0, u "java/lang/Comparable"), (0, .class_ 4), (0, u "java/lang/Object")] 7

/-- java/lang/Comparable -/
def k3 : Class := { plain "java/lang/Comparable" (some 0) with
  accessFlags := 1537
  interfaces := #[]
  cf := some (fileOf pool3 1 #[] #[] 1537 3 #[] #[])
  fields := #[]
  methods := #[]
  instanceTypes := #[]
  staticTypes := #[]
  resolved := Array.replicate 12 none
  statics := none }

def pool4 : Array CpInfo := pool [(2, .class_ 4), (1, u "java/lang/CharSequence"), (42, .class_ 48), (0, u "java/lang/CharSequence$1CodePointIterator"), (10, .class_ 60), (0, u "java/lang/CharSequence$1CharIterator"), (5, .class_ 67), (0, u "java/lang/Object")] 63

/-- java/lang/CharSequence -/
def k4 : Class := { plain "java/lang/CharSequence" (some 0) with
  accessFlags := 1537
  interfaces := #[]
  cf := some (fileOf pool4 2 #[.nestMembers #[47, 59]] #[] 1537 66 #[] #[])
  fields := #[]
  methods := #[]
  instanceTypes := #[]
  staticTypes := #[]
  resolved := Array.replicate 131 none
  statics := none }

def pool5 : Array CpInfo := pool [(1, .class_ 2), (0, u "java/lang/constant/Constable"), (0, .class_ 4), (0, u "java/lang/Object")] 6

/-- java/lang/constant/Constable -/
def k5 : Class := { plain "java/lang/constant/Constable" (some 0) with
  accessFlags := 1537
  interfaces := #[]
  cf := some (fileOf pool5 1 #[] #[] 1537 3 #[] #[])
  fields := #[]
  methods := #[]
  instanceTypes := #[]
  staticTypes := #[]
  resolved := Array.replicate 11 none
  statics := none }

def pool6 : Array CpInfo := pool [(1, .class_ 2), (0, u "java/lang/constant/ConstantDesc"), (0, .class_ 4), (0, u "java/lang/Object")] 32

/-- java/lang/constant/ConstantDesc -/
def k6 : Class := { plain "java/lang/constant/ConstantDesc" (some 0) with
  accessFlags := 1537
  interfaces := #[]
  cf := some (fileOf pool6 1 #[] #[] 1537 3 #[] #[])
  fields := #[]
  methods := #[]
  instanceTypes := #[]
  staticTypes := #[]
  resolved := Array.replicate 37 none
  statics := none }

def pool7 : Array CpInfo := pool [(1, .methodref 2 3), (0, .class_ 4), (0, .nameAndType 5 6), (0, u "java/lang/Object"), (0, u "<init>"), (0, u "()V"), (2, .fieldref 10 11), (0, .class_ 12), (0, .nameAndType 13 14), (0, u "java/lang/String"), (0, u "value"), (0, u "[B"), (0, .fieldref 10 16), (0, .nameAndType 17 18), (0, u "coder"), (0, u "B"), (2, u "hash"), (0, u "I"), (2, u "hashIsZero"), (0, u "Z"), (0, .methodref 10 28), (0, .nameAndType 5 29), (0, u "([CIILjava/lang/Void;)V"), (8, .fieldref 10 39), (0, .nameAndType 40 26), (0, u "COMPACT_STRINGS"), (1, .class_ 44), (1, u "java/lang/StringUTF16"), (0, u "compress"), (1, .methodref 42 48), (0, .nameAndType 49 50), (0, u "coderFromArrayLen"), (0, u "([BI)B"), (126, .methodref 42 178), (0, .nameAndType 45 179), (0, u "([CII)[B"), (363, u "equals"), (29, u "(Ljava/lang/Object;)Z"), (1, .class_ 576), (0, u "java/lang/CharSequence"), (22, u "CASE_INSENSITIVE_ORDER"), (0, u "Ljava/util/Comparator;"), (409, u "([C)V"), (90, u "serialPersistentFields"), (0, u "[Ljava/io/ObjectStreamField;"), (0, .class_ 1104), (0, u "java/lang/String$CaseInsensitiveComparator"), (1, .class_ 1107), (0, u "java/io/Serializable"), (0, .class_ 1109), (0, u "java/lang/Comparable"), (0, .class_ 1111), (0, u "java/lang/constant/Constable"), (0, .class_ 1113), (0, u "java/lang/constant/ConstantDesc"), (2, u "serialVersionUID"), (0, u "J"), (3, u "REPL"), (0, u "C"), (2, u "LATIN1"), (1, u "UTF16")] 323

def k7m0 : Method := { name := "<init>", desc := "()V", sig := { parameters := [], returnType := none }, accessFlags := 1, code := none }
def k7c1 : Code := { maxStack := 5, maxLocals := 2, code := jdk_42_method_3_code, exceptionTable := #[], attributes := #[] }
def k7m1 : Method := { name := "<init>", desc := "([C)V", sig := { parameters := [(.array .char)], returnType := none }, accessFlags := 1, code := some k7c1 }
def k7c2 : Code := { maxStack := 2, maxLocals := 3, code := jdk_42_method_66_code, exceptionTable := #[], attributes := #[] }
def k7m2 : Method := { name := "equals", desc := "(Ljava/lang/Object;)Z", sig := { parameters := [(.object "java/lang/Object")], returnType := some .boolean }, accessFlags := 1, code := some k7c2 }
def k7c3 : Code := { maxStack := 4, maxLocals := 6, code := jdk_42_method_149_code, exceptionTable := #[], attributes := #[] }
def k7m3 : Method := { name := "<init>", desc := "([CIILjava/lang/Void;)V", sig := { parameters := [(.array .char), .int, .int, (.object "java/lang/Void")], returnType := none }, accessFlags := 2, code := some k7c3 }
/-- java/lang/String -/
def k7 : Class := { plain "java/lang/String" (some 0) with
  accessFlags := 49
  interfaces := #[2, 3, 4, 5, 6]
  cf := some (fileOf pool7 10 #[.nestMembers #[1103]] #[{ accessFlags := 1, nameIndex := 5, descriptorIndex := 6, attributes := #[] }, { accessFlags := 1, nameIndex := 5, descriptorIndex := 1010, attributes := #[] }, { accessFlags := 1, nameIndex := 543, descriptorIndex := 573, attributes := #[] }, { accessFlags := 2, nameIndex := 5, descriptorIndex := 29, attributes := #[] }] 49 2 #[1106, 1108, 575, 1110, 1112] #[{ accessFlags := 18, nameIndex := 13, descriptorIndex := 14, attributes := #[] }, { accessFlags := 18, nameIndex := 17, descriptorIndex := 18, attributes := #[] }, { accessFlags := 2, nameIndex := 21, descriptorIndex := 22, attributes := #[] }, { accessFlags := 2, nameIndex := 25, descriptorIndex := 26, attributes := #[] }, { accessFlags := 26, nameIndex := 1116, descriptorIndex := 1117, attributes := #[] }, { accessFlags := 24, nameIndex := 40, descriptorIndex := 26, attributes := #[] }, { accessFlags := 26, nameIndex := 1101, descriptorIndex := 1102, attributes := #[] }, { accessFlags := 26, nameIndex := 1121, descriptorIndex := 1122, attributes := #[] }, { accessFlags := 25, nameIndex := 599, descriptorIndex := 600, attributes := #[] }, { accessFlags := 24, nameIndex := 1125, descriptorIndex := 18, attributes := #[] }, { accessFlags := 24, nameIndex := 1127, descriptorIndex := 18, attributes := #[] }])
  fields := #[{ name := "value", type := (.array .byte), accessFlags := 18, slot := 0, constantValue := 0 }, { name := "coder", type := .byte, accessFlags := 18, slot := 1, constantValue := 0 }, { name := "hash", type := .int, accessFlags := 2, slot := 2, constantValue := 0 }, { name := "hashIsZero", type := .boolean, accessFlags := 2, slot := 3, constantValue := 0 }, { name := "serialVersionUID", type := .long, accessFlags := 26, slot := 0, constantValue := 0 }, { name := "COMPACT_STRINGS", type := .boolean, accessFlags := 24, slot := 1, constantValue := 0 }, { name := "serialPersistentFields", type := (.array (.object "java/io/ObjectStreamField")), accessFlags := 26, slot := 2, constantValue := 0 }, { name := "REPL", type := .char, accessFlags := 26, slot := 3, constantValue := 0 }, { name := "CASE_INSENSITIVE_ORDER", type := (.object "java/util/Comparator"), accessFlags := 25, slot := 4, constantValue := 0 }, { name := "LATIN1", type := .byte, accessFlags := 24, slot := 5, constantValue := 0 }, { name := "UTF16", type := .byte, accessFlags := 24, slot := 6, constantValue := 0 }]
  methods := #[k7m0, k7m1, k7m2, k7m3]
  instanceTypes := #[(.array .byte), .byte, .int, .boolean]
  staticTypes := #[.long, .boolean, (.array (.object "java/io/ObjectStreamField")), .char, (.object "java/util/Comparator"), .byte, .byte]
  resolved := Array.replicate 1451 none
  statics := some 0 }

def pool8 : Array CpInfo := pool [(6, .class_ 8), (1, u "java/lang/Object"), (0, u "<init>"), (0, u "()V"), (1, .class_ 14), (1, u "java/lang/StringUTF16"), (31, u "$assertionsDisabled"), (0, u "Z"), (13, u "HI_BYTE_SHIFT"), (0, u "I"), (2, u "LO_BYTE_SHIFT"), (49, .methodref 12 116), (0, .nameAndType 117 118), (0, u "compress"), (0, u "([CI[BII)I"), (3, u "([CII)[B"), (138, u "coderFromArrayLen"), (0, u "([BI)B"), (106, .class_ 371), (1, u "java/lang/StringUTF16$LinesSpliterator"), (58, u "MAX_LENGTH"), (196, .class_ 628), (0, u "java/lang/StringUTF16$CodePointsSpliterator"), (0, .class_ 630), (0, u "java/lang/StringUTF16$CharsSpliterator")] 4

def k8m0 : Method := { name := "<init>", desc := "()V", sig := { parameters := [], returnType := none }, accessFlags := 0, code := none }
def k8c1 : Code := { maxStack := 2, maxLocals := 2, code := jdk_52_method_15_code, exceptionTable := #[], attributes := #[] }
def k8m1 : Method := { name := "coderFromArrayLen", desc := "([BI)B", sig := { parameters := [(.array .byte), .int], returnType := some .byte }, accessFlags := 8, code := some k8c1 }
def k8c2 : Code := { maxStack := 5, maxLocals := 6, code := jdk_52_method_16_code, exceptionTable := #[], attributes := #[] }
def k8m2 : Method := { name := "compress", desc := "([CII)[B", sig := { parameters := [(.array .char), .int, .int], returnType := some (.array .byte) }, accessFlags := 9, code := some k8c2 }
def k8c3 : Code := { maxStack := 3, maxLocals := 7, code := jdk_52_method_21_code, exceptionTable := #[], attributes := #[] }
def k8m3 : Method := { name := "compress", desc := "([CI[BII)I", sig := { parameters := [(.array .char), .int, (.array .byte), .int, .int], returnType := some .int }, accessFlags := 9, code := some k8c3 }
/-- java/lang/StringUTF16 -/
def k8 : Class := { plain "java/lang/StringUTF16" (some 0) with
  accessFlags := 48
  interfaces := #[]
  cf := some (fileOf pool8 12 #[.nestMembers #[627, 629, 369]] #[{ accessFlags := 0, nameIndex := 9, descriptorIndex := 10, attributes := #[] }, { accessFlags := 8, nameIndex := 261, descriptorIndex := 262, attributes := #[] }, { accessFlags := 9, nameIndex := 117, descriptorIndex := 122, attributes := #[] }, { accessFlags := 9, nameIndex := 117, descriptorIndex := 118, attributes := #[] }] 48 6 #[] #[{ accessFlags := 26, nameIndex := 61, descriptorIndex := 62, attributes := #[] }, { accessFlags := 26, nameIndex := 65, descriptorIndex := 62, attributes := #[] }, { accessFlags := 24, nameIndex := 430, descriptorIndex := 62, attributes := #[] }, { accessFlags := 4120, nameIndex := 46, descriptorIndex := 47, attributes := #[] }])
  fields := #[{ name := "HI_BYTE_SHIFT", type := .int, accessFlags := 26, slot := 0, constantValue := 0 }, { name := "LO_BYTE_SHIFT", type := .int, accessFlags := 26, slot := 1, constantValue := 0 }, { name := "MAX_LENGTH", type := .int, accessFlags := 24, slot := 2, constantValue := 0 }, { name := "$assertionsDisabled", type := .boolean, accessFlags := 4120, slot := 3, constantValue := 0 }]
  methods := #[k8m0, k8m1, k8m2, k8m3]
  instanceTypes := #[]
  staticTypes := #[.int, .int, .int, .boolean]
  resolved := Array.replicate 635 none
  statics := none }

def pool9 : Array CpInfo := pool [(1, .methodref 2 3), (0, .class_ 4), (0, .nameAndType 5 6), (0, u "java/lang/Object"), (0, u "<init>"), (0, u "()V"), (0, .class_ 8), (0, u "java/lang/Record")] 13

def k9c0 : Code := { maxStack := 1, maxLocals := 1, code := jdk_30_method_1_code, exceptionTable := #[], attributes := #[] }
def k9m0 : Method := { name := "<init>", desc := "()V", sig := { parameters := [], returnType := none }, accessFlags := 4, code := some k9c0 }
/-- java/lang/Record -/
def k9 : Class := { plain "java/lang/Record" (some 0) with
  accessFlags := 1057
  interfaces := #[]
  cf := some (fileOf pool9 7 #[] #[{ accessFlags := 4, nameIndex := 5, descriptorIndex := 6, attributes := #[] }] 1057 2 #[] #[])
  fields := #[]
  methods := #[k9m0]
  instanceTypes := #[]
  staticTypes := #[]
  resolved := Array.replicate 22 none
  statics := none }

def pool10 : Array CpInfo := pool [(1, .methodref 2 3), (0, .class_ 4), (0, .nameAndType 5 6), (0, u "java/lang/Record"), (0, u "<init>"), (0, u "()V"), (0, .fieldref 8 9), (0, .class_ 10), (0, .nameAndType 11 12), (0, u "com/example/last_mile/lastmile/store/EndpointTally"), (0, u "endpointId"), (0, u "Ljava/lang/String;"), (0, .fieldref 8 14), (0, .nameAndType 15 16), (0, u "succeeded"), (0, u "Z"), (0, .fieldref 8 18), (0, .nameAndType 19 20), (0, u "failures"), (0, u "I"), (0, .fieldref 8 22), (0, .nameAndType 23 16), (0, u "probeFailed"), (0, .fieldref 8 25), (0, .nameAndType 26 16), (0, u "gone"), (0, .methodref 8 28), (0, .nameAndType 5 29), (0, u "(Ljava/lang/String;ZIZZ)V"), (15, u "of"), (0, u "(Ljava/lang/String;ZZZ)Lcom/example/last_mile/lastmile/store/EndpointTally;"), (3, u "then"), (0, u "(Lcom/example/last_mile/lastmile/store/EndpointTally;)Lcom/example/last_mile/lastmile/store/EndpointTally;"), (0, u "()Ljava/lang/String;"), (0, u "()I"), (1, u "()Z")] 24

def k10c0 : Code := { maxStack := 2, maxLocals := 6, code := prog_44_method_1_code, exceptionTable := #[], attributes := #[] }
def k10m0 : Method := { name := "<init>", desc := "(Ljava/lang/String;ZIZZ)V", sig := { parameters := [(.object "java/lang/String"), .boolean, .int, .boolean, .boolean], returnType := none }, accessFlags := 1, code := some k10c0 }
def k10c1 : Code := { maxStack := 7, maxLocals := 4, code := prog_44_method_2_code, exceptionTable := #[], attributes := #[] }
def k10m1 : Method := { name := "of", desc := "(Ljava/lang/String;ZZZ)Lcom/example/last_mile/lastmile/store/EndpointTally;", sig := { parameters := [(.object "java/lang/String"), .boolean, .boolean, .boolean], returnType := some (.object "com/example/last_mile/lastmile/store/EndpointTally") }, accessFlags := 9, code := some k10c1 }
def k10c2 : Code := { maxStack := 7, maxLocals := 2, code := prog_44_method_3_code, exceptionTable := #[], attributes := #[] }
def k10m2 : Method := { name := "then", desc := "(Lcom/example/last_mile/lastmile/store/EndpointTally;)Lcom/example/last_mile/lastmile/store/EndpointTally;", sig := { parameters := [(.object "com/example/last_mile/lastmile/store/EndpointTally")], returnType := some (.object "com/example/last_mile/lastmile/store/EndpointTally") }, accessFlags := 1, code := some k10c2 }
def k10c3 : Code := { maxStack := 1, maxLocals := 1, code := prog_44_method_7_code, exceptionTable := #[], attributes := #[] }
def k10m3 : Method := { name := "endpointId", desc := "()Ljava/lang/String;", sig := { parameters := [], returnType := some (.object "java/lang/String") }, accessFlags := 1, code := some k10c3 }
def k10c4 : Code := { maxStack := 1, maxLocals := 1, code := prog_44_method_8_code, exceptionTable := #[], attributes := #[] }
def k10m4 : Method := { name := "succeeded", desc := "()Z", sig := { parameters := [], returnType := some .boolean }, accessFlags := 1, code := some k10c4 }
def k10c5 : Code := { maxStack := 1, maxLocals := 1, code := prog_44_method_9_code, exceptionTable := #[], attributes := #[] }
def k10m5 : Method := { name := "failures", desc := "()I", sig := { parameters := [], returnType := some .int }, accessFlags := 1, code := some k10c5 }
def k10c6 : Code := { maxStack := 1, maxLocals := 1, code := prog_44_method_10_code, exceptionTable := #[], attributes := #[] }
def k10m6 : Method := { name := "probeFailed", desc := "()Z", sig := { parameters := [], returnType := some .boolean }, accessFlags := 1, code := some k10c6 }
def k10c7 : Code := { maxStack := 1, maxLocals := 1, code := prog_44_method_11_code, exceptionTable := #[], attributes := #[] }
def k10m7 : Method := { name := "gone", desc := "()Z", sig := { parameters := [], returnType := some .boolean }, accessFlags := 1, code := some k10c7 }
/-- com/example/last_mile/lastmile/store/EndpointTally -/
def k10 : Class := { plain "com/example/last_mile/lastmile/store/EndpointTally" (some 9) with
  accessFlags := 49
  interfaces := #[]
  cf := some (fileOf pool10 8 #[] #[{ accessFlags := 1, nameIndex := 5, descriptorIndex := 29, attributes := #[] }, { accessFlags := 9, nameIndex := 45, descriptorIndex := 46, attributes := #[] }, { accessFlags := 1, nameIndex := 50, descriptorIndex := 51, attributes := #[] }, { accessFlags := 1, nameIndex := 11, descriptorIndex := 52, attributes := #[] }, { accessFlags := 1, nameIndex := 15, descriptorIndex := 55, attributes := #[] }, { accessFlags := 1, nameIndex := 19, descriptorIndex := 53, attributes := #[] }, { accessFlags := 1, nameIndex := 23, descriptorIndex := 55, attributes := #[] }, { accessFlags := 1, nameIndex := 26, descriptorIndex := 55, attributes := #[] }] 49 2 #[] #[{ accessFlags := 18, nameIndex := 11, descriptorIndex := 12, attributes := #[] }, { accessFlags := 18, nameIndex := 15, descriptorIndex := 16, attributes := #[] }, { accessFlags := 18, nameIndex := 19, descriptorIndex := 20, attributes := #[] }, { accessFlags := 18, nameIndex := 23, descriptorIndex := 16, attributes := #[] }, { accessFlags := 18, nameIndex := 26, descriptorIndex := 16, attributes := #[] }])
  fields := #[{ name := "endpointId", type := (.object "java/lang/String"), accessFlags := 18, slot := 0, constantValue := 0 }, { name := "succeeded", type := .boolean, accessFlags := 18, slot := 1, constantValue := 0 }, { name := "failures", type := .int, accessFlags := 18, slot := 2, constantValue := 0 }, { name := "probeFailed", type := .boolean, accessFlags := 18, slot := 3, constantValue := 0 }, { name := "gone", type := .boolean, accessFlags := 18, slot := 4, constantValue := 0 }]
  methods := #[k10m0, k10m1, k10m2, k10m3, k10m4, k10m5, k10m6, k10m7]
  instanceTypes := #[(.object "java/lang/String"), .boolean, .int, .boolean, .boolean]
  staticTypes := #[]
  resolved := Array.replicate 80 none
  statics := none }

def pool11 : Array CpInfo := pool [(4, .class_ 6), (1, u "java/lang/Object"), (0, u "<init>"), (0, u "()V"), (5, .class_ 16), (1, u "java/lang/StringLatin1"), (104, u "$assertionsDisabled"), (0, u "Z"), (98, .class_ 223), (1, u "java/lang/StringLatin1$LinesSpliterator"), (166, .class_ 391), (0, u "java/lang/StringLatin1$CharsSpliterator")] 3

def k11m0 : Method := { name := "<init>", desc := "()V", sig := { parameters := [], returnType := none }, accessFlags := 0, code := none }
/-- java/lang/StringLatin1 -/
def k11 : Class := { plain "java/lang/StringLatin1" (some 0) with
  accessFlags := 48
  interfaces := #[]
  cf := some (fileOf pool11 14 #[.nestMembers #[390, 221]] #[{ accessFlags := 0, nameIndex := 7, descriptorIndex := 8, attributes := #[] }] 48 4 #[] #[{ accessFlags := 4120, nameIndex := 121, descriptorIndex := 122, attributes := #[] }])
  fields := #[{ name := "$assertionsDisabled", type := .boolean, accessFlags := 4120, slot := 0, constantValue := 0 }]
  methods := #[k11m0]
  instanceTypes := #[]
  staticTypes := #[.boolean]
  resolved := Array.replicate 395 none
  statics := none }

def pool12 : Array CpInfo := pool [(2, .class_ 4), (1, u "java/lang/Object"), (0, u "<init>"), (0, u "()V"), (17, .class_ 26), (1, u "jdk/internal/util/Preconditions"), (28, .class_ 56), (0, u "jdk/internal/util/Preconditions$4"), (57, .class_ 115), (0, u "jdk/internal/util/Preconditions$1"), (7, u "SIOOBE_FORMATTER"), (0, u "Ljava/util/function/BiFunction;"), (0, .class_ 126), (0, u "jdk/internal/util/Preconditions$2"), (3, u "AIOOBE_FORMATTER"), (0, .class_ 132), (0, u "jdk/internal/util/Preconditions$3"), (3, u "IOOBE_FORMATTER")] 57

def k12m0 : Method := { name := "<init>", desc := "()V", sig := { parameters := [], returnType := none }, accessFlags := 1, code := none }
/-- jdk/internal/util/Preconditions -/
def k12 : Class := { plain "jdk/internal/util/Preconditions" (some 0) with
  accessFlags := 33
  interfaces := #[]
  cf := some (fileOf pool12 24 #[.nestMembers #[55, 131, 125, 114]] #[{ accessFlags := 1, nameIndex := 5, descriptorIndex := 6, attributes := #[] }] 33 2 #[] #[{ accessFlags := 25, nameIndex := 123, descriptorIndex := 124, attributes := #[] }, { accessFlags := 25, nameIndex := 130, descriptorIndex := 124, attributes := #[] }, { accessFlags := 25, nameIndex := 136, descriptorIndex := 124, attributes := #[] }])
  fields := #[{ name := "SIOOBE_FORMATTER", type := (.object "java/util/function/BiFunction"), accessFlags := 25, slot := 0, constantValue := 0 }, { name := "AIOOBE_FORMATTER", type := (.object "java/util/function/BiFunction"), accessFlags := 25, slot := 1, constantValue := 0 }, { name := "IOOBE_FORMATTER", type := (.object "java/util/function/BiFunction"), accessFlags := 25, slot := 2, constantValue := 0 }]
  methods := #[k12m0]
  instanceTypes := #[]
  staticTypes := #[(.object "java/util/function/BiFunction"), (.object "java/util/function/BiFunction"), (.object "java/util/function/BiFunction")]
  resolved := Array.replicate 194 none
  statics := some 1 }

def pool13 : Array CpInfo := pool [(9, u "<init>"), (6, .class_ 18), (1, u "java/lang/Object"), (0, u "()V"), (1, .class_ 23), (1, u "jdk/internal/util/ArraysSupport"), (0, u "LOG2_ARRAY_LONG_INDEX_SCALE"), (0, u "I"), (2, u "U"), (0, u "Ljdk/internal/misc/Unsafe;"), (8, u "BIG_ENDIAN"), (0, u "Z"), (8, u "LOG2_BYTE_BIT_SIZE"), (4, u "LOG2_ARRAY_INT_INDEX_SCALE"), (54, u "JLA"), (0, u "Ljdk/internal/access/JavaLangAccess;"), (11, u "LOG2_ARRAY_BOOLEAN_INDEX_SCALE"), (9, u "LOG2_ARRAY_BYTE_INDEX_SCALE"), (5, u "LOG2_ARRAY_CHAR_INDEX_SCALE"), (5, u "LOG2_ARRAY_SHORT_INDEX_SCALE"), (18, u "LOG2_ARRAY_FLOAT_INDEX_SCALE"), (24, u "LOG2_ARRAY_DOUBLE_INDEX_SCALE"), (89, u "T_BOOLEAN"), (2, u "T_CHAR"), (1, u "T_FLOAT"), (1, u "T_DOUBLE"), (1, u "T_BYTE"), (1, u "T_SHORT"), (1, u "T_INT"), (1, u "T_LONG"), (1, u "SOFT_MAX_ARRAY_LENGTH")] 83

def k13m0 : Method := { name := "<init>", desc := "()V", sig := { parameters := [], returnType := none }, accessFlags := 2, code := none }
/-- jdk/internal/util/ArraysSupport -/
def k13 : Class := { plain "jdk/internal/util/ArraysSupport" (some 0) with
  accessFlags := 33
  interfaces := #[]
  cf := some (fileOf pool13 21 #[] #[{ accessFlags := 2, nameIndex := 9, descriptorIndex := 19, attributes := #[] }] 33 16 #[] #[{ accessFlags := 24, nameIndex := 28, descriptorIndex := 29, attributes := #[] }, { accessFlags := 26, nameIndex := 38, descriptorIndex := 39, attributes := #[] }, { accessFlags := 25, nameIndex := 121, descriptorIndex := 25, attributes := #[] }, { accessFlags := 25, nameIndex := 131, descriptorIndex := 25, attributes := #[] }, { accessFlags := 25, nameIndex := 137, descriptorIndex := 25, attributes := #[] }, { accessFlags := 25, nameIndex := 143, descriptorIndex := 25, attributes := #[] }, { accessFlags := 25, nameIndex := 53, descriptorIndex := 25, attributes := #[] }, { accessFlags := 25, nameIndex := 24, descriptorIndex := 25, attributes := #[] }, { accessFlags := 25, nameIndex := 162, descriptorIndex := 25, attributes := #[] }, { accessFlags := 25, nameIndex := 187, descriptorIndex := 25, attributes := #[] }, { accessFlags := 26, nameIndex := 48, descriptorIndex := 25, attributes := #[] }, { accessFlags := 25, nameIndex := 277, descriptorIndex := 25, attributes := #[] }, { accessFlags := 25, nameIndex := 280, descriptorIndex := 25, attributes := #[] }, { accessFlags := 25, nameIndex := 282, descriptorIndex := 25, attributes := #[] }, { accessFlags := 25, nameIndex := 284, descriptorIndex := 25, attributes := #[] }, { accessFlags := 25, nameIndex := 286, descriptorIndex := 25, attributes := #[] }, { accessFlags := 25, nameIndex := 288, descriptorIndex := 25, attributes := #[] }, { accessFlags := 25, nameIndex := 290, descriptorIndex := 25, attributes := #[] }, { accessFlags := 25, nameIndex := 292, descriptorIndex := 25, attributes := #[] }, { accessFlags := 26, nameIndex := 108, descriptorIndex := 109, attributes := #[] }, { accessFlags := 25, nameIndex := 294, descriptorIndex := 25, attributes := #[] }])
  fields := #[{ name := "U", type := (.object "jdk/internal/misc/Unsafe"), accessFlags := 24, slot := 0, constantValue := 0 }, { name := "BIG_ENDIAN", type := .boolean, accessFlags := 26, slot := 1, constantValue := 0 }, { name := "LOG2_ARRAY_BOOLEAN_INDEX_SCALE", type := .int, accessFlags := 25, slot := 2, constantValue := 0 }, { name := "LOG2_ARRAY_BYTE_INDEX_SCALE", type := .int, accessFlags := 25, slot := 3, constantValue := 0 }, { name := "LOG2_ARRAY_CHAR_INDEX_SCALE", type := .int, accessFlags := 25, slot := 4, constantValue := 0 }, { name := "LOG2_ARRAY_SHORT_INDEX_SCALE", type := .int, accessFlags := 25, slot := 5, constantValue := 0 }, { name := "LOG2_ARRAY_INT_INDEX_SCALE", type := .int, accessFlags := 25, slot := 6, constantValue := 0 }, { name := "LOG2_ARRAY_LONG_INDEX_SCALE", type := .int, accessFlags := 25, slot := 7, constantValue := 0 }, { name := "LOG2_ARRAY_FLOAT_INDEX_SCALE", type := .int, accessFlags := 25, slot := 8, constantValue := 0 }, { name := "LOG2_ARRAY_DOUBLE_INDEX_SCALE", type := .int, accessFlags := 25, slot := 9, constantValue := 0 }, { name := "LOG2_BYTE_BIT_SIZE", type := .int, accessFlags := 26, slot := 10, constantValue := 0 }, { name := "T_BOOLEAN", type := .int, accessFlags := 25, slot := 11, constantValue := 0 }, { name := "T_CHAR", type := .int, accessFlags := 25, slot := 12, constantValue := 0 }, { name := "T_FLOAT", type := .int, accessFlags := 25, slot := 13, constantValue := 0 }, { name := "T_DOUBLE", type := .int, accessFlags := 25, slot := 14, constantValue := 0 }, { name := "T_BYTE", type := .int, accessFlags := 25, slot := 15, constantValue := 0 }, { name := "T_SHORT", type := .int, accessFlags := 25, slot := 16, constantValue := 0 }, { name := "T_INT", type := .int, accessFlags := 25, slot := 17, constantValue := 0 }, { name := "T_LONG", type := .int, accessFlags := 25, slot := 18, constantValue := 0 }, { name := "JLA", type := (.object "jdk/internal/access/JavaLangAccess"), accessFlags := 26, slot := 19, constantValue := 0 }, { name := "SOFT_MAX_ARRAY_LENGTH", type := .int, accessFlags := 25, slot := 20, constantValue := 0 }]
  methods := #[k13m0]
  instanceTypes := #[]
  staticTypes := #[(.object "jdk/internal/misc/Unsafe"), .boolean, .int, .int, .int, .int, .int, .int, .int, .int, .int, .int, .int, .int, .int, .int, .int, .int, .int, (.object "jdk/internal/access/JavaLangAccess"), .int]
  resolved := Array.replicate 378 none
  statics := none }

def pool14 : Array CpInfo := pool [(1, u "java/lang/Cloneable"), (0, .class_ 1), (0, u "java/lang/Object"), (0, .class_ 3)] 3

/-- java/lang/Cloneable -/
def k14 : Class := { plain "java/lang/Cloneable" (some 0) with
  accessFlags := 1537
  interfaces := #[]
  cf := some (fileOf pool14 2 #[] #[] 1537 4 #[] #[])
  fields := #[]
  methods := #[]
  instanceTypes := #[]
  staticTypes := #[]
  resolved := Array.replicate 8 none
  statics := none }

/-- the primitive byte -/
def k15 : Class := { plain "byte" none with kind := .primitive 'B', accessFlags := 0x411 }
/-- [B -/
def k16 : Class := { plain "[B" (some 0) with kind := .array 15 .byte, interfaces := #[14, 2], accessFlags := 1041 }

/-- the primitive char -/
def k17 : Class := { plain "char" none with kind := .primitive 'C', accessFlags := 0x411 }
/-- [C -/
def k18 : Class := { plain "[C" (some 0) with kind := .array 17 .char, interfaces := #[14, 2], accessFlags := 1041 }

/-- the primitive int -/
def k19 : Class := { plain "int" none with kind := .primitive 'I', accessFlags := 0x411 }
/-- [I -/
def k20 : Class := { plain "[I" (some 0) with kind := .array 19 .int, interfaces := #[14, 2], accessFlags := 1041 }

def heap : Heap := #[{ cls := 7, slots := #[.long 0, .int 1, .null, .int 0, .null, .int 0, .int 0], vm := .statics 7 },
  { cls := 12, slots := #[.null, .null, .null], vm := .statics 12 }]
def classes : Array Class := #[k0, k1, k2, k3, k4, k5, k6, k7, k8, k9, k10, k11, k12, k13, k14, k15, k16, k17, k18, k19, k20]
def interned : List (Array UInt16 × Addr) := []
def slotsUsed : Nat := 10
def theMethod : MethodId := ⟨1, 1⟩
def args0 : Array Value := #[.int 65, .int 66, .int 7]
def aboutOver (below : List Frame) : State where
  vm := { classes := classes, interned := interned.toArray }
  heap := heap
  slotsUsed := slotsUsed
  threads := #[{ frames := .invoking theMethod args0 :: below }]
def below0 : List Frame := [.native { method := ⟨0, 0⟩, args := #[] }]
def about1 : State := aboutOver below0
def p0 : Program := .bare "" "" ""
def e0 : Env := launch0.env 0 0 0
theorem w_frames : about1.frames = Frame.invoking theMethod args0 :: below0 := rfl
set_option maxRecDepth 65536 in
theorem w_args : argsFit about1.vm theMethod args0 = true := by decide +kernel
set_option maxRecDepth 65536 in
theorem w_heap : heapFits about1 = true := by decide +kernel
set_option maxRecDepth 65536 in
theorem w_runnable : about1.curStatus? = some .runnable := by decide +kernel
set_option maxRecDepth 65536 in
theorem w_alone : about1.alone = true := by decide +kernel
set_option maxRecDepth 65536 in
theorem w_named : about1.methodNamed? x = some theMethod := by decide +kernel
set_option maxRecDepth 65536 in
theorem w_hears : about1.hears theMethod below0 = true := by decide +kernel
set_option maxRecDepth 65536 in
theorem w_ripe : about1.ripe theMethod args0 below0 = true := by decide +kernel
theorem w_running : about1.status = .running := rfl
set_option maxRecDepth 65536 in
theorem w_room : about1.hasRoom e0.platform room_1 = true :=
  launch0.hasRoom_least _ room_1 (by decide +kernel) (by decide +kernel) (by decide +kernel) (by decide +kernel) (by decide +kernel) (by decide +kernel)
theorem allAtoms_all (ts : List Jvm.Cond) (a : Array Jvm.Value) (st : Jvm.State) : (allAtoms ts).before a st = ts.all (fun c => c.before a st) := by
  induction ts with
  | nil => rfl
  | cons c t ih =>
    show (Jvm.Cond.and c (allAtoms t)).before a st = _
    rw [Jvm.Cond.before_and, ih, List.all_cons]
def words1 : List Jvm.Cond := Jvm.Cond.code x code maxLocals ret :: tables_1
/-- a 'code' word, met by the world's own term for the bytes: nothing is compared byte by byte -/
theorem code_word {y : MethodName} {bytes : ByteArray} {mx : Nat} {rt : Option FieldType} {a : Array Value} {s : State} {m : MethodId} {meth : Method} {c : Code} (h1 : s.methodNamed? y = some m) (h2 : s.vm.method? m = some meth) (h3 : meth.code = some c) (h4 : c.code = bytes)
    (h5 : (c.maxLocals == mx && c.exceptionTable.isEmpty && decide (c.maxStack ≤ mostOperands) && decide (meth.sig.returnType = rt) && !meth.locks && decide (parseMethodDescriptor y.desc = some meth.sig)) = true) : (Jvm.Cond.code y bytes mx rt).before a s = true := by
  simp only [Bool.and_eq_true, beq_iff_eq, Bool.not_eq_true', decide_eq_true_eq] at h5
  obtain ⟨⟨⟨⟨⟨g1, g2⟩, g3⟩, g4⟩, g5⟩, g6⟩ := h5
  simp [Cond.before, Cond.holds, Cond.value, h1, h2, h3, h4, g1, g2, g3, g4, g5, g6]
def isCode : Jvm.Cond → Bool
  | .code _ _ _ _ => true
  | _ => false
theorem all_split {L : List Jvm.Cond} {P : Jvm.Cond → Bool} (h1 : L.all (fun c => isCode c || P c) = true) (h2 : ∀ c ∈ L.filter isCode, P c = true) : L.all P = true := by
  refine List.all_eq_true.mpr fun c hc => ?_
  have h := List.all_eq_true.mp h1 c hc
  rcases Bool.eq_false_or_eq_true (isCode c) with hi | hi
  · exact h2 c (List.mem_filter.mpr ⟨hc, hi⟩)
  · simpa [hi] using h
set_option maxRecDepth 65536 in
theorem w_c0 : (Jvm.Cond.code x code maxLocals ret).before args0 about1 = true := code_word (m := ⟨1, 1⟩) (meth := k1m1) (c := k1c1) (by decide +kernel) rfl rfl rfl (by decide +kernel)
set_option maxRecDepth 65536 in
theorem w_c1 : (Jvm.Cond.code ({ cls := "java/lang/String", name := "<init>", desc := "([C)V" } : Jvm.MethodName) jdk_42_method_3_code (2 : Nat) (Option.none : Option Jvm.ClassFile.FieldType)).before args0 about1 = true := code_word (m := ⟨7, 1⟩) (meth := k7m1) (c := k7c1) (by decide +kernel) rfl rfl rfl (by decide +kernel)
set_option maxRecDepth 65536 in
theorem w_c2 : (Jvm.Cond.code ({ cls := "java/lang/String", name := "<init>", desc := "([CIILjava/lang/Void;)V" } : Jvm.MethodName) jdk_42_method_149_code (6 : Nat) (Option.none : Option Jvm.ClassFile.FieldType)).before args0 about1 = true := code_word (m := ⟨7, 3⟩) (meth := k7m3) (c := k7c3) (by decide +kernel) rfl rfl rfl (by decide +kernel)
set_option maxRecDepth 65536 in
theorem w_c3 : (Jvm.Cond.code ({ cls := "java/lang/Object", name := "<init>", desc := "()V" } : Jvm.MethodName) object_method_1_code (1 : Nat) (Option.none : Option Jvm.ClassFile.FieldType)).before args0 about1 = true := code_word (m := ⟨0, 0⟩) (meth := k0m0) (c := k0c0) (by decide +kernel) rfl rfl rfl (by decide +kernel)
set_option maxRecDepth 65536 in
theorem w_c4 : (Jvm.Cond.code ({ cls := "java/lang/StringUTF16", name := "compress", desc := "([CII)[B" } : Jvm.MethodName) jdk_52_method_16_code (6 : Nat) (Option.some (Jvm.ClassFile.FieldType.array Jvm.ClassFile.FieldType.byte))).before args0 about1 = true := code_word (m := ⟨8, 2⟩) (meth := k8m2) (c := k8c2) (by decide +kernel) rfl rfl rfl (by decide +kernel)
set_option maxRecDepth 65536 in
theorem w_c5 : (Jvm.Cond.code ({ cls := "java/lang/StringUTF16", name := "compress", desc := "([CI[BII)I" } : Jvm.MethodName) jdk_52_method_21_code (7 : Nat) (Option.some Jvm.ClassFile.FieldType.int)).before args0 about1 = true := code_word (m := ⟨8, 3⟩) (meth := k8m3) (c := k8c3) (by decide +kernel) rfl rfl rfl (by decide +kernel)
set_option maxRecDepth 65536 in
theorem w_c6 : (Jvm.Cond.code ({ cls := "java/lang/StringUTF16", name := "coderFromArrayLen", desc := "([BI)B" } : Jvm.MethodName) jdk_52_method_15_code (2 : Nat) (Option.some Jvm.ClassFile.FieldType.byte)).before args0 about1 = true := code_word (m := ⟨8, 1⟩) (meth := k8m1) (c := k8c1) (by decide +kernel) rfl rfl rfl (by decide +kernel)
set_option maxRecDepth 65536 in
theorem w_c7 : (Jvm.Cond.code ({ cls := "com/example/last_mile/lastmile/store/EndpointTally", name := "<init>", desc := "(Ljava/lang/String;ZIZZ)V" } : Jvm.MethodName) prog_44_method_1_code (6 : Nat) (Option.none : Option Jvm.ClassFile.FieldType)).before args0 about1 = true := code_word (m := ⟨10, 0⟩) (meth := k10m0) (c := k10c0) (by decide +kernel) rfl rfl rfl (by decide +kernel)
set_option maxRecDepth 65536 in
theorem w_c8 : (Jvm.Cond.code ({ cls := "java/lang/Record", name := "<init>", desc := "()V" } : Jvm.MethodName) jdk_30_method_1_code (1 : Nat) (Option.none : Option Jvm.ClassFile.FieldType)).before args0 about1 = true := code_word (m := ⟨9, 0⟩) (meth := k9m0) (c := k9c0) (by decide +kernel) rfl rfl rfl (by decide +kernel)
set_option maxRecDepth 65536 in
theorem w_c9 : (Jvm.Cond.code ({ cls := "com/example/last_mile/lastmile/store/EndpointTally", name := "of", desc := "(Ljava/lang/String;ZZZ)Lcom/example/last_mile/lastmile/store/EndpointTally;" } : Jvm.MethodName) prog_44_method_2_code (4 : Nat) (Option.some (Jvm.ClassFile.FieldType.object "com/example/last_mile/lastmile/store/EndpointTally"))).before args0 about1 = true := code_word (m := ⟨10, 1⟩) (meth := k10m1) (c := k10c1) (by decide +kernel) rfl rfl rfl (by decide +kernel)
set_option maxRecDepth 65536 in
theorem w_c10 : (Jvm.Cond.code ({ cls := "com/example/last_mile/lastmile/store/EndpointTally", name := "then", desc := "(Lcom/example/last_mile/lastmile/store/EndpointTally;)Lcom/example/last_mile/lastmile/store/EndpointTally;" } : Jvm.MethodName) prog_44_method_3_code (2 : Nat) (Option.some (Jvm.ClassFile.FieldType.object "com/example/last_mile/lastmile/store/EndpointTally"))).before args0 about1 = true := code_word (m := ⟨10, 2⟩) (meth := k10m2) (c := k10c2) (by decide +kernel) rfl rfl rfl (by decide +kernel)
set_option maxRecDepth 65536 in
theorem w_c11 : (Jvm.Cond.code ({ cls := "com/example/last_mile/lastmile/store/EndpointTallyThenPinLaw", name := "matches", desc := "(Lcom/example/last_mile/lastmile/store/EndpointTally;Ljava/lang/String;ZIZZ)Z" } : Jvm.MethodName) method_3_code (6 : Nat) (Option.some Jvm.ClassFile.FieldType.boolean)).before args0 about1 = true := code_word (m := ⟨1, 2⟩) (meth := k1m2) (c := k1c2) (by decide +kernel) rfl rfl rfl (by decide +kernel)
set_option maxRecDepth 65536 in
theorem w_c12 : (Jvm.Cond.code ({ cls := "com/example/last_mile/lastmile/store/EndpointTally", name := "endpointId", desc := "()Ljava/lang/String;" } : Jvm.MethodName) prog_44_method_7_code (1 : Nat) (Option.some (Jvm.ClassFile.FieldType.object "java/lang/String"))).before args0 about1 = true := code_word (m := ⟨10, 3⟩) (meth := k10m3) (c := k10c3) (by decide +kernel) rfl rfl rfl (by decide +kernel)
set_option maxRecDepth 65536 in
theorem w_c13 : (Jvm.Cond.code ({ cls := "java/lang/String", name := "equals", desc := "(Ljava/lang/Object;)Z" } : Jvm.MethodName) jdk_42_method_66_code (3 : Nat) (Option.some Jvm.ClassFile.FieldType.boolean)).before args0 about1 = true := code_word (m := ⟨7, 2⟩) (meth := k7m2) (c := k7c2) (by decide +kernel) rfl rfl rfl (by decide +kernel)
set_option maxRecDepth 65536 in
theorem w_c14 : (Jvm.Cond.code ({ cls := "com/example/last_mile/lastmile/store/EndpointTally", name := "succeeded", desc := "()Z" } : Jvm.MethodName) prog_44_method_8_code (1 : Nat) (Option.some Jvm.ClassFile.FieldType.boolean)).before args0 about1 = true := code_word (m := ⟨10, 4⟩) (meth := k10m4) (c := k10c4) (by decide +kernel) rfl rfl rfl (by decide +kernel)
set_option maxRecDepth 65536 in
theorem w_c15 : (Jvm.Cond.code ({ cls := "com/example/last_mile/lastmile/store/EndpointTally", name := "failures", desc := "()I" } : Jvm.MethodName) prog_44_method_9_code (1 : Nat) (Option.some Jvm.ClassFile.FieldType.int)).before args0 about1 = true := code_word (m := ⟨10, 5⟩) (meth := k10m5) (c := k10c5) (by decide +kernel) rfl rfl rfl (by decide +kernel)
set_option maxRecDepth 65536 in
theorem w_c16 : (Jvm.Cond.code ({ cls := "com/example/last_mile/lastmile/store/EndpointTally", name := "probeFailed", desc := "()Z" } : Jvm.MethodName) prog_44_method_10_code (1 : Nat) (Option.some Jvm.ClassFile.FieldType.boolean)).before args0 about1 = true := code_word (m := ⟨10, 6⟩) (meth := k10m6) (c := k10c6) (by decide +kernel) rfl rfl rfl (by decide +kernel)
set_option maxRecDepth 65536 in
theorem w_c17 : (Jvm.Cond.code ({ cls := "com/example/last_mile/lastmile/store/EndpointTally", name := "gone", desc := "()Z" } : Jvm.MethodName) prog_44_method_11_code (1 : Nat) (Option.some Jvm.ClassFile.FieldType.boolean)).before args0 about1 = true := code_word (m := ⟨10, 7⟩) (meth := k10m7) (c := k10c7) (by decide +kernel) rfl rfl rfl (by decide +kernel)
def codes1 : List Jvm.Cond := [Jvm.Cond.code x code maxLocals ret, Jvm.Cond.code ({ cls := "java/lang/String", name := "<init>", desc := "([C)V" } : Jvm.MethodName) jdk_42_method_3_code (2 : Nat) (Option.none : Option Jvm.ClassFile.FieldType), Jvm.Cond.code ({ cls := "java/lang/String", name := "<init>", desc := "([CIILjava/lang/Void;)V" } : Jvm.MethodName) jdk_42_method_149_code (6 : Nat) (Option.none : Option Jvm.ClassFile.FieldType), Jvm.Cond.code ({ cls := "java/lang/Object", name := "<init>", desc := "()V" } : Jvm.MethodName) object_method_1_code (1 : Nat) (Option.none : Option Jvm.ClassFile.FieldType), Jvm.Cond.code ({ cls := "java/lang/StringUTF16", name := "compress", desc := "([CII)[B" } : Jvm.MethodName) jdk_52_method_16_code (6 : Nat) (Option.some (Jvm.ClassFile.FieldType.array Jvm.ClassFile.FieldType.byte)), Jvm.Cond.code ({ cls := "java/lang/StringUTF16", name := "compress", desc := "([CI[BII)I" } : Jvm.MethodName) jdk_52_method_21_code (7 : Nat) (Option.some Jvm.ClassFile.FieldType.int), Jvm.Cond.code ({ cls := "java/lang/StringUTF16", name := "coderFromArrayLen", desc := "([BI)B" } : Jvm.MethodName) jdk_52_method_15_code (2 : Nat) (Option.some Jvm.ClassFile.FieldType.byte), Jvm.Cond.code ({ cls := "com/example/last_mile/lastmile/store/EndpointTally", name := "<init>", desc := "(Ljava/lang/String;ZIZZ)V" } : Jvm.MethodName) prog_44_method_1_code (6 : Nat) (Option.none : Option Jvm.ClassFile.FieldType), Jvm.Cond.code ({ cls := "java/lang/Record", name := "<init>", desc := "()V" } : Jvm.MethodName) jdk_30_method_1_code (1 : Nat) (Option.none : Option Jvm.ClassFile.FieldType), Jvm.Cond.code ({ cls := "com/example/last_mile/lastmile/store/EndpointTally", name := "of", desc := "(Ljava/lang/String;ZZZ)Lcom/example/last_mile/lastmile/store/EndpointTally;" } : Jvm.MethodName) prog_44_method_2_code (4 : Nat) (Option.some (Jvm.ClassFile.FieldType.object "com/example/last_mile/lastmile/store/EndpointTally")), Jvm.Cond.code ({ cls := "com/example/last_mile/lastmile/store/EndpointTally", name := "then", desc := "(Lcom/example/last_mile/lastmile/store/EndpointTally;)Lcom/example/last_mile/lastmile/store/EndpointTally;" } : Jvm.MethodName) prog_44_method_3_code (2 : Nat) (Option.some (Jvm.ClassFile.FieldType.object "com/example/last_mile/lastmile/store/EndpointTally")), Jvm.Cond.code ({ cls := "com/example/last_mile/lastmile/store/EndpointTallyThenPinLaw", name := "matches", desc := "(Lcom/example/last_mile/lastmile/store/EndpointTally;Ljava/lang/String;ZIZZ)Z" } : Jvm.MethodName) method_3_code (6 : Nat) (Option.some Jvm.ClassFile.FieldType.boolean), Jvm.Cond.code ({ cls := "com/example/last_mile/lastmile/store/EndpointTally", name := "endpointId", desc := "()Ljava/lang/String;" } : Jvm.MethodName) prog_44_method_7_code (1 : Nat) (Option.some (Jvm.ClassFile.FieldType.object "java/lang/String")), Jvm.Cond.code ({ cls := "java/lang/String", name := "equals", desc := "(Ljava/lang/Object;)Z" } : Jvm.MethodName) jdk_42_method_66_code (3 : Nat) (Option.some Jvm.ClassFile.FieldType.boolean), Jvm.Cond.code ({ cls := "com/example/last_mile/lastmile/store/EndpointTally", name := "succeeded", desc := "()Z" } : Jvm.MethodName) prog_44_method_8_code (1 : Nat) (Option.some Jvm.ClassFile.FieldType.boolean), Jvm.Cond.code ({ cls := "com/example/last_mile/lastmile/store/EndpointTally", name := "failures", desc := "()I" } : Jvm.MethodName) prog_44_method_9_code (1 : Nat) (Option.some Jvm.ClassFile.FieldType.int), Jvm.Cond.code ({ cls := "com/example/last_mile/lastmile/store/EndpointTally", name := "probeFailed", desc := "()Z" } : Jvm.MethodName) prog_44_method_10_code (1 : Nat) (Option.some Jvm.ClassFile.FieldType.boolean), Jvm.Cond.code ({ cls := "com/example/last_mile/lastmile/store/EndpointTally", name := "gone", desc := "()Z" } : Jvm.MethodName) prog_44_method_11_code (1 : Nat) (Option.some Jvm.ClassFile.FieldType.boolean)]
set_option maxRecDepth 65536 in
theorem codes_eq : words1.filter isCode = codes1 := rfl
theorem w_codes : ∀ c ∈ words1.filter isCode, c.before args0 about1 = true := by
  rw [codes_eq]
  intro c hc
  simp only [codes1, List.mem_cons, List.not_mem_nil, or_false] at hc
  rcases hc with rfl | rfl | rfl | rfl | rfl | rfl | rfl | rfl | rfl | rfl | rfl | rfl | rfl | rfl | rfl | rfl | rfl | rfl
  · exact w_c0
  · exact w_c1
  · exact w_c2
  · exact w_c3
  · exact w_c4
  · exact w_c5
  · exact w_c6
  · exact w_c7
  · exact w_c8
  · exact w_c9
  · exact w_c10
  · exact w_c11
  · exact w_c12
  · exact w_c13
  · exact w_c14
  · exact w_c15
  · exact w_c16
  · exact w_c17
set_option maxRecDepth 65536 in
theorem w_t1 : (words1.take 24).all (fun c => isCode c || c.before args0 about1) = true := by decide +kernel
set_option maxRecDepth 65536 in
theorem w_t2 : ((words1.drop 24).take 24).all (fun c => isCode c || c.before args0 about1) = true := by decide +kernel
set_option maxRecDepth 65536 in
theorem w_t3 : (((words1.drop 24).drop 24).take 24).all (fun c => isCode c || c.before args0 about1) = true := by decide +kernel
set_option maxRecDepth 65536 in
theorem w_t4 : ((((words1.drop 24).drop 24).drop 24).take 24).all (fun c => isCode c || c.before args0 about1) = true := by decide +kernel
set_option maxRecDepth 65536 in
theorem w_t5 : ((((words1.drop 24).drop 24).drop 24).drop 24).all (fun c => isCode c || c.before args0 about1) = true := by decide +kernel
theorem w_tables : (allAtoms (Jvm.Cond.code x code maxLocals ret :: tables_1)).before args0 about1 = true := by
  rw [allAtoms_all]
  show words1.all (fun c => c.before args0 about1) = true
  refine all_split ?_ w_codes
  rw [← List.take_append_drop 24 words1, List.all_append, w_t1, ← List.take_append_drop 24 (words1.drop 24), List.all_append, w_t2, ← List.take_append_drop 24 ((words1.drop 24).drop 24), List.all_append, w_t3, ← List.take_append_drop 24 (((words1.drop 24).drop 24).drop 24), List.all_append, w_t4, w_t5]
  rfl
set_option maxRecDepth 65536 in
theorem w_rest : rest_1_c.before args0 about1 = true := by decide +kernel
set_option maxRecDepth 65536 in
theorem w_case : (Jvm.Cond.and given_1 narrow_1).before args0 about1 = true := by decide +kernel
theorem w_applies : (headSpec (Jvm.Cond.code x code maxLocals ret :: tables_1) room_1).applies x e0.platform about1 = true :=
  (Spec.applies_iff w_frames).mpr ⟨w_running, w_runnable, w_alone, w_named, w_hears, w_ripe, w_room, w_tables⟩
theorem atStart : AtStart classFile x code maxLocals ret World_1 tables_1 room_1 Calls_1 rest_1 Pre_1 launch0 p0 e0 about1 theMethod args0 below0 :=
  ⟨lists_1, trivial, launch0.admits_env _ _ _, launch0.least_env, fairChoices_fair.cas, fairChoices_fair.clock, w_frames, w_args, w_heap, w_applies, trivial, w_rest, w_case⟩
end start1
theorem witness_1 : WitnessClaimed_1 := ⟨start1.p0, start1.e0, start1.about1, start1.theMethod, start1.args0, start1.below0, start1.atStart⟩
end Jvm.Pilot.@@N@@
