import JvmDerived
import JvmDerived.Pilot.@@N@@Statement
import JvmDerived.Pilot.@@N@@Code
set_option linter.unusedVariables false
set_option linter.unusedSimpArgs false
/- laws to paste: Road.backArv, Road.eqW, Road.codOf (cut by pick.py; bodies as the Statement names them) -/
namespace Jvm.Pilot.@@N@@
namespace StrChars
open Jvm Sem ClassFile Op Lib Jvm.Stand Jvm.Free.XT Jvm.Free.ALB Jvm.Free.JM Jvm.Free
open Jvm.Lib.Cold (StaticIs)
/-- a char array whose places are chars -/
def Ch (a : Addr) (A : Cell) (U : State) : Prop := Arr .char a A U ∧ Typed .char A
theorem Ch.mv {a : Addr} {A : Cell} {U U' : State} (h : Ch a A U) (hal : U.vm.Alike U'.vm) (hh : U'.heap = U.heap) : Ch a A U' := ⟨h.1.mv hal hh, h.2⟩
theorem Ch.keep {a : Addr} {A : Cell} {U U' : State} (h : Ch a A U) (hal : U.vm.Alike U'.vm) (hk : U'.heap[a]? = some A) : Ch a A U' := ⟨h.1.keep hal hk, h.2⟩
/-- what place i of a char[]'s cell holds -/
def cv (A : Cell) (i : Nat) : Int32 := match A.slots[i]? with | some (.int x) => x | _ => 0
theorem Ch.get {a : Addr} {A : Cell} {U : State} (h : Ch a A U) {i : Nat} (hi : i < A.slots.size) : A.slots[i]? = some (.int (cv A i)) := by
  have e := Array.getElem?_eq_getElem hi
  have f := h.2 i _ e
  unfold cv; rw [e]
  generalize A.slots[i] = v at f
  cases v <;> simp [fits] at f ⊢
/-- the byte that i2b leaves of a char -/
def lo8 (x : Int32) : Int32 := x.toInt8.toInt32
theorem fits_lo8 (y : Int32) : fits .byte (.int (lo8 y)) = true := by
  have h1 := y.toInt8.le_toInt
  have h2 := y.toInt8.toInt_lt
  simp only [lo8, fits, Bool.and_eq_true, decide_eq_true_eq, Int32.le_iff_toInt_le, Int8.toInt_toInt32, show (-128 : Int32).toInt = -128 from by decide, show (127 : Int32).toInt = 127 from by decide]
  omega
/-- A' is A but that each place j of lo .. hi - 1 holds f j -/
def Laid (A A' : Cell) (lo hi : Nat) (f : Nat → Value) : Prop := A'.cls = A.cls ∧ A'.vm = A.vm ∧ A'.slots.size = A.slots.size ∧ ∀ i, A'.slots[i]? = if lo ≤ i ∧ i < hi then some (f i) else A.slots[i]?
theorem Laid.zero (A : Cell) (lo : Nat) (f : Nat → Value) : Laid A A lo (lo + 0) f := ⟨rfl, rfl, rfl, fun i => by rw [if_neg (by omega)]⟩
theorem Laid.step {A Ak : Cell} {lo k : Nat} {f : Nat → Value} {v : Value} (h : Laid A Ak lo k f) (hlo : lo ≤ k) (hk : k < Ak.slots.size) (hv : v = f k) : Laid A (Ak.setSlot k v) lo (k + 1) f := by
  refine ⟨h.1, h.2.1, by simpa [Cell.setSlot] using h.2.2.1, fun i => ?_⟩
  by_cases e : k = i
  · subst e; rw [Cell.slots_setSlot_self v hk, if_pos (by omega), hv]
  · rw [Cell.slots_setSlot_ne v e, h.2.2.2 i]
    by_cases q : lo ≤ i ∧ i < k
    · rw [if_pos q, if_pos (by omega)]
    · rw [if_neg q, if_neg (by omega)]
def U16 : String := "java/lang/StringUTF16"
namespace Cmp5
def yN : MethodName := ⟨"java/lang/StringUTF16", "compress", "([CI[BII)I"⟩
abbrev yB : ByteArray := jdk_52_method_21_code
theorem d0 : decode yB 0 = .ok (.iconst 0, 1) := by decide +kernel
theorem d1 : decode yB 1 = .ok (.istore 5, 2) := by decide +kernel
theorem d3 : decode yB 3 = .ok (.iload 5, 2) := by decide +kernel
theorem d5 : decode yB 5 = .ok (.iload 4, 2) := by decide +kernel
theorem d7 : decode yB 7 = .ok (.if_icmp (.ge) 37, 3) := by decide +kernel
theorem d10 : decode yB 10 = .ok (.aload_n 0, 1) := by decide +kernel
theorem d11 : decode yB 11 = .ok (.iload_n 1, 1) := by decide +kernel
theorem d12 : decode yB 12 = .ok (.caload, 1) := by decide +kernel
theorem d13 : decode yB 13 = .ok (.istore 6, 2) := by decide +kernel
theorem d15 : decode yB 15 = .ok (.iload 6, 2) := by decide +kernel
theorem d17 : decode yB 17 = .ok (.sipush 255, 3) := by decide +kernel
theorem d20 : decode yB 20 = .ok (.if_icmp (.le) 6, 3) := by decide +kernel
theorem d26 : decode yB 26 = .ok (.aload_n 2, 1) := by decide +kernel
theorem d27 : decode yB 27 = .ok (.iload_n 3, 1) := by decide +kernel
theorem d28 : decode yB 28 = .ok (.iload 6, 2) := by decide +kernel
theorem d30 : decode yB 30 = .ok (.i2b, 1) := by decide +kernel
theorem d31 : decode yB 31 = .ok (.bastore, 1) := by decide +kernel
theorem d32 : decode yB 32 = .ok (.iinc 1 1, 3) := by decide +kernel
theorem d35 : decode yB 35 = .ok (.iinc 3 1, 3) := by decide +kernel
theorem d38 : decode yB 38 = .ok (.iinc 5 1, 3) := by decide +kernel
theorem d41 : decode yB 41 = .ok (.goto (-38), 3) := by decide +kernel
theorem d44 : decode yB 44 = .ok (.iload 4, 2) := by decide +kernel
theorem d46 : decode yB 46 = .ok (.ireturn, 1) := by decide +kernel
def site : List Cond := []
def tab : Cond := tabOf yN yB 7 (some .int) site
def P (b : Addr) (A : Cell) (d : Addr) (B : Cell) (o q len : Nat) (args : Array Value) (s : State) : Prop := args = #[.ref b, .int (Int32.ofNat o), .ref d, .int (Int32.ofNat q), .int (Int32.ofNat len)] ∧ Ch b A s ∧ Arr .byte d B s ∧ b ≠ d ∧ o + len ≤ A.slots.size ∧ q + len ≤ B.slots.size ∧ ∀ i, i < len → ¬ 255 < cv A (o + i)
def E (b : Addr) (A : Cell) (d : Addr) (B : Cell) (o q len : Nat) (r : Option Value) (s u : State) : Prop := r = some (.int (Int32.ofNat len)) ∧ ∃ B', Put d B' s u ∧ Laid B B' q (q + len) (fun j => Value.int (lo8 (cv A (o + (j - q)))))
/-- no char of the range above 255: len; the places written hold each char's low byte -/
theorem law (l : Launch) (b : Addr) (A : Cell) (d : Addr) (B : Cell) (o q len : Nat) : Law l yN 5 5 0 0 yB 7 (some .int) site (P b A d B o q len) (E b A d B o q len) (copyLocs d q len) 0 0 := by
  refine Law.of_walk (plainFor_of_name (by decide +kernel)) (by decide +kernel) (by decide +kernel) (by decide) (fun _ _ h => by rw [h.1]; rfl) (fun _ U U' hal hh h => ⟨h.1, h.2.1.mv hal hh, h.2.2.1.mv hal hh, h.2.2.2⟩) (fun r U U' V V' h1 hal h2 h => ⟨h.1, h.2.elim fun B' q => ⟨B', q.1.mv h1 h2, q.2⟩⟩) ?_
  intro p e s m args below meth c s₁ X0 hexec hbytes hml hret hlk hnm hown hh0 W hP
  obtain ⟨rfl, hA, hB, hne, l1, l2, hp⟩ := hP
  have c1 : Steps p.tables e below (s₁.setTop (entryFrame m #[.ref b, .int (Int32.ofNat o), .ref d, .int (Int32.ofNat q), .int (Int32.ofNat len)] 7)) (s₁.setTop (mkF m 0 #[.val (.ref b), .val (.int (Int32.ofNat o)), .val (.ref d), .val (.int (Int32.ofNat q)), .val (.int (Int32.ofNat len)), .unset, .unset] [])) := entry rfl
  have hA0 := hA.1.mv X0.warmed.alike hh0
  have hB0 := hB.mv X0.warmed.alike hh0
  have a31 := hA.1.2.2.2
  have c2 : Steps p.tables e below (s₁.setTop (entryFrame m #[.ref b, .int (Int32.ofNat o), .ref d, .int (Int32.ofNat q), .int (Int32.ofNat len)] 7)) (s₁.setTop (mkF m 3 #[.val (.ref b), .val (.int (Int32.ofNat o)), .val (.ref d), .val (.int (Int32.ofNat q)), .val (.int (Int32.ofNat len)), .val (.int 0), .unset] [])) := c1.trans (by
    refine iconstV X0.here hexec rfl 0 (hb hbytes d0) (by decide) ?_
    refine XS.istore X0.here hexec rfl (hb hbytes d1) rfl rfl ?_
    exact Steps.refl _)
  have loop : ∀ (r i : Nat), i + r = len → ∀ (z : Slot), (z = .unset ∨ ∃ w, z = .val w ∧ w.category = 1) → ∀ (Tl : State) (Bk : Cell), Stand p l e { frames := 0, locals := 0, cells := 0, slots := 0 } s m #[.ref b, .int (Int32.ofNat o), .ref d, .int (Int32.ofNat q), .int (Int32.ofNat len)] below meth c Tl ([] ++ copyLocs d q i) 0 0 → Put d Bk s₁ Tl → Laid B Bk q (q + i) (fun j => Value.int (lo8 (cv A (o + (j - q))))) →
      Steps p.tables e below (s₁.setTop (entryFrame m #[.ref b, .int (Int32.ofNat o), .ref d, .int (Int32.ofNat q), .int (Int32.ofNat len)] 7)) (Tl.setTop (mkF m 3 #[.val (.ref b), .val (.int (Int32.ofNat (o + i))), .val (.ref d), .val (.int (Int32.ofNat (q + i))), .val (.int (Int32.ofNat len)), .val (.int (Int32.ofNat i)), z] [])) → ∃ (T' : State) (B' : Cell) (z' : Slot), Stand p l e { frames := 0, locals := 0, cells := 0, slots := 0 } s m #[.ref b, .int (Int32.ofNat o), .ref d, .int (Int32.ofNat q), .int (Int32.ofNat len)] below meth c T' ([] ++ copyLocs d q len) 0 0 ∧ Put d B' s₁ T' ∧ Laid B B' q (q + len) (fun j => Value.int (lo8 (cv A (o + (j - q))))) ∧
      Steps p.tables e below (s₁.setTop (entryFrame m #[.ref b, .int (Int32.ofNat o), .ref d, .int (Int32.ofNat q), .int (Int32.ofNat len)] 7)) (T'.setTop (mkF m 3 #[.val (.ref b), .val (.int (Int32.ofNat (o + len))), .val (.ref d), .val (.int (Int32.ofNat (q + len))), .val (.int (Int32.ofNat len)), .val (.int (Int32.ofNat len)), z'] [])) := by
    intro r
    induction r with
    | zero =>
      intro i hi z hz Tl Bk Xl pl fl cl
      have hil : i = len := by omega
      rw [hil] at Xl fl cl
      exact ⟨Tl, Bk, z, Xl, pl, fl, cl⟩
    | succ r ih =>
      intro i hi z hz Tl Bk Xl pl fl cl
      have all := X0.warmed.alike.symm.trans Xl.warmed.alike
      have hAl := hA0.keep all (pl.other hne hA0.1)
      have hBk := hB0.like all pl.1 fl.1 fl.2.1 fl.2.2.1
      have hlt : q + i < Bk.slots.size := by rw [fl.2.2.1]; omega
      have c3 : Steps p.tables e below (s₁.setTop (entryFrame m #[.ref b, .int (Int32.ofNat o), .ref d, .int (Int32.ofNat q), .int (Int32.ofNat len)] 7)) (Tl.setTop (mkF m 12 #[.val (.ref b), .val (.int (Int32.ofNat (o + i))), .val (.ref d), .val (.int (Int32.ofNat (q + i))), .val (.int (Int32.ofNat len)), .val (.int (Int32.ofNat i)), z] [.int (Int32.ofNat (o + i)), .ref b])) := cl.trans (by
        refine XS.iload Xl.here hexec rfl (hb hbytes d3) rfl ?_
        refine XS.iload Xl.here hexec rfl (hb hbytes d5) rfl ?_
        refine XS.icmpNo Xl.here hexec rfl (hb hbytes d7) rfl (ii_ge_f (lt32 (by omega) (by omega))) ?_
        refine XS.aloadN Xl.here hexec rfl (hb hbytes d10) rfl rfl ?_
        refine XS.iloadN Xl.here hexec rfl (hb hbytes d11) rfl ?_
        exact Steps.refl _)
      have c4 : Steps p.tables e below (s₁.setTop (entryFrame m #[.ref b, .int (Int32.ofNat o), .ref d, .int (Int32.ofNat q), .int (Int32.ofNat len)] 7)) (Tl.setTop (mkF m 13 #[.val (.ref b), .val (.int (Int32.ofNat (o + i))), .val (.ref d), .val (.int (Int32.ofNat (q + i))), .val (.int (Int32.ofNat len)), .val (.int (Int32.ofNat i)), z] [.int (cv A (o + i))])) := c3.trans (by
        refine Xl.aget hexec hAl rfl (hA.get (i := o + i) (by omega)) rfl rfl (hb hbytes d12) ?_
        exact Steps.refl _)
      have c5 : Steps p.tables e below (s₁.setTop (entryFrame m #[.ref b, .int (Int32.ofNat o), .ref d, .int (Int32.ofNat q), .int (Int32.ofNat len)] 7)) (Tl.setTop (mkF m 15 #[.val (.ref b), .val (.int (Int32.ofNat (o + i))), .val (.ref d), .val (.int (Int32.ofNat (q + i))), .val (.int (Int32.ofNat len)), .val (.int (Int32.ofNat i)), .val (.int (cv A (o + i)))] [])) := c4.trans (by
        refine XS.istoreS Xl.here hexec rfl (hb hbytes d13) rfl rfl hz ?_
        exact Steps.refl _)
      have c6 : Steps p.tables e below (s₁.setTop (entryFrame m #[.ref b, .int (Int32.ofNat o), .ref d, .int (Int32.ofNat q), .int (Int32.ofNat len)] 7)) (Tl.setTop (mkF m 31 #[.val (.ref b), .val (.int (Int32.ofNat (o + i))), .val (.ref d), .val (.int (Int32.ofNat (q + i))), .val (.int (Int32.ofNat len)), .val (.int (Int32.ofNat i)), .val (.int (cv A (o + i)))] [.int (lo8 (cv A (o + i))), .int (Int32.ofNat (q + i)), .ref d])) := c5.trans (by
        refine XS.iload Xl.here hexec rfl (hb hbytes d15) rfl ?_
        refine sipushV Xl.here hexec rfl 255 (hb hbytes d17) (by decide) ?_
        refine XS.icmpYes Xl.here hexec rfl (pc0 := 20) rfl (hb hbytes d20) rfl (ii_le_t (hp i (by omega))) (by decide) rfl ?_
        refine XS.aloadN Xl.here hexec rfl (hb hbytes d26) rfl rfl ?_
        refine XS.iloadN Xl.here hexec rfl (hb hbytes d27) rfl ?_
        refine XS.iload Xl.here hexec rfl (hb hbytes d28) rfl ?_
        refine i2b Xl.here hexec rfl (hb hbytes d30) rfl ?_
        exact Steps.refl _)
      obtain ⟨T7, X7, p7, st7⟩ := Xl.aput hexec hBk rfl hlt rfl (fits_lo8 (cv A (o + i))) (g := (mkF m 31 #[.val (.ref b), .val (.int (Int32.ofNat (o + i))), .val (.ref d), .val (.int (Int32.ofNat (q + i))), .val (.int (Int32.ofNat len)), .val (.int (Int32.ofNat i)), .val (.int (cv A (o + i)))] [.int (lo8 (cv A (o + i))), .int (Int32.ofNat (q + i)), .ref d])) rfl (rest := []) rfl (hb hbytes d31)
      have c8 : Steps p.tables e below (s₁.setTop (entryFrame m #[.ref b, .int (Int32.ofNat o), .ref d, .int (Int32.ofNat q), .int (Int32.ofNat len)] 7)) (T7.setTop (mkF m 32 #[.val (.ref b), .val (.int (Int32.ofNat (o + i))), .val (.ref d), .val (.int (Int32.ofNat (q + i))), .val (.int (Int32.ofNat len)), .val (.int (Int32.ofNat i)), .val (.int (cv A (o + i)))] [])) := c6.trans (st7 _ (Steps.refl _))
      have c9 : Steps p.tables e below (s₁.setTop (entryFrame m #[.ref b, .int (Int32.ofNat o), .ref d, .int (Int32.ofNat q), .int (Int32.ofNat len)] 7)) (T7.setTop (mkF m 3 #[.val (.ref b), .val (.int (Int32.ofNat (o + i) + 1)), .val (.ref d), .val (.int (Int32.ofNat (q + i) + 1)), .val (.int (Int32.ofNat len)), .val (.int (Int32.ofNat i + 1)), .val (.int (cv A (o + i)))] [])) := c8.trans (by
        refine iincV X7.here hexec rfl 1 (hb hbytes d32) (by decide) rfl rfl ?_
        refine iincV X7.here hexec rfl 1 (hb hbytes d35) (by decide) rfl rfl ?_
        refine iincV X7.here hexec rfl 1 (hb hbytes d38) (by decide) rfl rfl ?_
        refine XS.goto X7.here hexec rfl (pc0 := 41) rfl (hb hbytes d41) (by decide) rfl ?_
        exact Steps.refl _)
      have c10 : Steps p.tables e below (s₁.setTop (entryFrame m #[.ref b, .int (Int32.ofNat o), .ref d, .int (Int32.ofNat q), .int (Int32.ofNat len)] 7)) (T7.setTop (mkF m 3 #[.val (.ref b), .val (.int (Int32.ofNat (o + (i + 1)))), .val (.ref d), .val (.int (Int32.ofNat (q + (i + 1)))), .val (.int (Int32.ofNat len)), .val (.int (Int32.ofNat (i + 1))), .val (.int (cv A (o + i)))] [])) := by
        have := c9
        rw [succ32, succ32, succ32] at this
        exact this
      exact ih (i + 1) (by omega) _ (Or.inr ⟨_, rfl, rfl⟩) T7 _ (by rw [copyLocs_step, ← List.append_assoc]; exact X7) (pl.trans p7) (fl.step (by omega) hlt (by simp)) c10
  obtain ⟨T9, B9, z9, X9, p9, f9, g9⟩ := loop len 0 (by omega) .unset (Or.inl rfl) s₁ B (by simpa [copyLocs] using X0) ⟨hB0.1, fun _ _ => rfl, rfl⟩ (Laid.zero _ _ _) c2
  have c11 : Steps p.tables e below (s₁.setTop (entryFrame m #[.ref b, .int (Int32.ofNat o), .ref d, .int (Int32.ofNat q), .int (Int32.ofNat len)] 7)) (T9.setTop (mkF m 46 #[.val (.ref b), .val (.int (Int32.ofNat (o + len))), .val (.ref d), .val (.int (Int32.ofNat (q + len))), .val (.int (Int32.ofNat len)), .val (.int (Int32.ofNat len)), z9] [.int (Int32.ofNat len)])) := g9.trans (by
    refine XS.iload X9.here hexec rfl (hb hbytes d3) rfl ?_
    refine XS.iload X9.here hexec rfl (hb hbytes d5) rfl ?_
    refine XS.icmpYes X9.here hexec rfl (pc0 := 7) rfl (hb hbytes d7) rfl (ii_ge_t (nlt32 (by omega) (Nat.le_refl _))) (by decide) rfl ?_
    refine XS.iload X9.here hexec rfl (hb hbytes d44) rfl ?_
    exact Steps.refl _)
  exact ⟨T9, some (.int (Int32.ofNat len)), _, _, _, X9, by simp, rfl, rfl, (fun h => by cases h), ⟨rfl, B9, p9.from hh0, f9⟩, fun fs hl => c11.trans (X9.ireturnOut hexec hret rfl (Or.inl rfl) (hb hbytes d46) hl)⟩
end Cmp5
namespace Cmp3
def yN : MethodName := ⟨"java/lang/StringUTF16", "compress", "([CII)[B"⟩
abbrev yB : ByteArray := jdk_52_method_16_code
theorem d0 : decode yB 0 = .ok (.iload_n 2, 1) := by decide +kernel
theorem d1 : decode yB 1 = .ok (.newarray .byte, 2) := by decide +kernel
theorem d3 : decode yB 3 = .ok (.astore_n 3, 1) := by decide +kernel
theorem d4 : decode yB 4 = .ok (.aload_n 0, 1) := by decide +kernel
theorem d5 : decode yB 5 = .ok (.iload_n 1, 1) := by decide +kernel
theorem d6 : decode yB 6 = .ok (.aload_n 3, 1) := by decide +kernel
theorem d7 : decode yB 7 = .ok (.iconst 0, 1) := by decide +kernel
theorem d8 : decode yB 8 = .ok (.iload_n 2, 1) := by decide +kernel
theorem d9 : decode yB 9 = .ok (.invokestatic 115, 3) := by decide +kernel
theorem d12 : decode yB 12 = .ok (.istore 4, 2) := by decide +kernel
theorem d14 : decode yB 14 = .ok (.iload 4, 2) := by decide +kernel
theorem d16 : decode yB 16 = .ok (.iload_n 2, 1) := by decide +kernel
theorem d17 : decode yB 17 = .ok (.if_icmp (.eq) 40, 3) := by decide +kernel
theorem d57 : decode yB 57 = .ok (.aload_n 3, 1) := by decide +kernel
theorem d58 : decode yB 58 = .ok (.areturn, 1) := by decide +kernel
def site : List Cond := [.arrayClass .byte, Cmp5.tab] ++ staticW U16 115 Cmp5.yN
def tab : Cond := tabOf yN yB 6 (some (.array .byte)) site
def P (b : Addr) (A : Cell) (o len : Nat) (args : Array Value) (s : State) : Prop := args = #[.ref b, .int (Int32.ofNat o), .int (Int32.ofNat len)] ∧ Ch b A s ∧ o + len ≤ A.slots.size ∧ len ≤ 536870912 ∧ ∀ i, i < len → ¬ 255 < cv A (o + i)
def E (b : Addr) (A : Cell) (o len : Nat) (r : Option Value) (s u : State) : Prop := NewArr .byte "[B" len (fun j => .int (lo8 (cv A (o + j)))) r s u ∧ u.heap.size = s.heap.size + 1
/-- no char of the range above 255: a new byte[] of their low bytes -/
theorem law (l : Launch) (b : Addr) (A : Cell) (o len : Nat) : Law l yN 3 3 1 18 yB 6 (some (.array .byte)) site (P b A o len) (E b A o len) [] 1 len := by
  refine Law.of_walk (plainFor_of_name (by decide +kernel)) (by decide +kernel) (by decide +kernel) (by decide) (fun _ _ h => by rw [h.1]; rfl) (fun _ U U' hal hh h => ⟨h.1, h.2.1.mv hal hh, h.2.2⟩) (fun r U U' V V' h1 hal h2 h => ⟨NewArr.mv r U U' V V' h1 hal h2 h.1, by rw [h1, h2]; exact h.2⟩) ?_
  intro p e s m args below meth c s₁ X0 hexec hbytes hml hret hlk hnm hown hh0 W hP
  obtain ⟨rfl, hA, l1, l2, hp⟩ := hP
  have a31 := hA.1.2.2.2
  have c1 : Steps p.tables e below (s₁.setTop (entryFrame m #[.ref b, .int (Int32.ofNat o), .int (Int32.ofNat len)] 6)) (s₁.setTop (mkF m 0 #[.val (.ref b), .val (.int (Int32.ofNat o)), .val (.int (Int32.ofNat len)), .unset, .unset, .unset] [])) := entry rfl
  have c2 : Steps p.tables e below (s₁.setTop (entryFrame m #[.ref b, .int (Int32.ofNat o), .int (Int32.ofNat len)] 6)) (s₁.setTop (mkF m 1 #[.val (.ref b), .val (.int (Int32.ofNat o)), .val (.int (Int32.ofNat len)), .unset, .unset, .unset] [.int (Int32.ofNat len)])) := c1.trans (by
    refine XS.iloadN X0.here hexec rfl (hb hbytes d0) rfl ?_
    exact Steps.refl _)
  obtain ⟨T3, B3, X3, ba3, bs3, bv3, bh3, bf3, st3⟩ := X0.anew hexec (atype := .byte) (wk W (.arrayClass .byte)) rfl (by show len * 1 ≤ _; omega) (by omega) (g := (mkF m 1 #[.val (.ref b), .val (.int (Int32.ofNat o)), .val (.int (Int32.ofNat len)), .unset, .unset, .unset] [.int (Int32.ofNat len)])) rfl (hb hbytes d1) (rest := []) rfl (Nat.le_refl _) (by show 0 + len ≤ len; omega)
  rw [hh0] at ba3 st3
  have kp3 : XT.Kept s T3 := (XT.Kept.of_eq hh0).push bh3
  have hA3 := hA.keep X3.warmed.alike (kp3 _ _ hA.1.1)
  have hne : b ≠ s.heap.size := hA.1.ne
  have c4 : Steps p.tables e below (s₁.setTop (entryFrame m #[.ref b, .int (Int32.ofNat o), .int (Int32.ofNat len)] 6)) (T3.setTop (mkF m 3 #[.val (.ref b), .val (.int (Int32.ofNat o)), .val (.int (Int32.ofNat len)), .unset, .unset, .unset] [.ref s.heap.size])) := c2.trans (st3 _ (Steps.refl _))
  have c5 : Steps p.tables e below (s₁.setTop (entryFrame m #[.ref b, .int (Int32.ofNat o), .int (Int32.ofNat len)] 6)) (T3.setTop (mkF m 9 #[.val (.ref b), .val (.int (Int32.ofNat o)), .val (.int (Int32.ofNat len)), .val (.ref s.heap.size), .unset, .unset] [.int (Int32.ofNat len), .int 0, .ref s.heap.size, .int (Int32.ofNat o), .ref b])) := c4.trans (by
    refine XS.astoreN X3.here hexec rfl (hb hbytes d3) rfl rfl rfl ?_
    refine XS.aloadN X3.here hexec rfl (hb hbytes d4) rfl rfl ?_
    refine XS.iloadN X3.here hexec rfl (hb hbytes d5) rfl ?_
    refine XS.aloadN X3.here hexec rfl (hb hbytes d6) rfl rfl ?_
    refine iconstV X3.here hexec rfl 0 (hb hbytes d7) (by decide) ?_
    refine XS.iloadN X3.here hexec rfl (hb hbytes d8) rfl ?_
    exact Steps.refl _)
  obtain ⟨v6, T6, X6, E6, g6⟩ := X3.callS hexec (Cmp5.law l b A s.heap.size B3 o 0 len) hown (wks W (staticW U16 115 Cmp5.yN)) (wk W Cmp5.tab) (W := 0) (Nat.le_of_ble_eq_true rfl) (Nat.le_of_ble_eq_true rfl) (Nat.le_refl _) (by show 0 + len + 0 ≤ len; omega) (g := (mkF m 9 #[.val (.ref b), .val (.int (Int32.ofNat o)), .val (.int (Int32.ofNat len)), .val (.ref s.heap.size), .unset, .unset] [.int (Int32.ofNat len), .int (Int32.ofNat 0), .ref s.heap.size, .int (Int32.ofNat o), .ref b])) rfl (by rw [hml]; rfl) c5 (argsL := [.ref b, .int (Int32.ofNat o), .ref s.heap.size, .int (Int32.ofNat 0), .int (Int32.ofNat len)]) (rest := []) rfl rfl (by show 2 * 0 + 0 ≤ _; decide) (hb hbytes d9) (⟨rfl, hA3, ba3, hne, l1, by rw [bs3]; simp, hp⟩)
  obtain ⟨rfl, B6, p6, f6⟩ := E6
  have c7 : Steps p.tables e below (s₁.setTop (entryFrame m #[.ref b, .int (Int32.ofNat o), .int (Int32.ofNat len)] 6)) (T6.setTop (mkF m 12 #[.val (.ref b), .val (.int (Int32.ofNat o)), .val (.int (Int32.ofNat len)), .val (.ref s.heap.size), .unset, .unset] [.int (Int32.ofNat len)])) := g6
  have c8 : Steps p.tables e below (s₁.setTop (entryFrame m #[.ref b, .int (Int32.ofNat o), .int (Int32.ofNat len)] 6)) (T6.setTop (mkF m 58 #[.val (.ref b), .val (.int (Int32.ofNat o)), .val (.int (Int32.ofNat len)), .val (.ref s.heap.size), .val (.int (Int32.ofNat len)), .unset] [.ref s.heap.size])) := c7.trans (by
    refine XS.istore X6.here hexec rfl (hb hbytes d12) rfl rfl ?_
    refine XS.iload X6.here hexec rfl (hb hbytes d14) rfl ?_
    refine XS.iloadN X6.here hexec rfl (hb hbytes d16) rfl ?_
    refine XS.icmpYes X6.here hexec rfl (pc0 := 17) rfl (hb hbytes d17) rfl (ii_eq_t rfl) (by decide) rfl ?_
    refine XS.aloadN X6.here hexec rfl (hb hbytes d57) rfl rfl ?_
    exact Steps.refl _)
  have X8 := X6.wide (L' := []) (cells' := 1) (slots' := len) (fun x hx hlt => by
    simp only [List.nil_append, copyLocs, List.mem_map, List.mem_range] at hx
    obtain ⟨i, -, rfl⟩ := hx
    exact absurd hlt (Nat.lt_irrefl _)) (Nat.le_refl _) (by omega)
  exact ⟨T6, some (.ref s.heap.size), _, _, _, X8, rfl, rfl, rfl, (fun h => by cases h), ⟨⟨rfl, B6, ba3.like (X3.warmed.alike.symm.trans X6.warmed.alike) p6.1 f6.1 f6.2.1 f6.2.2.1, f6.2.1.trans bv3, by rw [X6.warmed.alike.findClass, f6.1]; exact bf3, by rw [f6.2.2.1, bs3]; simp, fun j hj => by rw [f6.2.2.2 j, if_pos (by omega)]; rfl, kp3.put p6 (Nat.le_refl _)⟩, by rw [p6.2.2, bh3, hh0]; simp⟩, fun fs hl => c8.trans (X8.areturnOut hexec rfl hret rfl (hb hbytes d58) hl)⟩
end Cmp3
namespace CodL
def yN : MethodName := ⟨"java/lang/StringUTF16", "coderFromArrayLen", "([BI)B"⟩
abbrev yB : ByteArray := jdk_52_method_15_code
theorem d0 : decode yB 0 = .ok (.iload_n 1, 1) := by decide +kernel
theorem d1 : decode yB 1 = .ok (.aload_n 0, 1) := by decide +kernel
theorem d2 : decode yB 2 = .ok (.arraylength, 1) := by decide +kernel
theorem d3 : decode yB 3 = .ok (.isub, 1) := by decide +kernel
theorem d4 : decode yB 4 = .ok (.bipush 31, 2) := by decide +kernel
theorem d6 : decode yB 6 = .ok (.iushr, 1) := by decide +kernel
theorem d7 : decode yB 7 = .ok (.i2b, 1) := by decide +kernel
theorem d8 : decode yB 8 = .ok (.ireturn, 1) := by decide +kernel
def site : List Cond := []
def tab : Cond := tabOf yN yB 2 (some .byte) site
def P (d : Addr) (B : Cell) (args : Array Value) (s : State) : Prop := args = #[.ref d, .int (Int32.ofNat B.slots.size)] ∧ Arr .byte d B s
def E (r : Option Value) (s u : State) : Prop := XT.PureE (some (.int 0)) r s u
/-- an array as long as the number of chars: LATIN1 -/
theorem law (l : Launch) (d : Addr) (B : Cell) : Law l yN 2 2 0 0 yB 2 (some .byte) site (P d B) E [] 0 0 := by
  refine Law.of_walk (plainFor_of_name (by decide +kernel)) (by decide +kernel) (by decide +kernel) (by decide) (fun _ _ h => by rw [h.1]; rfl) (fun _ U U' hal hh h => ⟨h.1, h.2.mv hal hh⟩) (fun r U U' V V' h1 hal h2 h => XT.PureE.mv r U U' V V' h1 hal h2 h) ?_
  intro p e s m args below meth c s₁ X0 hexec hbytes hml hret hlk hnm hown hh0 W hP
  obtain ⟨rfl, hB⟩ := hP
  have hB0 := hB.mv X0.warmed.alike hh0
  have c1 : Steps p.tables e below (s₁.setTop (entryFrame m #[.ref d, .int (Int32.ofNat B.slots.size)] 2)) (s₁.setTop (mkF m 0 #[.val (.ref d), .val (.int (Int32.ofNat B.slots.size))] [])) := entry rfl
  have c2 : Steps p.tables e below (s₁.setTop (entryFrame m #[.ref d, .int (Int32.ofNat B.slots.size)] 2)) (s₁.setTop (mkF m 2 #[.val (.ref d), .val (.int (Int32.ofNat B.slots.size))] [.ref d, .int (Int32.ofNat B.slots.size)])) := c1.trans (by
    refine XS.iloadN X0.here hexec rfl (hb hbytes d0) rfl ?_
    refine XS.aloadN X0.here hexec rfl (hb hbytes d1) rfl rfl ?_
    exact Steps.refl _)
  have c3 : Steps p.tables e below (s₁.setTop (entryFrame m #[.ref d, .int (Int32.ofNat B.slots.size)] 2)) (s₁.setTop (mkF m 8 #[.val (.ref d), .val (.int (Int32.ofNat B.slots.size))] [.int (lo8 (ushr (Int32.ofNat B.slots.size - Int32.ofNat B.slots.size) 31))])) := c2.trans (by
    refine X0.alen hexec hB0 rfl rfl (hb hbytes d2) ?_
    refine XS.isub X0.here hexec rfl (hb hbytes d3) rfl ?_
    refine bipushV X0.here hexec rfl 31 (hb hbytes d4) (by decide) ?_
    refine iushr X0.here hexec rfl (hb hbytes d6) rfl ?_
    refine i2b X0.here hexec rfl (hb hbytes d7) rfl ?_
    exact Steps.refl _)
  have e0 : lo8 (ushr (Int32.ofNat B.slots.size - Int32.ofNat B.slots.size) 31) = 0 := by rw [Int32.sub_self]; decide
  rw [e0] at c3
  exact ⟨s₁, some (.int 0), _, _, _, X0, rfl, rfl, rfl, (fun h => by cases h), ⟨rfl, hh0⟩, fun fs hl => c3.trans (X0.ireturnOut hexec hret rfl (Or.inr (Or.inr (Or.inl rfl))) (hb hbytes d8) hl)⟩
end CodL
/-- the String at a is Latin-1 over a new byte[] (the heap's one new cell): the low bytes of the len chars of A from o on; every cell but a is kept -/
def Got (a : Addr) (D : Cell) (fV fC : Field) (A : Cell) (o len : Nat) (r : Option Value) (s u : State) : Prop := r = none ∧ ∃ D' V : Cell, Blank "java/lang/String" a D' u ∧ Same D D' [fV.slot, fC.slot] ∧ D'.slots[fV.slot]? = some (.ref s.heap.size) ∧ D'.slots[fC.slot]? = some (.int 0) ∧ Arr .byte s.heap.size V u ∧ V.vm = .none ∧ u.vm.findClass "[B" = some V.cls ∧ V.slots.size = len ∧ (∀ j, j < len → V.slots[j]? = some (.int (lo8 (cv A (o + j))))) ∧ (∀ (y : Addr) (c : Cell), y ≠ a → s.heap[y]? = some c → u.heap[y]? = some c) ∧ u.heap.size = s.heap.size + 1
theorem Got.mv {a : Addr} {D A : Cell} {fV fC : Field} {o len : Nat} : ∀ r (U U' V V' : State), U'.heap = U.heap → V.vm.Alike V'.vm → V'.heap = V.heap → Got a D fV fC A o len r U V → Got a D fV fC A o len r U' V' :=
  fun r U U' V V' h1 hal h2 ⟨e0, D', X, a1, a2, a3, a4, a5, a6, a7, a8, a9, a10, a11⟩ => ⟨e0, D', X, a1.mv hal h2, a2, by rw [h1]; exact a3, a4, by rw [h1]; exact a5.mv hal h2, a6, by rw [hal.findClass]; exact a7, a8, a9, by rw [h1, h2]; exact a10, by rw [h1, h2]; exact a11⟩
namespace New4
def yN : MethodName := ⟨"java/lang/String", "<init>", "([CIILjava/lang/Void;)V"⟩
abbrev yB : ByteArray := jdk_42_method_149_code
theorem d0 : decode yB 0 = .ok (.aload_n 0, 1) := by decide +kernel
theorem d1 : decode yB 1 = .ok (.invokespecial 1, 3) := by decide +kernel
theorem d4 : decode yB 4 = .ok (.iload_n 3, 1) := by decide +kernel
theorem d5 : decode yB 5 = .ok (.ifCond (.ne) 22, 3) := by decide +kernel
theorem d27 : decode yB 27 = .ok (.getstatic 38, 3) := by decide +kernel
theorem d30 : decode yB 30 = .ok (.ifCond (.eq) 28, 3) := by decide +kernel
theorem d33 : decode yB 33 = .ok (.aload_n 1, 1) := by decide +kernel
theorem d34 : decode yB 34 = .ok (.iload_n 2, 1) := by decide +kernel
theorem d35 : decode yB 35 = .ok (.iload_n 3, 1) := by decide +kernel
theorem d36 : decode yB 36 = .ok (.invokestatic 177, 3) := by decide +kernel
theorem d39 : decode yB 39 = .ok (.astore 5, 2) := by decide +kernel
theorem d41 : decode yB 41 = .ok (.aload_n 0, 1) := by decide +kernel
theorem d42 : decode yB 42 = .ok (.aload 5, 2) := by decide +kernel
theorem d44 : decode yB 44 = .ok (.iload_n 3, 1) := by decide +kernel
theorem d45 : decode yB 45 = .ok (.invokestatic 47, 3) := by decide +kernel
theorem d48 : decode yB 48 = .ok (.putfield 15, 3) := by decide +kernel
theorem d51 : decode yB 51 = .ok (.aload_n 0, 1) := by decide +kernel
theorem d52 : decode yB 52 = .ok (.aload 5, 2) := by decide +kernel
theorem d54 : decode yB 54 = .ok (.putfield 9, 3) := by decide +kernel
theorem d57 : decode yB 57 = .ok (.return_, 1) := by decide +kernel
def site : List Cond := [.fieldLink "java/lang/String" 38 "java/lang/String" "COMPACT_STRINGS" "Z", Cmp3.tab, CodL.tab, .laysFinal "java/lang/String" "java/lang/String" "value" "[B", .fieldLink "java/lang/String" 9 "java/lang/String" "value" "[B", .laysFinal "java/lang/String" "java/lang/String" "coder" "B", .fieldLink "java/lang/String" 15 "java/lang/String" "coder" "B"] ++ objW "java/lang/String" 1 ++ staticW "java/lang/String" 177 Cmp3.yN ++ staticW "java/lang/String" 47 CodL.yN
def tab : Cond := tabOf yN yB 6 none site
def P (a : Addr) (D : Cell) (fV fC : Field) (b : Addr) (A : Cell) (z : Int32) (o len : Nat) (args : Array Value) (s : State) : Prop := args = #[.ref a, .ref b, .int (Int32.ofNat o), .int (Int32.ofNat len), .null] ∧ Blank "java/lang/String" a D s ∧ Found "java/lang/String" "value" "[B" fV s ∧ Found "java/lang/String" "coder" "B" fC s ∧ Ch b A s ∧ StaticIs s "java/lang/String" "COMPACT_STRINGS" "Z" (.int z) ∧ ¬ z = 0 ∧ 0 < len ∧ o + len ≤ A.slots.size ∧ len ≤ 536870912 ∧ ∀ i, i < len → ¬ 255 < cv A (o + i)
def E (a : Addr) (D : Cell) (fV fC : Field) (A : Cell) (o len : Nat) (r : Option Value) (s u : State) : Prop := Got a D fV fC A o len r s u
/-- len > 0, no char of the range above 255: a Latin-1 String of their low bytes -/
theorem law (l : Launch) (a : Addr) (D : Cell) (fV fC : Field) (b : Addr) (A : Cell) (z : Int32) (o len : Nat) : Law l yN 5 4 2 35 yB 6 none site (P a D fV fC b A z o len) (E a D fV fC A o len) [⟨a, fC.slot⟩, ⟨a, fV.slot⟩] 1 len := by
  refine Law.of_walk (plainFor_of_name (by decide +kernel)) (by decide +kernel) (by decide +kernel) (by decide) (fun _ _ h => by rw [h.1]; rfl) (fun _ U U' hal hh h => ⟨h.1, h.2.1.mv hal hh, h.2.2.1.al hal, h.2.2.2.1.al hal, h.2.2.2.2.1.mv hal hh, h.2.2.2.2.2.1.there hal hh, h.2.2.2.2.2.2⟩) (fun r U U' V V' h1 hal h2 h => Got.mv r U U' V V' h1 hal h2 h) ?_
  intro p e s m args below meth c s₁ X0 hexec hbytes hml hret hlk hnm hown hh0 W hP
  obtain ⟨rfl, hB, f1, f2, hA, s1, hz, l0, l1, l2, hp⟩ := hP
  have a31 := hA.1.2.2.2
  have c1 : Steps p.tables e below (s₁.setTop (entryFrame m #[.ref a, .ref b, .int (Int32.ofNat o), .int (Int32.ofNat len), .null] 6)) (s₁.setTop (mkF m 0 #[.val (.ref a), .val (.ref b), .val (.int (Int32.ofNat o)), .val (.int (Int32.ofNat len)), .val .null, .unset] [])) := entry rfl
  have c2 : Steps p.tables e below (s₁.setTop (entryFrame m #[.ref a, .ref b, .int (Int32.ofNat o), .int (Int32.ofNat len), .null] 6)) (s₁.setTop (mkF m 1 #[.val (.ref a), .val (.ref b), .val (.int (Int32.ofNat o)), .val (.int (Int32.ofNat len)), .val .null, .unset] [.ref a])) := c1.trans (by
    refine XS.aloadN X0.here hexec rfl (hb hbytes d0) rfl rfl ?_
    exact Steps.refl _)
  obtain ⟨T3, X3, q3, st3⟩ := X0.oinit hexec hown (wks W (objW "java/lang/String" 1)) (g := (mkF m 1 #[.val (.ref a), .val (.ref b), .val (.int (Int32.ofNat o)), .val (.int (Int32.ofNat len)), .val .null, .unset] [.ref a])) rfl (by rw [hml]; rfl) (rest := []) rfl (hb hbytes d1) (W := 0) (by show 2 * 0 + 0 ≤ _; decide) (Nat.le_of_ble_eq_true rfl) (Nat.le_of_ble_eq_true rfl)
  have hh3 := q3.trans hh0
  have c4 : Steps p.tables e below (s₁.setTop (entryFrame m #[.ref a, .ref b, .int (Int32.ofNat o), .int (Int32.ofNat len), .null] 6)) (T3.setTop (mkF m 27 #[.val (.ref a), .val (.ref b), .val (.int (Int32.ofNat o)), .val (.int (Int32.ofNat len)), .val .null, .unset] [])) := (c2.trans (st3 _ (Steps.refl _))).trans (by
    refine XS.iloadN X3.here hexec rfl (hb hbytes d4) rfl ?_
    refine XS.ifYes X3.here hexec rfl (pc0 := 5) rfl (hb hbytes d5) rfl (i0_ne_t (nz32 (by omega) l0)) (by decide) rfl ?_
    exact Steps.refl _)
  obtain ⟨T5, X5, q5, st5⟩ := X3.sget hexec hown (wk W (.fieldLink "java/lang/String" 38 "java/lang/String" "COMPACT_STRINGS" "Z")) s1 (fun _ _ h => by rw [hh3]; exact h) (g := (mkF m 27 #[.val (.ref a), .val (.ref b), .val (.int (Int32.ofNat o)), .val (.int (Int32.ofNat len)), .val .null, .unset] [])) rfl (hb hbytes d27)
  have hh5 := q5.trans hh3
  have c6 : Steps p.tables e below (s₁.setTop (entryFrame m #[.ref a, .ref b, .int (Int32.ofNat o), .int (Int32.ofNat len), .null] 6)) (T5.setTop (mkF m 30 #[.val (.ref a), .val (.ref b), .val (.int (Int32.ofNat o)), .val (.int (Int32.ofNat len)), .val .null, .unset] [.int z])) := c4.trans (st5 _ (Steps.refl _))
  have c7 : Steps p.tables e below (s₁.setTop (entryFrame m #[.ref a, .ref b, .int (Int32.ofNat o), .int (Int32.ofNat len), .null] 6)) (T5.setTop (mkF m 36 #[.val (.ref a), .val (.ref b), .val (.int (Int32.ofNat o)), .val (.int (Int32.ofNat len)), .val .null, .unset] [.int (Int32.ofNat len), .int (Int32.ofNat o), .ref b])) := c6.trans (by
    refine XS.ifNo X5.here hexec rfl (hb hbytes d30) rfl (i0_eq_f hz) ?_
    refine XS.aloadN X5.here hexec rfl (hb hbytes d33) rfl rfl ?_
    refine XS.iloadN X5.here hexec rfl (hb hbytes d34) rfl ?_
    refine XS.iloadN X5.here hexec rfl (hb hbytes d35) rfl ?_
    exact Steps.refl _)
  obtain ⟨v8, T8, X8, E8, g8⟩ := X5.callS hexec (Cmp3.law l b A o len) hown (wks W (staticW "java/lang/String" 177 Cmp3.yN)) (wk W Cmp3.tab) (W := 0) (Nat.le_of_ble_eq_true rfl) (Nat.le_of_ble_eq_true rfl) (Nat.le_refl _) (by show 0 + len ≤ len; omega) (g := (mkF m 36 #[.val (.ref a), .val (.ref b), .val (.int (Int32.ofNat o)), .val (.int (Int32.ofNat len)), .val .null, .unset] [.int (Int32.ofNat len), .int (Int32.ofNat o), .ref b])) rfl (by rw [hml]; rfl) c7 (argsL := [.ref b, .int (Int32.ofNat o), .int (Int32.ofNat len)]) (rest := []) rfl rfl (by show 2 * 0 + 0 ≤ _; decide) (hb hbytes d36) (⟨rfl, hA.mv X5.warmed.alike hh5, l1, l2, hp⟩)
  obtain ⟨e8, z8⟩ := E8
  obtain ⟨rfl, N, n1, n2, n3, n4, n5, n6⟩ := NewArr.mv _ T5 s _ _ hh5.symm (Vm.Alike.refl _) rfl e8
  rw [hh5] at z8
  have hB1 := hB.keep X8.warmed.alike (n6 _ _ hB.1)
  have hne : s.heap.size ≠ a := (Nat.ne_of_lt (Array.getElem?_eq_some_iff.mp hB.1).1).symm
  have c9 : Steps p.tables e below (s₁.setTop (entryFrame m #[.ref a, .ref b, .int (Int32.ofNat o), .int (Int32.ofNat len), .null] 6)) (T8.setTop (mkF m 39 #[.val (.ref a), .val (.ref b), .val (.int (Int32.ofNat o)), .val (.int (Int32.ofNat len)), .val .null, .unset] [.ref s.heap.size])) := g8
  have c10 : Steps p.tables e below (s₁.setTop (entryFrame m #[.ref a, .ref b, .int (Int32.ofNat o), .int (Int32.ofNat len), .null] 6)) (T8.setTop (mkF m 45 #[.val (.ref a), .val (.ref b), .val (.int (Int32.ofNat o)), .val (.int (Int32.ofNat len)), .val .null, .val (.ref s.heap.size)] [.int (Int32.ofNat N.slots.size), .ref s.heap.size, .ref a])) := by
    have hc : Steps p.tables e below (s₁.setTop (entryFrame m #[.ref a, .ref b, .int (Int32.ofNat o), .int (Int32.ofNat len), .null] 6)) (T8.setTop (mkF m 45 #[.val (.ref a), .val (.ref b), .val (.int (Int32.ofNat o)), .val (.int (Int32.ofNat len)), .val .null, .val (.ref s.heap.size)] [.int (Int32.ofNat len), .ref s.heap.size, .ref a])) := c9.trans (by
      refine XS.astore X8.here hexec rfl (hb hbytes d39) rfl rfl rfl ?_
      refine XS.aloadN X8.here hexec rfl (hb hbytes d41) rfl rfl ?_
      refine XS.aload X8.here hexec rfl (hb hbytes d42) rfl rfl ?_
      refine XS.iloadN X8.here hexec rfl (hb hbytes d44) rfl ?_
      exact Steps.refl _)
    rw [n4]; exact hc
  obtain ⟨v11, T11, X11, E11, g11⟩ := X8.callS hexec (CodL.law l s.heap.size N) hown (wks W (staticW "java/lang/String" 47 CodL.yN)) (wk W CodL.tab) (W := 1) (Nat.le_of_ble_eq_true rfl) (Nat.le_of_ble_eq_true rfl) (Nat.le_refl _) (by show 0 + len + 0 ≤ len; omega) (g := (mkF m 45 #[.val (.ref a), .val (.ref b), .val (.int (Int32.ofNat o)), .val (.int (Int32.ofNat len)), .val .null, .val (.ref s.heap.size)] [.int (Int32.ofNat N.slots.size), .ref s.heap.size, .ref a])) rfl (by rw [hml]; rfl) c10 (argsL := [.ref s.heap.size, .int (Int32.ofNat N.slots.size)]) (rest := [.ref a]) rfl rfl (by show 2 * 0 + (1 + 0) ≤ _; decide) (hb hbytes d45) (⟨rfl, n1⟩)
  obtain ⟨rfl, q11⟩ := E11
  have hB11 := hB1.mv (X8.warmed.alike.symm.trans X11.warmed.alike) q11
  have c12 : Steps p.tables e below (s₁.setTop (entryFrame m #[.ref a, .ref b, .int (Int32.ofNat o), .int (Int32.ofNat len), .null] 6)) (T11.setTop (mkF m 48 #[.val (.ref a), .val (.ref b), .val (.int (Int32.ofNat o)), .val (.int (Int32.ofNat len)), .val .null, .val (.ref s.heap.size)] [.int 0, .ref a])) := g11
  obtain ⟨T13, X13, p13, bl13, sl13, st13⟩ := X11.finit hexec hown (wk W (.fieldLink "java/lang/String" 15 "java/lang/String" "coder" "B")) (Or.inr ⟨_, (wk W (.laysFinal "java/lang/String" "java/lang/String" "coder" "B"))⟩) (Or.inl ⟨rfl, hnm⟩) f2 (Or.inl rfl) hB11 (t := .byte) (by decide +kernel) rfl (g := (mkF m 48 #[.val (.ref a), .val (.ref b), .val (.int (Int32.ofNat o)), .val (.int (Int32.ofNat len)), .val .null, .val (.ref s.heap.size)] [.int 0, .ref a])) rfl (rest := []) rfl (hb hbytes d48)
  have c14 : Steps p.tables e below (s₁.setTop (entryFrame m #[.ref a, .ref b, .int (Int32.ofNat o), .int (Int32.ofNat len), .null] 6)) (T13.setTop (mkF m 54 #[.val (.ref a), .val (.ref b), .val (.int (Int32.ofNat o)), .val (.int (Int32.ofNat len)), .val .null, .val (.ref s.heap.size)] [.ref s.heap.size, .ref a])) := (c12.trans (st13 _ (Steps.refl _))).trans (by
    refine XS.aloadN X13.here hexec rfl (hb hbytes d51) rfl rfl ?_
    refine XS.aload X13.here hexec rfl (hb hbytes d52) rfl rfl ?_
    exact Steps.refl _)
  obtain ⟨T15, X15, p15, bl15, sl15, st15⟩ := X13.finit hexec hown (wk W (.fieldLink "java/lang/String" 9 "java/lang/String" "value" "[B")) (Or.inr ⟨_, (wk W (.laysFinal "java/lang/String" "java/lang/String" "value" "[B"))⟩) (Or.inl ⟨rfl, hnm⟩) f1 (Or.inl rfl) bl13 (t := (.array .byte)) (by decide +kernel) rfl (g := (mkF m 54 #[.val (.ref a), .val (.ref b), .val (.int (Int32.ofNat o)), .val (.int (Int32.ofNat len)), .val .null, .val (.ref s.heap.size)] [.ref s.heap.size, .ref a])) rfl (rest := []) rfl (hb hbytes d54)
  have c16 : Steps p.tables e below (s₁.setTop (entryFrame m #[.ref a, .ref b, .int (Int32.ofNat o), .int (Int32.ofNat len), .null] 6)) (T15.setTop (mkF m 57 #[.val (.ref a), .val (.ref b), .val (.int (Int32.ofNat o)), .val (.int (Int32.ofNat len)), .val .null, .val (.ref s.heap.size)] [])) := c14.trans (st15 _ (Steps.refl _))
  have ap := apart (Or.inr ⟨_, (wk W (.laysFinal "java/lang/String" "java/lang/String" "value" "[B"))⟩) (Or.inr ⟨_, (wk W (.laysFinal "java/lang/String" "java/lang/String" "coder" "B"))⟩) f1 f2 (t₁ := .array .byte) (t₂ := .byte) (by decide +kernel) (by decide +kernel) (by decide)
  have al := X8.warmed.alike.symm.trans X15.warmed.alike
  have n7 : T11.heap[s.heap.size]? = some N := by rw [q11]; exact n1.1
  exact ⟨T15, none, _, _, _, X15, by simp, rfl, by omega, (fun _ => rfl), ⟨rfl, _, N, bl15, ((Same.refl D _).set _ (by simp)).set _ (by simp), sl15, (Cell.slots_setSlot_ne _ ap).trans sl13, n1.keep al (p15.other hne (p13.other hne n7)), n2, by rw [al.findClass]; exact n3, n4, n5, fun y c h1 h2 => p15.other h1 (p13.other h1 (by rw [q11]; exact n6 y c h2)), by rw [p15.2.2, p13.2.2, q11]; exact z8⟩, fun fs hl => c16.trans (X15.returnOut hexec hret (hb hbytes d57) hl)⟩
end New4
namespace New1
def yN : MethodName := ⟨"java/lang/String", "<init>", "([C)V"⟩
abbrev yB : ByteArray := jdk_42_method_3_code
theorem d0 : decode yB 0 = .ok (.aload_n 0, 1) := by decide +kernel
theorem d1 : decode yB 1 = .ok (.aload_n 1, 1) := by decide +kernel
theorem d2 : decode yB 2 = .ok (.iconst 0, 1) := by decide +kernel
theorem d3 : decode yB 3 = .ok (.aload_n 1, 1) := by decide +kernel
theorem d4 : decode yB 4 = .ok (.arraylength, 1) := by decide +kernel
theorem d5 : decode yB 5 = .ok (.aconst_null, 1) := by decide +kernel
theorem d6 : decode yB 6 = .ok (.invokespecial 27, 3) := by decide +kernel
theorem d9 : decode yB 9 = .ok (.return_, 1) := by decide +kernel
def site : List Cond := [New4.tab] ++ initW "java/lang/String" 27 New4.yN
def tab : Cond := tabOf yN yB 2 none site
def P (a : Addr) (D : Cell) (fV fC : Field) (b : Addr) (A : Cell) (z : Int32) (args : Array Value) (s : State) : Prop := args = #[.ref a, .ref b] ∧ Blank "java/lang/String" a D s ∧ Found "java/lang/String" "value" "[B" fV s ∧ Found "java/lang/String" "coder" "B" fC s ∧ Ch b A s ∧ StaticIs s "java/lang/String" "COMPACT_STRINGS" "Z" (.int z) ∧ ¬ z = 0 ∧ 0 < A.slots.size ∧ A.slots.size ≤ 536870912 ∧ ∀ i, i < A.slots.size → ¬ 255 < cv A i
def E (a : Addr) (D : Cell) (fV fC : Field) (A : Cell) (r : Option Value) (s u : State) : Prop := Got a D fV fC A 0 A.slots.size r s u
/-- new String(chars), not empty, no char above 255: a Latin-1 String of their low bytes -/
theorem law (l : Launch) (a : Addr) (D : Cell) (fV fC : Field) (b : Addr) (A : Cell) (z : Int32) : Law l yN 2 1 3 52 yB 2 none site (P a D fV fC b A z) (E a D fV fC A) [⟨a, fC.slot⟩, ⟨a, fV.slot⟩] 1 A.slots.size := by
  refine Law.of_walk (plainFor_of_name (by decide +kernel)) (by decide +kernel) (by decide +kernel) (by decide) (fun _ _ h => by rw [h.1]; rfl) (fun _ U U' hal hh h => ⟨h.1, h.2.1.mv hal hh, h.2.2.1.al hal, h.2.2.2.1.al hal, h.2.2.2.2.1.mv hal hh, h.2.2.2.2.2.1.there hal hh, h.2.2.2.2.2.2⟩) (fun r U U' V V' h1 hal h2 h => Got.mv r U U' V V' h1 hal h2 h) ?_
  intro p e s m args below meth c s₁ X0 hexec hbytes hml hret hlk hnm hown hh0 W hP
  obtain ⟨rfl, hB, f1, f2, hA, s1, hz, l0, l2, hp⟩ := hP
  have c1 : Steps p.tables e below (s₁.setTop (entryFrame m #[.ref a, .ref b] 2)) (s₁.setTop (mkF m 0 #[.val (.ref a), .val (.ref b)] [])) := entry rfl
  have c2 : Steps p.tables e below (s₁.setTop (entryFrame m #[.ref a, .ref b] 2)) (s₁.setTop (mkF m 6 #[.val (.ref a), .val (.ref b)] [.null, .int (Int32.ofNat A.slots.size), .int 0, .ref b, .ref a])) := c1.trans (by
    refine XS.aloadN X0.here hexec rfl (hb hbytes d0) rfl rfl ?_
    refine XS.aloadN X0.here hexec rfl (hb hbytes d1) rfl rfl ?_
    refine iconstV X0.here hexec rfl 0 (hb hbytes d2) (by decide) ?_
    refine XS.aloadN X0.here hexec rfl (hb hbytes d3) rfl rfl ?_
    refine X0.alen hexec (hA.1.mv X0.warmed.alike hh0) rfl rfl (hb hbytes d4) ?_
    refine XS.aconstNull X0.here hexec rfl (hb hbytes d5) ?_
    exact Steps.refl _)
  obtain ⟨v3, T3, X3, E3, g3⟩ := X0.callN hexec (New4.law l a D fV fC b A z 0 A.slots.size) rfl hown (wks W (initW "java/lang/String" 27 New4.yN)) (W New4.tab (by simp only [site, List.mem_cons, List.mem_append, true_or, or_true])) (W := 0) (Nat.le_of_ble_eq_true rfl) (Nat.le_of_ble_eq_true rfl) (Nat.le_refl _) (by show 0 + A.slots.size ≤ A.slots.size; omega) (g := (mkF m 6 #[.val (.ref a), .val (.ref b)] [.null, .int (Int32.ofNat A.slots.size), .int (Int32.ofNat 0), .ref b, .ref a])) rfl (by rw [hml]; rfl) c2 (argsL := [.ref b, .int (Int32.ofNat 0), .int (Int32.ofNat A.slots.size), .null]) (rest := []) rfl rfl (by show 2 * 0 + 0 ≤ _; decide) (hb hbytes d6) (⟨rfl, hB.mv X0.warmed.alike hh0, f1.al X0.warmed.alike, f2.al X0.warmed.alike, hA.mv X0.warmed.alike hh0, s1.there X0.warmed.alike hh0, hz, l0, by omega, l2, fun i hi => by rw [Nat.zero_add]; exact hp i hi⟩)
  have e0 := Got.mv _ s₁ s _ _ hh0.symm (Vm.Alike.refl _) rfl E3
  obtain rfl := e0.1
  have c4 : Steps p.tables e below (s₁.setTop (entryFrame m #[.ref a, .ref b] 2)) (T3.setTop (mkF m 9 #[.val (.ref a), .val (.ref b)] [])) := g3
  exact ⟨T3, none, _, _, _, X3, by simp, rfl, by omega, (fun _ => rfl), e0, fun fs hl => c4.trans (X3.returnOut hexec hret (hb hbytes d9) hl)⟩
theorem pays {l : Launch} {R : Room} {p : Program} {e : Env} {below : List Frame} {s : State} {sargs : Array Value} {len W : Nat} (a : Addr) (D : Cell) (fV fC : Field) (b : Addr) (A : Cell) (z : Int32) (htab : tab.before sargs s = true) (hfr : 4 ≤ R.frames) (hlo : W + 65 ≤ R.locals) :
    Back l R p e below s sargs yN len W (fun A₁ a₁ => A₁.cells + 1 ≤ R.cells ∧ A₁.slots + A.slots.size ≤ R.slots ∧ P a D fV fC b A z a₁ A₁.U) (fun A₁ _ v₁ B₁ => E a D fV fC A v₁ A₁.U B₁.U ∧ B₁.locs = A₁.locs ++ [⟨a, fC.slot⟩, ⟨a, fV.slot⟩] ∧ B₁.cells = A₁.cells + 1 ∧ B₁.slots = A₁.slots + A.slots.size) :=
  (law l a D fV fC b A z).pays htab hfr (by omega)
end New1
/-- the byte, read back as charAt reads it, is the char -/
theorem lo8_mask {x : Int32} (h0 : ¬ x < 0) (h1 : ¬ 255 < x) : lo8 x &&& 255 = x := by
  have t : ∀ k : Fin 256, lo8 (Int32.ofNat k.val) &&& 255 = Int32.ofNat k.val := by decide +kernel
  rw [Int32.lt_iff_toInt_lt] at h0 h1
  have e0 : (0 : Int32).toInt = 0 := rfl
  have e1 : (255 : Int32).toInt = 255 := rfl
  obtain ⟨k, hk⟩ : ∃ k : Nat, x.toInt = k := ⟨x.toInt.toNat, by omega⟩
  have hx : x = Int32.ofNat k := Int32.toInt_inj.mp (by rw [hk, Int32.toInt_ofNat_small (by omega)])
  rw [hx]
  exact t ⟨k, by omega⟩
end StrChars
namespace StrChars.Road
open Jvm Sem ClassFile Op Lib Jvm.Stand Jvm.Free Jvm.Free.XT
open Jvm.Lib.Cold (StaticIs)
abbrev ST : String := "java/lang/String"
/-- every table word that New1's law asks, flat -/
abbrev words : List Jvm.Cond := [.code New1.yN New1.yB 2 none, .initialized ST, .methodLink ST 27 New4.yN, .instanceMethod New4.yN,
  .code New4.yN New4.yB 6 none, .fieldLink ST 38 ST "COMPACT_STRINGS" "Z", .laysFinal ST ST "value" "[B", .fieldLink ST 9 ST "value" "[B", .laysFinal ST ST "coder" "B", .fieldLink ST 15 ST "coder" "B",
  .methodLink ST 1 Lib.objectInit, .instanceMethod Lib.objectInit, .code Lib.objectInit ⟨#[0xb1]⟩ 1 none, .methodLink ST 177 Cmp3.yN, .static Cmp3.yN, .methodLink ST 47 CodL.yN, .static CodL.yN,
  .code Cmp3.yN Cmp3.yB 6 (some (.array .byte)), .initialized U16, .arrayClass .byte, .methodLink U16 115 Cmp5.yN, .static Cmp5.yN, .code Cmp5.yN Cmp5.yB 7 (some .int), .code CodL.yN CodL.yB 2 (some .byte)]
theorem tab_of {a : Array Value} {s : State} (h : ∀ w ∈ words, w.before a s = true) : New1.tab.before a s = true := by
  have h5 : Cmp5.tab.before a s = true := unparts (wk h (.code Cmp5.yN Cmp5.yB 7 (some .int))) (wks h (.initialized Cmp5.yN.cls :: Cmp5.site))
  have hc : CodL.tab.before a s = true := unparts (wk h (.code CodL.yN CodL.yB 2 (some .byte))) (wks h (.initialized CodL.yN.cls :: CodL.site))
  have q5 : ∀ w ∈ Cmp5.tab :: words, w.before a s = true := fun w hw => (List.mem_cons.mp hw).elim (fun e => e ▸ h5) (h w)
  have h3 : Cmp3.tab.before a s = true := unparts (wk q5 (.code Cmp3.yN Cmp3.yB 6 (some (.array .byte)))) (wks q5 (.initialized Cmp3.yN.cls :: Cmp3.site))
  have q3 : ∀ w ∈ Cmp3.tab :: CodL.tab :: words, w.before a s = true := fun w hw => (List.mem_cons.mp hw).elim (fun e => e ▸ h3) fun hw => (List.mem_cons.mp hw).elim (fun e => e ▸ hc) (h w)
  have h4 : New4.tab.before a s = true := unparts (wk q3 (.code New4.yN New4.yB 6 none)) (wks q3 (.initialized New4.yN.cls :: New4.site))
  have q4 : ∀ w ∈ New4.tab :: words, w.before a s = true := fun w hw => (List.mem_cons.mp hw).elim (fun e => e ▸ h4) (h w)
  exact unparts (wk q4 (.code New1.yN New1.yB 2 none)) (wks q4 (.initialized New1.yN.cls :: New1.site))
/-- the words ride from the start Z to the walk's own state -/
theorem moved {Z s : State} {a0 args : Array Value} (hZ : Z.Warmed39 s.vm) (hw : ∀ d ∈ words, d.before a0 Z = true) : ∀ d ∈ words, d.before args s = true := fun d hd => by
  have q := hw d hd
  have t : ∀ d ∈ words, d = .arrayClass .byte ∨ (d.onTables && d.keepsFace) = true := by decide +kernel
  rcases t d hd with rfl | t
  · exact RoadKit.mvA hZ q
  · exact RoadKit.mv hZ q t
/-- WHAT COMES BACK, over the tables of the start Z: h the heap at the call, h' behind it -/
def Q (Z : State) (x : Addr) (A : Cell) (h : Heap) (v : Option Value) (h' : Heap) (L : List Loc) : Prop := v = none ∧ (∀ y ∈ L, y.base = x) ∧ RoadKit.Keep h h' [x] ∧ h'.size = h.size + 1 ∧ RoadKit.Exa Z h' x ST ∧ RoadKit.Fld Z h' x ST "value" "[B" (.ref h.size) ∧ RoadKit.Fld Z h' x ST "coder" "B" (.int 0) ∧
  (∃ V : Cell, RoadKit.Arr Z h' h.size V .byte ∧ V.vm = .none ∧ Z.vm.findClass "[B" = some V.cls ∧ V.slots.size = A.slots.size ∧ ∀ j, j < A.slots.size → V.slots[j]? = some (.int (lo8 (cv A j)))) ∧
  ∀ (O n d : String) (w : Value), RoadKit.Fld Z h x O n d w → RoadKit.slotOf Z O n d ≠ RoadKit.slotOf Z ST "value" "[B" → RoadKit.slotOf Z O n d ≠ RoadKit.slotOf Z ST "coder" "B" → RoadKit.Fld Z h' x O n d w
/-- **new String(chars) AT A CALL, IN THE ROAD'S FORM**: for specialBack behind newO: x the fresh String, b the char[] with the cell A -/
theorem back {p : Program} {l : Launch} {e : Env} {R : Room} {s : State} {args : Array Value} {below : List Frame} {len W : Nat} {Z : State} {a0 : Array Value} {h : Heap} (hZ : Z.Warmed39 s.vm) (hw : ∀ d ∈ words, d.before a0 Z = true) {kI : Nat} (wi : (Jvm.Cond.instantiable ST kI).before a0 Z = true)
    {x b : Addr} {A : Cell} {z : Int32} {v0 c0 : Value} (E : RoadKit.Exa Z h x ST) (V : RoadKit.Fld Z h x ST "value" "[B" v0) (C : RoadKit.Fld Z h x ST "coder" "B" c0) (K : RoadKit.Arr Z h b A .char) (hty : Typed .char A) (S : RoadKit.Sta Z h ST "COMPACT_STRINGS" "Z" (.int z)) (hz : ¬ z = 0)
    (l0 : 0 < A.slots.size) (l2 : A.slots.size ≤ 536870912) (hp : ∀ i, i < A.slots.size → ¬ 255 < cv A i) (hfr : 4 ≤ R.frames) (hlo : W + 65 ≤ R.locals) :
    Back l R p e below s args New1.yN len W (fun P a => a = #[.ref x, .ref b] ∧ P.U.heap = h ∧ P.cells + 1 ≤ R.cells ∧ P.slots + A.slots.size ≤ R.slots)
      (fun P _ v B => ∃ L, Q Z x A h v B.U.heap L ∧ B.locs = P.locs ++ L ∧ B.cells = P.cells + 1 ∧ B.slots = P.slots + A.slots.size) := by
  intro m meth c P g ig mk a X hg hsize hdg hW hn hp'
  obtain ⟨rfl, rfl, r1, r2⟩ := hp'
  have al : Z.vm.Alike P.U.vm := hZ.alike.trans X.warmed.alike
  obtain ⟨D, cfV, kV, iV, fV, hD, gV, stV, knV, obV, asV, slV⟩ := id V
  obtain ⟨D', cfC, kC, iC, fC, hD', gC, stC, -, -, asC, slC⟩ := id C
  cases hD.symm.trans hD'
  obtain ⟨D2, kD, e1, e2, e3, e4, e5⟩ := id E
  cases hD.symm.trans e1
  obtain ⟨c2, k2, i1, i2, i3, -⟩ := Cond.instantiable_spec wi
  cases e2.symm.trans i1
  cases e3.symm.trans i2
  obtain ⟨kU, u1, u2⟩ := al.2.2 _ _ e3
  have hB : Blank ST x D P.U := ⟨hD, ⟨knV, fun q hq => by rw [hq] at obV; cases obV⟩, by rw [al.findClass]; exact e2, kU, u1, by rw [u2]; exact i3, by rw [u2]; exact e5 i3⟩
  have F1 : Found ST "value" "[B" fV P.U := ⟨SBG.found_only al ⟨cfV, kV, iV, gV⟩, stV⟩
  have F2 : Found ST "coder" "B" fC P.U := ⟨SBG.found_only al ⟨cfC, kC, iC, gC⟩, stC⟩
  have hA : Ch b A P.U := ⟨⟨K.1, State.isArrayOf_alike al K.2.1, K.2.2, by omega⟩, hty⟩
  have hS : StaticIs P.U ST "COMPACT_STRINGS" "Z" (.int z) := by
    obtain ⟨cfS, iS, kS, fS, st, cS, t1, t2, t3, t4, t5, t6, t7⟩ := S
    exact StaticIs.there (s := { Z with heap := P.U.heap }) ⟨cfS, iS, kS, fS, st, cS, t1, t2, t3, t4, t5, (fun q => by rw [q] at t6; cases t6), t7⟩ al rfl
  obtain ⟨v, B, X', ⟨⟨hv, E', V', q1, q2, q3, q4, q5, q6, q7, q8, q9, q10, q11⟩, hl, hc, hs⟩, st⟩ := New1.pays x D fV fC b A z (tab_of (moved hZ hw)) hfr hlo m meth c P g ig mk _ X hg hsize hdg hW hn ⟨r1, r2, rfl, hB, F1, F2, hA, hS, hz, l0, l2, hp⟩
  have al' : Z.vm.Alike B.U.vm := hZ.alike.trans X'.warmed.alike
  have hsz : E'.slots.size = D.slots.size := by
    obtain ⟨-, -, -, kB, w1, w2, w3⟩ := q1
    obtain ⟨kB', y1, y2⟩ := al'.2.2 _ _ e3
    rw [q2.2.1] at w1
    cases w1.symm.trans y1
    rw [w3, e5 i3, y2]
  refine ⟨v, B, X', ⟨_, ⟨hv, ?_, ⟨by omega, fun y cy hy hn' => q10 y cy (by simpa using hn') hy, fun y cy hy => ?_⟩, q11, ⟨E', _, q1.1, by rw [q2.2.1]; exact e2, by rw [q2.2.1]; exact e3, by rw [q2.1]; exact obV, fun _ => by rw [hsz]; exact e5 i3⟩,
    ⟨E', cfV, kV, iV, fV, q1.1, gV, stV, by rw [q2.1]; exact knV, by rw [q2.1]; exact obV, by rw [q2.2.1]; exact asV, q3⟩, ⟨E', cfC, kC, iC, fC, q1.1, gC, stC, by rw [q2.1]; exact knV, by rw [q2.1]; exact obV, by rw [q2.2.1]; exact asC, q4⟩,
    ⟨V', ⟨q5.1, State.isArrayOf_alike al'.symm q5.2.1, q5.2.2.1⟩, q6, by rw [← al'.findClass]; exact q7, q8, fun j hj => by have := q9 j hj; rwa [Nat.zero_add] at this⟩, fun O n d w F n1 n2 => ?_⟩, hl, hc, hs⟩, st⟩
  · intro y hy
    simp only [List.mem_cons, List.not_mem_nil, or_false] at hy
    rcases hy with rfl | rfl <;> rfl
  · by_cases q : y = x
    · subst q
      cases hD.symm.trans hy
      exact ⟨E', q1.1, q2.2.1, q2.1, hsz⟩
    · exact ⟨cy, q10 y cy q hy, rfl, rfl, rfl⟩
  · obtain ⟨D3, cf, k, i, f, g1, g2, g3, g4, g5, g6, g7⟩ := F
    cases hD.symm.trans g1
    simp only [RoadKit.slotOf, g2, gV, gC, Option.map_some, Option.getD_some] at n1 n2
    exact ⟨E', cf, k, i, f, q1.1, g2, g3, by rw [q2.1]; exact g4, by rw [q2.1]; exact g5, by rw [q2.2.1]; exact g6, by rw [q2.2.2 f.slot (by simp [n1, n2])]; exact g7⟩
end StrChars.Road
namespace StrChars.Road
open Jvm Sem ClassFile Op Lib Jvm.Stand Jvm.Free Jvm.Free.XT
/-- WHAT COMES BACK, the byte[] as a list of values -/
def QA (Z : State) (x : Addr) (zn : Int32) (cs : List Int32) (h : Heap) (v : Option Value) (h' : Heap) (L : List Loc) : Prop := v = none ∧ (∀ y ∈ L, y.base = x) ∧ RoadKit.Keep h h' [x] ∧ h'.size = h.size + 1 ∧ RoadKit.Exa Z h' x ST ∧ RoadKit.Fld Z h' x ST "value" "[B" (.ref h.size) ∧ RoadKit.Fld Z h' x ST "coder" "B" (.int 0) ∧
  (∃ kb, Z.vm.findClass "[B" = some kb ∧ RoadKit.Arv Z h' h.size kb .byte zn (cs.map fun c => .int (lo8 c)) (.int 0)) ∧
  ∀ (O n d : String) (w : Value), RoadKit.Fld Z h x O n d w → RoadKit.slotOf Z O n d ≠ RoadKit.slotOf Z ST "value" "[B" → RoadKit.slotOf Z O n d ≠ RoadKit.slotOf Z ST "coder" "B" → RoadKit.Fld Z h' x O n d w
/-- **new String(chars) AT A CALL, THE ARRAYS AS LISTS**: the char[] at b holds cs, not empty, no char above 255 -/
theorem backArv {p : Program} {l : Launch} {e : Env} {R : Room} {s : State} {args : Array Value} {below : List Frame} {len W : Nat} {Z : State} {a0 : Array Value} {h : Heap} (hZ : Z.Warmed39 s.vm) (hw : ∀ d ∈ words, d.before a0 Z = true) {kI : Nat} (wi : (Jvm.Cond.instantiable ST kI).before a0 Z = true)
    {x b : Addr} {k : ClassId} {zn z : Int32} {cs : List Int32} {dv v0 c0 : Value} (E : RoadKit.Exa Z h x ST) (V : RoadKit.Fld Z h x ST "value" "[B" v0) (C : RoadKit.Fld Z h x ST "coder" "B" c0) (K : RoadKit.Arv Z h b k .char zn (cs.map Value.int) dv) (S : RoadKit.Sta Z h ST "COMPACT_STRINGS" "Z" (.int z)) (hz : ¬ z = 0)
    (hlen : zn.toNatClampNeg = cs.length) (h0 : 0 < cs.length) (hbig : cs.length ≤ 536870912) (hall : ∀ c ∈ cs, ¬ 255 < c) (hfr : 4 ≤ R.frames) (hlo : W + 65 ≤ R.locals) :
    Back l R p e below s args New1.yN len W (fun P a => a = #[.ref x, .ref b] ∧ P.U.heap = h ∧ P.cells + 1 ≤ R.cells ∧ P.slots + cs.length ≤ R.slots)
      (fun P _ v B => ∃ L, QA Z x zn cs h v B.U.heap L ∧ B.locs = P.locs ++ L ∧ B.cells = P.cells + 1 ∧ B.slots = P.slots + cs.length) := by
  obtain ⟨A, K1, K2, K3, K4, K5, K6⟩ := K
  have e : A.slots.size = cs.length := K3.trans hlen
  have hat : ∀ (i : Nat) (hi : i < cs.length), A.slots[i]? = some (.int cs[i]) := fun i hi => by rw [K5 i (by omega)]; simp [List.getD_eq_getElem?_getD, hi]
  have hcv : ∀ (i : Nat) (hi : i < cs.length), cv A i = cs[i] := fun i hi => by unfold cv; rw [hat i hi]
  have hty : Typed .char A := fun i v hv => by
    have hi : i < A.slots.size := (Array.getElem?_eq_some_iff.mp hv).1
    have q := K5 i hi
    rw [hv] at q
    rw [Option.some.inj q]
    exact K6 i hi
  refine Back.mono (back hZ hw wi E V C K1 hty S hz (by omega) (by omega) (fun i hi => by rw [hcv i (by omega)]; exact hall _ (List.getElem_mem _)) hfr hlo) (fun P a hp => ⟨hp.1, hp.2.1, hp.2.2.1, by rw [e]; exact hp.2.2.2⟩) (fun P a v B hp hq => ?_)
  obtain ⟨L, ⟨q1, q2, q3, q4, q5, q6, q7, ⟨V', v1, v2, v3, v4, v5⟩, q9⟩, hl, hc, hs⟩ := hq
  refine ⟨L, ⟨q1, q2, q3, q4, q5, q6, q7, ⟨V'.cls, v3, V', v1, rfl, by rw [v4, e, hlen], K4, fun i hi => ?_, fun i hi => ?_⟩, q9⟩, hl, hc, by rw [hs, e]⟩
  · have hi' : i < cs.length := by omega
    rw [v5 i (by omega), hcv i hi']; simp [List.getD_eq_getElem?_getD, hi']
  · have hi' : i < cs.length := by omega
    simp only [List.getD_eq_getElem?_getD, List.getElem?_map, List.getElem?_eq_getElem hi', Option.map_some, Option.getD_some]
    exact fits_lo8 _
end StrChars.Road
namespace StrChars.Road
open Jvm Sem ClassFile Op Lib Jvm.Stand Jvm.Free Jvm.Free.XT
/-- WHAT COMES BACK, in the writer's own shape -/
def QV (Z : State) (x : Addr) (N : Int32) (bs : List Int32) (h : Heap) (n0 : Nat) (v : Option Value) (h' : Heap) (L : List Loc) : Prop := v = none ∧ RoadKit.Fr n0 L ∧ RoadKit.Keep h h' [x] ∧ RoadKit.Exa Z h' x ST ∧ RoadKit.Fld Z h' x ST "coder" "B" (.int 0) ∧
  ∃ (t : Addr) (kb : ClassId), n0 ≤ t ∧ h.size ≤ t ∧ ¬ t = x ∧ RoadKit.Fld Z h' x ST "value" "[B" (.ref t) ∧ RoadKit.Arv Z h' t kb .byte N (bs.map Value.int) (.int 0)
/-- **new String(chars) AT A CALL, FOR THE WRITER**: a char[] of n known ints, each 0 to 255 -/
theorem backV {p : Program} {l : Launch} {e : Env} {R : Room} {s : State} {args : Array Value} {below : List Frame} {len W : Nat} {Z : State} {a0 : Array Value} {h : Heap} (hZ : Z.Warmed39 s.vm) (hw : ∀ d ∈ words, d.before a0 Z = true) {kI : Nat} (wi : (Jvm.Cond.instantiable ST kI).before a0 Z = true)
    {x b : Addr} {kC : ClassId} {cs bs : List Int32} {d v0 c0 : Value} {z N : Int32} {n n0 : Nat} (hx0 : n0 ≤ x) (hh0 : n0 ≤ h.size) (E : RoadKit.Exa Z h x ST) (V : RoadKit.Fld Z h x ST "value" "[B" v0) (C : RoadKit.Fld Z h x ST "coder" "B" c0) (K : RoadKit.Arv Z h b kC .char N (cs.map Value.int) d) (S : RoadKit.Sta Z h ST "COMPACT_STRINGS" "Z" (.int z)) (hz : ¬ z = 0)
    (hn : cs.length = n) (hN : N = Int32.ofNat n) (l0 : 0 < n) (l2 : n ≤ 4000) (hp : ∀ c ∈ cs, ¬ c < 0 ∧ ¬ (255 : Int32) < c) (hb : bs = cs.map (fun c => c.toInt8.toInt32)) (hfr : 4 ≤ R.frames) (hlo : W + 65 ≤ R.locals) :
    Back l R p e below s args (⟨"java/lang/String", "<init>", "([C)V"⟩ : MethodName) len W (fun P a => a = #[.ref x, .ref b] ∧ P.U.heap = h ∧ P.cells + 1 ≤ R.cells ∧ P.slots + n ≤ R.slots)
      (fun P _ v B => ∃ L, QV Z x N bs h n0 v B.U.heap L ∧ B.locs = P.locs ++ L ∧ B.cells = P.cells + 1 ∧ B.slots = P.slots + n) := by
  subst hn hN hb
  refine Back.mono (backArv hZ hw wi E V C K S hz (n32 (by omega)) l0 (by omega) (fun c hc => (hp c hc).2) hfr hlo) (fun P a hp => hp) (fun P a v B hp hq => ?_)
  obtain ⟨L, ⟨q1, q2, q3, q4, q5, q6, q7, ⟨kb, v1, v2⟩, q9⟩, hl, hc, hs⟩ := hq
  exact ⟨L, ⟨q1, fun y hy => by rw [q2 y hy]; exact hx0, q3, q5, q7, h.size, kb, hh0, Nat.le_refl _, Nat.ne_of_gt E.lt, q6, by rw [List.map_map]; exact v2⟩, hl, hc, hs⟩
end StrChars.Road
namespace StrChars
open Jvm Sem ClassFile Op Lib Jvm.Stand Jvm.Free.XT Jvm.Free.ALB Jvm.Free.JM Jvm.Free
open Jvm.Lib.Cold (StaticIs)
def hi8 (x : Int32) : Int32 := lo8 (x >>> ((8 : Int32) &&& 31))
/-- what StringUTF16.getChar makes of two bytes -/
def pairCh (u v : Int32) : Int32 := (((u &&& 255) <<< ((0 : Int32) &&& 31)) ||| ((v &&& 255) <<< ((8 : Int32) &&& 31))).toUInt32.toUInt16.toUInt32.toInt32
theorem lo8_and (x : Int32) : (lo8 x &&& 255).toBitVec.toNat = x.toBitVec.toNat % 256 := by
  have h : (lo8 x).toBitVec = (x.toBitVec.signExtend 8).signExtend 32 := by rw [lo8, Int8.toBitVec_toInt32, Int32.toBitVec_toInt8]
  rw [Int32.toBitVec_and, BitVec.toNat_and, h]
  have e : ((x.toBitVec.signExtend 8).signExtend 32).toNat % 256 = x.toBitVec.toNat % 256 := by
    rw [BitVec.toNat_signExtend]
    have hlt := x.toBitVec.isLt
    simp only [BitVec.toNat_setWidth, BitVec.toNat_signExtend]
    split <;> split <;> omega
  rw [← e]
  exact Nat.and_two_pow_sub_one_eq_mod _ 8
theorem pair_says {c : Int32} (h0 : ¬ c < 0) (h1 : ¬ 65535 < c) : pairCh (lo8 c) (hi8 c) = c := by
  rw [Int32.lt_iff_toInt_lt] at h0 h1
  have e0 : (0 : Int32).toInt = 0 := rfl
  have e1 : (65535 : Int32).toInt = 65535 := rfl
  have hc : c.toInt = c.toBitVec.toNat := by
    have := c.toBitVec.isLt
    have e : c.toInt = c.toBitVec.toInt := rfl
    rw [e] at h0 h1
    rw [e]
    rw [BitVec.toInt_eq_toNat_cond] at h0 h1 ⊢
    split at h0 <;> split <;> omega
  have hn : c.toBitVec.toNat < 65536 := by omega
  have a1 := lo8_and c
  have a2 : (hi8 c &&& 255).toBitVec.toNat = c.toBitVec.toNat / 256 := by
    rw [hi8, lo8_and]
    have e : ((8 : Int32) &&& 31) = 8 := by decide
    rw [e, Int32.toBitVec_shiftRight]
    have e2 : ((8 : Int32).toBitVec.smod 32) = 8#32 := by decide
    rw [e2, BitVec.sshiftRight_eq', BitVec.toNat_sshiftRight_of_msb_false (by rw [BitVec.msb_eq_false_iff_two_mul_lt]; omega)]
    show c.toBitVec.toNat >>> 8 % 256 = _
    rw [Nat.shiftRight_eq_div_pow]
    omega
  unfold pairCh
  apply Int32.toBitVec_inj.mp
  apply BitVec.eq_of_toNat_eq
  have f0 : ((0 : Int32) &&& 31) = 0 := by decide
  have f8 : ((8 : Int32) &&& 31) = 8 := by decide
  rw [f0, f8]
  have g : (((lo8 c &&& 255) <<< (0 : Int32)) ||| ((hi8 c &&& 255) <<< (8 : Int32))).toBitVec.toNat = c.toBitVec.toNat := by
    rw [Int32.toBitVec_or, Int32.toBitVec_shiftLeft, Int32.toBitVec_shiftLeft]
    have s0 : ((0 : Int32).toBitVec.smod 32) = 0#32 := by decide
    have s8 : ((8 : Int32).toBitVec.smod 32) = 8#32 := by decide
    rw [s0, s8, BitVec.toNat_or]
    simp only [BitVec.shiftLeft_eq', BitVec.toNat_shiftLeft, a1, a2]
    show (c.toBitVec.toNat % 256) <<< 0 % 2 ^ 32 ||| (c.toBitVec.toNat / 256) <<< 8 % 2 ^ 32 = _
    rw [Nat.shiftLeft_zero, Nat.mod_eq_of_lt (show c.toBitVec.toNat % 256 < 2 ^ 32 by omega), Nat.mod_eq_of_lt (show (c.toBitVec.toNat / 256) <<< 8 < 2 ^ 32 by rw [Nat.shiftLeft_eq]; omega), Nat.or_comm, ← Nat.shiftLeft_add_eq_or_of_lt (by omega), Nat.shiftLeft_eq]
    omega
  show BitVec.toNat (((((lo8 c &&& 255) <<< (0 : Int32)) ||| ((hi8 c &&& 255) <<< (8 : Int32))).toBitVec.setWidth 16).setWidth 32) = _
  rw [BitVec.toNat_setWidth, BitVec.toNat_setWidth, g]
  omega
end StrChars
namespace StrChars
open Jvm Sem ClassFile Op Lib Jvm.Stand Jvm.Free.XT Jvm.Free.ALB Jvm.Free.JM Jvm.Free
open Jvm.Lib.Cold (StaticIs)
/-- the array's cell V codes the n chars f 0 .. f (n - 1) by the coder cd, as the JDK does: coder 1 just where some char is above 255 -/
def Cod (cd : Int32) (n : Nat) (f : Nat → Int32) (V : Cell) : Prop := (cd = 0 ∧ V.slots.size = n ∧ ∀ j, j < n → V.slots[j]? = some (.int (lo8 (f j))) ∧ ¬ 255 < f j) ∨ (cd = 1 ∧ V.slots.size = 2 * n ∧ (∀ j, j < n → V.slots[2 * j]? = some (.int (lo8 (f j))) ∧ V.slots[2 * j + 1]? = some (.int (hi8 (f j)))) ∧ ∃ j, j < n ∧ 255 < f j)
/-- **x is a String of the n chars f 0 .. f (n - 1)**, Latin-1 or UTF-16; its array at t has the cell V -/
def Txt (x t : Addr) (V : Cell) (cd : Int32) (n : Nat) (f : Nat → Int32) (U : State) : Prop := Exact "java/lang/String" x U ∧ Has x "java/lang/String" "value" "[B" (.ref t) U ∧ Has x "java/lang/String" "coder" "B" (.int cd) U ∧ XT.Arr .byte t V U ∧ Cod cd n f V ∧ ∀ j, j < n → ¬ f j < 0 ∧ ¬ 65535 < f j
theorem Txt.mv {x t : Addr} {V : Cell} {cd : Int32} {n : Nat} {f : Nat → Int32} {U U' : State} (h : Txt x t V cd n f U) (hal : U.vm.Alike U'.vm) (hh : U'.heap = U.heap) : Txt x t V cd n f U' := ⟨h.1.mv hal hh, h.2.1.mv hal hh, h.2.2.1.mv hal hh, h.2.2.2.1.mv hal hh, h.2.2.2.2⟩
end StrChars
namespace StrChars.Road
open Jvm Sem ClassFile Op Lib Jvm.Stand Jvm.Free Jvm.Free.XT
open Jvm.Lib.Cold (StaticIs)
theorem consq {a : Array Value} {s : State} {c : Jvm.Cond} {L : List Jvm.Cond} (h0 : c.before a s = true) (h : ∀ w ∈ L, w.before a s = true) : ∀ w ∈ c :: L, w.before a s = true := fun w hw => (List.mem_cons.mp hw).elim (fun e => e ▸ h0) (h w)
/-- the bytes of the chars cs, low before high -/
def wideBytes : List Int32 → List Value
  | [] => []
  | c :: cs => .int (lo8 c) :: .int (hi8 c) :: wideBytes cs
theorem wide_lo (d : Value) : ∀ (cs : List Int32) (j : Nat), j < cs.length → (wideBytes cs).getD (2 * j) d = .int (lo8 (cs.getD j 0))
  | [], j, h => absurd h (Nat.not_lt_zero j)
  | c :: cs, 0, _ => rfl
  | c :: cs, j + 1, h => by
    have q := wide_lo d cs j (by simpa using h)
    rw [show 2 * (j + 1) = 2 * j + 1 + 1 from by omega]
    simpa [wideBytes] using q
theorem wide_hi (d : Value) : ∀ (cs : List Int32) (j : Nat), j < cs.length → (wideBytes cs).getD (2 * j + 1) d = .int (hi8 (cs.getD j 0))
  | [], j, h => absurd h (Nat.not_lt_zero j)
  | c :: cs, 0, _ => rfl
  | c :: cs, j + 1, h => by
    have q := wide_hi d cs j (by simpa using h)
    rw [show 2 * (j + 1) + 1 = 2 * j + 1 + 1 + 1 from by omega]
    simpa [wideBytes] using q
theorem low_at (d : Value) (cs : List Int32) (j : Nat) (h : j < cs.length) : (cs.map fun c => Value.int (lo8 c)).getD j d = .int (lo8 (cs.getD j 0)) := by
  simp [List.getD_eq_getElem?_getD, h]
/-- an array of N2 bytes vs codes the chars cs by the coder cd -/
def CodA (cs : List Int32) (cd N2 : Int32) (vs : List Value) : Prop := (cd = 0 ∧ N2 = Int32.ofNat cs.length ∧ vs = (cs.map fun c => Value.int (lo8 c)) ∧ ∀ c ∈ cs, ¬ 255 < c) ∨ (cd = 1 ∧ N2 = Int32.ofNat (2 * cs.length) ∧ vs = wideBytes cs ∧ ∃ c ∈ cs, 255 < c)
theorem CodA.cod {cs : List Int32} {cd N2 : Int32} {vs : List Value} {V : Cell} (h : CodA cs cd N2 vs) (hn : 2 * cs.length < 2 ^ 31) (hs : V.slots.size = N2.toNatClampNeg) (hv : RoadKit.Has V vs (.int 0)) : Cod cd cs.length (fun j => cs.getD j 0) V := by
  rcases h with ⟨rfl, rfl, rfl, h⟩ | ⟨rfl, rfl, rfl, c, hc, hw⟩
  · rw [n32 (by omega)] at hs
    exact Or.inl ⟨rfl, hs, fun j hj => ⟨by rw [hv j (by omega), low_at _ _ _ hj], by
      have e : cs.getD j 0 = cs[j] := by simp [List.getD_eq_getElem?_getD, hj]
      show ¬ 255 < cs.getD j 0
      rw [e]; exact h _ (List.getElem_mem _)⟩⟩
  · rw [n32 (by omega)] at hs
    obtain ⟨j, hj, rfl⟩ := List.getElem_of_mem hc
    exact Or.inr ⟨rfl, hs, fun j hj => ⟨by rw [hv _ (by omega), wide_lo _ _ _ hj], by rw [hv _ (by omega), wide_hi _ _ _ hj]⟩, j, hj, by
      have e : cs.getD j 0 = cs[j] := by simp [List.getD_eq_getElem?_getD, hj]
      show 255 < cs.getD j 0
      rw [e]; exact hw⟩
/-- an object of exactly java/lang/String, its two fields found: as the laws ask it -/
theorem strObj {Z U : State} {a0 : Array Value} {kI : Nat} (wi : (Jvm.Cond.instantiable ST kI).before a0 Z = true) (al : Z.vm.Alike U.vm) {x : Addr} {v0 c0 : Value} (E : RoadKit.Exa Z U.heap x ST) (V : RoadKit.Fld Z U.heap x ST "value" "[B" v0) (C : RoadKit.Fld Z U.heap x ST "coder" "B" c0) :
    ∃ (D : Cell) (fV fC : Field), Blank ST x D U ∧ Found ST "value" "[B" fV U ∧ Found ST "coder" "B" fC U ∧ D.slots[fV.slot]? = some v0 ∧ D.slots[fC.slot]? = some c0 ∧ RoadKit.slotOf Z ST "value" "[B" = fV.slot ∧ RoadKit.slotOf Z ST "coder" "B" = fC.slot := by
  obtain ⟨D, cfV, kV, iV, fV, hD, gV, stV, knV, obV, asV, slV⟩ := V
  obtain ⟨D', cfC, kC, iC, fC, hD', gC, stC, -, -, asC, slC⟩ := C
  cases hD.symm.trans hD'
  obtain ⟨D2, kD, e1, e2, e3, e4, e5⟩ := E
  cases hD.symm.trans e1
  obtain ⟨c2, k2, i1, i2, i3, -⟩ := Cond.instantiable_spec wi
  cases e2.symm.trans i1
  cases e3.symm.trans i2
  obtain ⟨kU, u1, u2⟩ := al.2.2 _ _ e3
  exact ⟨D, fV, fC, ⟨hD, ⟨knV, fun q hq => by rw [hq] at obV; cases obV⟩, by rw [al.findClass]; exact e2, kU, u1, by rw [u2]; exact i3, by rw [u2]; exact e5 i3⟩, ⟨SBG.found_only al ⟨cfV, kV, iV, gV⟩, stV⟩, ⟨SBG.found_only al ⟨cfC, kC, iC, gC⟩, stC⟩, slV, slC, by simp [RoadKit.slotOf, gV], by simp [RoadKit.slotOf, gC]⟩
theorem sta_is {Z U : State} (al : Z.vm.Alike U.vm) {C n d : String} {v : Value} (S : RoadKit.Sta Z U.heap C n d v) : StaticIs U C n d v := by
  obtain ⟨cfS, iS, kS, fS, st, cS, t1, t2, t3, t4, t5, t6, t7⟩ := S
  exact StaticIs.there (s := { Z with heap := U.heap }) ⟨cfS, iS, kS, fS, st, cS, t1, t2, t3, t4, t5, (fun q => by rw [q] at t6; cases t6), t7⟩ al rfl
end StrChars.Road
namespace StrChars
open Jvm Sem ClassFile Op Lib Jvm.Stand Jvm.Free.XT Jvm.Free.ALB Jvm.Free.JM Jvm.Free
open Jvm.Lib.Cold (StaticIs)
/-- what place i of a byte[]'s cell holds -/
def yv (A : Cell) (i : Nat) : Int32 := match A.slots[i]? with | some (.int x) => x | _ => 0
theorem yv_get {a : Addr} {A : Cell} {U : State} (h : XT.Arr .byte a A U) (ht : Typed .byte A) {i : Nat} (hi : i < A.slots.size) : A.slots[i]? = some (.int (yv A i)) := by
  have e := Array.getElem?_eq_getElem hi
  have f := ht i _ e
  unfold yv; rw [e]
  generalize A.slots[i] = v at f
  cases v <;> simp [fits] at f ⊢
/-- the two arrays are equal, place for place -/
def EqC (A B : Cell) : Prop := A.slots.size = B.slots.size ∧ ∀ i, i < A.slots.size → yv A i = yv B i
/-- a boolean that says whether p -/
def Says01 (q : Prop) (r : Option Value) (s u : State) : Prop := ∃ v : Int32, r = some (.int v) ∧ u.heap = s.heap ∧ ((v = 1 ∧ q) ∨ (v = 0 ∧ ¬ q))
theorem Says01.mv {q : Prop} : ∀ r (U U' V V' : State), U'.heap = U.heap → V.vm.Alike V'.vm → V'.heap = V.heap → Says01 q r U V → Says01 q r U' V' :=
  fun r U U' V V' h1 _ h2 ⟨v, a, b, c⟩ => ⟨v, a, by rw [h1, h2]; exact b, c⟩
namespace LEq
def yN : MethodName := ⟨"java/lang/StringLatin1", "equals", "([B[B)Z"⟩
abbrev yB : ByteArray := jdk_43_method_13_code
theorem d0 : decode yB 0 = .ok (.aload_n 0, 1) := by decide +kernel
theorem d1 : decode yB 1 = .ok (.arraylength, 1) := by decide +kernel
theorem d2 : decode yB 2 = .ok (.aload_n 1, 1) := by decide +kernel
theorem d3 : decode yB 3 = .ok (.arraylength, 1) := by decide +kernel
theorem d4 : decode yB 4 = .ok (.if_icmp (.ne) 30, 3) := by decide +kernel
theorem d7 : decode yB 7 = .ok (.iconst 0, 1) := by decide +kernel
theorem d8 : decode yB 8 = .ok (.istore_n 2, 1) := by decide +kernel
theorem d9 : decode yB 9 = .ok (.iload_n 2, 1) := by decide +kernel
theorem d10 : decode yB 10 = .ok (.aload_n 0, 1) := by decide +kernel
theorem d11 : decode yB 11 = .ok (.arraylength, 1) := by decide +kernel
theorem d12 : decode yB 12 = .ok (.if_icmp (.ge) 20, 3) := by decide +kernel
theorem d15 : decode yB 15 = .ok (.aload_n 0, 1) := by decide +kernel
theorem d16 : decode yB 16 = .ok (.iload_n 2, 1) := by decide +kernel
theorem d17 : decode yB 17 = .ok (.baload, 1) := by decide +kernel
theorem d18 : decode yB 18 = .ok (.aload_n 1, 1) := by decide +kernel
theorem d19 : decode yB 19 = .ok (.iload_n 2, 1) := by decide +kernel
theorem d20 : decode yB 20 = .ok (.baload, 1) := by decide +kernel
theorem d21 : decode yB 21 = .ok (.if_icmp (.eq) 5, 3) := by decide +kernel
theorem d24 : decode yB 24 = .ok (.iconst 0, 1) := by decide +kernel
theorem d25 : decode yB 25 = .ok (.ireturn, 1) := by decide +kernel
theorem d26 : decode yB 26 = .ok (.iinc 2 1, 3) := by decide +kernel
theorem d29 : decode yB 29 = .ok (.goto (-20), 3) := by decide +kernel
theorem d32 : decode yB 32 = .ok (.iconst 1, 1) := by decide +kernel
theorem d33 : decode yB 33 = .ok (.ireturn, 1) := by decide +kernel
theorem d34 : decode yB 34 = .ok (.iconst 0, 1) := by decide +kernel
theorem d35 : decode yB 35 = .ok (.ireturn, 1) := by decide +kernel
def site : List Cond := []
def tab : Cond := tabOf yN yB 3 (some .boolean) site
def P (a : Addr) (A : Cell) (b : Addr) (B : Cell) (args : Array Value) (s : State) : Prop := args = #[.ref a, .ref b] ∧ XT.Arr .byte a A s ∧ Typed .byte A ∧ XT.Arr .byte b B s ∧ Typed .byte B
/-- whether two byte[] are equal, place for place -/
theorem law (l : Launch) (a : Addr) (A : Cell) (b : Addr) (B : Cell) : Law l yN 2 2 0 0 yB 3 (some .boolean) site (P a A b B) (Says01 (EqC A B)) [] 0 0 := by
  refine Law.of_walk (plainFor_of_name (by decide +kernel)) (by decide +kernel) (by decide +kernel) (by decide) (fun _ _ h => by rw [h.1]; rfl) (fun _ U U' hal hh h => ⟨h.1, h.2.1.mv hal hh, h.2.2.1, h.2.2.2.1.mv hal hh, h.2.2.2.2⟩) (fun r U U' V V' h1 hal h2 h => Says01.mv r U U' V V' h1 hal h2 h) ?_
  intro p e s m args below meth c s₁ X0 hexec hbytes hml hret hlk hnm hown hh0 W hP
  obtain ⟨rfl, hA, tA, hB, tB⟩ := hP
  have a31 := hA.2.2.2
  have b31 := hB.2.2.2
  have hA0 := hA.mv X0.warmed.alike hh0
  have hB0 := hB.mv X0.warmed.alike hh0
  have c1 : Steps p.tables e below (s₁.setTop (entryFrame m #[.ref a, .ref b] 3)) (s₁.setTop (mkF m 0 #[.val (.ref a), .val (.ref b), .unset] [])) := entry rfl
  have c2 : Steps p.tables e below (s₁.setTop (entryFrame m #[.ref a, .ref b] 3)) (s₁.setTop (mkF m 4 #[.val (.ref a), .val (.ref b), .unset] [.int (Int32.ofNat B.slots.size), .int (Int32.ofNat A.slots.size)])) := c1.trans (by
    refine XS.aloadN X0.here hexec rfl (hb hbytes d0) rfl rfl ?_
    refine X0.alen hexec hA0 rfl rfl (hb hbytes d1) ?_
    refine XS.aloadN X0.here hexec rfl (hb hbytes d2) rfl rfl ?_
    refine X0.alen hexec hB0 rfl rfl (hb hbytes d3) ?_
    exact Steps.refl _)
  by_cases hs : A.slots.size = B.slots.size
  · have c3 : Steps p.tables e below (s₁.setTop (entryFrame m #[.ref a, .ref b] 3)) (s₁.setTop (mkF m 9 #[.val (.ref a), .val (.ref b), .val (.int 0)] [])) := c2.trans (by
      refine XS.icmpNo X0.here hexec rfl (hb hbytes d4) rfl (ii_ne_f (by rw [hs])) ?_
      refine iconstV X0.here hexec rfl 0 (hb hbytes d7) (by decide) ?_
      refine XS.istoreN X0.here hexec rfl (hb hbytes d8) rfl rfl ?_
      exact Steps.refl _)
    have loop : ∀ (r i : Nat), i + r = A.slots.size → (∀ j, j < i → yv A j = yv B j) → Steps p.tables e below (s₁.setTop (entryFrame m #[.ref a, .ref b] 3)) (s₁.setTop (mkF m 9 #[.val (.ref a), .val (.ref b), .val (.int (Int32.ofNat i))] [])) → ∃ (pc : Nat) (Ls : Array Slot) (v : Int32), (pc = 25 ∨ pc = 33) ∧ ((v = 1 ∧ EqC A B) ∨ (v = 0 ∧ ¬ EqC A B)) ∧ Steps p.tables e below (s₁.setTop (entryFrame m #[.ref a, .ref b] 3)) (s₁.setTop (mkF m pc Ls [.int v])) := by
      intro r
      induction r with
      | zero =>
        intro i hi he cl
        exact ⟨33, _, 1, Or.inr rfl, Or.inl ⟨rfl, hs, fun j hj => he j (by omega)⟩, cl.trans (by
          refine XS.iloadN X0.here hexec rfl (hb hbytes d9) rfl ?_
          refine XS.aloadN X0.here hexec rfl (hb hbytes d10) rfl rfl ?_
          refine X0.alen hexec hA0 rfl rfl (hb hbytes d11) ?_
          refine XS.icmpYes X0.here hexec rfl (pc0 := 12) rfl (hb hbytes d12) rfl (ii_ge_t (nlt32 (by omega) (by omega))) (by decide) rfl ?_
          refine iconstV X0.here hexec rfl 1 (hb hbytes d32) (by decide) ?_
          exact Steps.refl _)⟩
      | succ r ih =>
        intro i hi he cl
        have c4 : Steps p.tables e below (s₁.setTop (entryFrame m #[.ref a, .ref b] 3)) (s₁.setTop (mkF m 21 #[.val (.ref a), .val (.ref b), .val (.int (Int32.ofNat i))] [.int (yv B i), .int (yv A i)])) := cl.trans (by
          refine XS.iloadN X0.here hexec rfl (hb hbytes d9) rfl ?_
          refine XS.aloadN X0.here hexec rfl (hb hbytes d10) rfl rfl ?_
          refine X0.alen hexec hA0 rfl rfl (hb hbytes d11) ?_
          refine XS.icmpNo X0.here hexec rfl (hb hbytes d12) rfl (ii_ge_f (lt32 (by omega) (by omega))) ?_
          refine XS.aloadN X0.here hexec rfl (hb hbytes d15) rfl rfl ?_
          refine XS.iloadN X0.here hexec rfl (hb hbytes d16) rfl ?_
          refine X0.aget hexec hA0 rfl (yv_get hA tA (i := i) (by omega)) rfl rfl (hb hbytes d17) ?_
          refine XS.aloadN X0.here hexec rfl (hb hbytes d18) rfl rfl ?_
          refine XS.iloadN X0.here hexec rfl (hb hbytes d19) rfl ?_
          refine X0.aget hexec hB0 rfl (yv_get hB tB (i := i) (by omega)) rfl rfl (hb hbytes d20) ?_
          exact Steps.refl _)
        by_cases hv : yv A i = yv B i
        · have c5 : Steps p.tables e below (s₁.setTop (entryFrame m #[.ref a, .ref b] 3)) (s₁.setTop (mkF m 9 #[.val (.ref a), .val (.ref b), .val (.int (Int32.ofNat i + 1))] [])) := c4.trans (by
            refine XS.icmpYes X0.here hexec rfl (pc0 := 21) rfl (hb hbytes d21) rfl (ii_eq_t hv) (by decide) rfl ?_
            refine iincV X0.here hexec rfl 1 (hb hbytes d26) (by decide) rfl rfl ?_
            refine XS.goto X0.here hexec rfl (pc0 := 29) rfl (hb hbytes d29) (by decide) rfl ?_
            exact Steps.refl _)
          rw [succ32] at c5
          exact ih (i + 1) (by omega) (fun j hj => by
            by_cases e : j = i
            · rw [e]; exact hv
            · exact he j (by omega)) c5
        · exact ⟨25, _, 0, Or.inl rfl, Or.inr ⟨rfl, fun q => hv (q.2 i (by omega))⟩, c4.trans (by
            refine XS.icmpNo X0.here hexec rfl (hb hbytes d21) rfl (ii_eq_f hv) ?_
            refine iconstV X0.here hexec rfl 0 (hb hbytes d24) (by decide) ?_
            exact Steps.refl _)⟩
    obtain ⟨pc, Ls, v, hpc, hv, cz⟩ := loop A.slots.size 0 (by omega) (fun j hj => absurd hj (Nat.not_lt_zero j)) c3
    have nv : narrow .boolean (.int v) = .int v := by rcases hv with ⟨rfl, -⟩ | ⟨rfl, -⟩ <;> rfl
    rcases hpc with rfl | rfl
    · exact ⟨s₁, some (.int v), _, _, _, X0, rfl, rfl, rfl, (fun h => by cases h), ⟨v, rfl, hh0, hv⟩, fun fs hl => cz.trans (X0.ireturnOut hexec hret nv (Or.inr (Or.inl rfl)) (hb hbytes d25) hl)⟩
    · exact ⟨s₁, some (.int v), _, _, _, X0, rfl, rfl, rfl, (fun h => by cases h), ⟨v, rfl, hh0, hv⟩, fun fs hl => cz.trans (X0.ireturnOut hexec hret nv (Or.inr (Or.inl rfl)) (hb hbytes d33) hl)⟩
  · have c3 : Steps p.tables e below (s₁.setTop (entryFrame m #[.ref a, .ref b] 3)) (s₁.setTop (mkF m 35 #[.val (.ref a), .val (.ref b), .unset] [.int 0])) := c2.trans (by
      refine XS.icmpYes X0.here hexec rfl (pc0 := 4) rfl (hb hbytes d4) rfl (ii_ne_t (ne32 a31 b31 hs)) (by decide) rfl ?_
      refine iconstV X0.here hexec rfl 0 (hb hbytes d34) (by decide) ?_
      exact Steps.refl _)
    exact ⟨s₁, some (.int 0), _, _, _, X0, rfl, rfl, rfl, (fun h => by cases h), ⟨0, rfl, hh0, Or.inr ⟨rfl, fun q => hs q.1⟩⟩, fun fs hl => c3.trans (X0.ireturnOut hexec hret rfl (Or.inr (Or.inl rfl)) (hb hbytes d35) hl)⟩
end LEq
theorem Cod.ty {cd : Int32} {n : Nat} {f : Nat → Int32} {V : Cell} (h : Cod cd n f V) : Typed .byte V := fun i v hv => by
  have hi : i < V.slots.size := (Array.getElem?_eq_some_iff.mp hv).1
  rcases h with ⟨-, k1, k2⟩ | ⟨-, k1, k2, -⟩
  · rw [(k2 i (by omega)).1] at hv; cases hv; exact fits_lo8 _
  · rcases Nat.mod_two_eq_zero_or_one i with e | e
    · obtain ⟨j, rfl⟩ : ∃ j, i = 2 * j := ⟨i / 2, by omega⟩
      rw [(k2 j (by omega)).1] at hv; cases hv; exact fits_lo8 _
    · obtain ⟨j, rfl⟩ : ∃ j, i = 2 * j + 1 := ⟨i / 2, by omega⟩
      rw [(k2 j (by omega)).2] at hv; cases hv; exact fits_lo8 _
/-- the same text -/
def SameT (n : Nat) (f : Nat → Int32) (k : Nat) (g : Nat → Int32) : Prop := n = k ∧ ∀ j, j < n → f j = g j
theorem lo8_inj {x y : Int32} (h0 : ¬ x < 0) (h1 : ¬ 255 < x) (k0 : ¬ y < 0) (k1 : ¬ 255 < y) (h : lo8 x = lo8 y) : x = y := by
  rw [← lo8_mask h0 h1, ← lo8_mask k0 k1, h]
/-- arrays coded by one coder are equal just where the texts are -/
theorem Cod.eqv {cd : Int32} {n k : Nat} {f g : Nat → Int32} {V V' : Cell} (h : Cod cd n f V) (h' : Cod cd k g V') (hf : ∀ j, j < n → ¬ f j < 0 ∧ ¬ 65535 < f j) (hg : ∀ j, j < k → ¬ g j < 0 ∧ ¬ 65535 < g j) : EqC V V' ↔ SameT n f k g := by
  have yvv : ∀ {W : Cell} {i : Nat} {x : Int32}, W.slots[i]? = some (.int x) → yv W i = x := fun q => by unfold yv; rw [q]
  rcases h with ⟨rfl, k1, k2⟩ | ⟨rfl, k1, k2, -⟩
  · rcases h' with ⟨-, m1, m2⟩ | ⟨e, -⟩
    · constructor
      · rintro ⟨e1, e2⟩
        refine ⟨by omega, fun j hj => ?_⟩
        have q := e2 j (by omega)
        rw [yvv (k2 j hj).1, yvv (m2 j (by omega)).1] at q
        exact lo8_inj (hf j hj).1 (k2 j hj).2 (hg j (by omega)).1 (m2 j (by omega)).2 q
      · rintro ⟨rfl, e2⟩
        refine ⟨by omega, fun j hj => ?_⟩
        rw [yvv (k2 j (by omega)).1, yvv (m2 j (by omega)).1, e2 j (by omega)]
    · exact absurd e (by decide)
  · rcases h' with ⟨e, -⟩ | ⟨-, m1, m2, -⟩
    · exact absurd e (by decide)
    · constructor
      · rintro ⟨e1, e2⟩
        refine ⟨by omega, fun j hj => ?_⟩
        have q1 := e2 (2 * j) (by omega)
        have q2 := e2 (2 * j + 1) (by omega)
        rw [yvv (k2 j hj).1, yvv (m2 j (by omega)).1] at q1
        rw [yvv (k2 j hj).2, yvv (m2 j (by omega)).2] at q2
        rw [← pair_says (hf j hj).1 (hf j hj).2, ← pair_says (hg j (by omega)).1 (hg j (by omega)).2, q1, q2]
      · rintro ⟨rfl, e2⟩
        refine ⟨by omega, fun i hi => ?_⟩
        rcases Nat.mod_two_eq_zero_or_one i with e | e
        · obtain ⟨j, rfl⟩ : ∃ j, i = 2 * j := ⟨i / 2, by omega⟩
          rw [yvv (k2 j (by omega)).1, yvv (m2 j (by omega)).1, e2 j (by omega)]
        · obtain ⟨j, rfl⟩ : ∃ j, i = 2 * j + 1 := ⟨i / 2, by omega⟩
          rw [yvv (k2 j (by omega)).2, yvv (m2 j (by omega)).2, e2 j (by omega)]
/-- two codings differ: so do the texts -/
theorem Cod.dif {cd cd' : Int32} {n k : Nat} {f g : Nat → Int32} {V V' : Cell} (h : Cod cd n f V) (h' : Cod cd' k g V') (hne : ¬ cd = cd') : ¬ SameT n f k g := by
  rintro ⟨rfl, e⟩
  rcases h with ⟨rfl, -, k2⟩ | ⟨rfl, -, -, j, hj, hw⟩
  · rcases h' with ⟨rfl, -⟩ | ⟨-, -, -, j, hj, hw⟩
    · exact hne rfl
    · exact (k2 j hj).2 (by rw [e j hj]; exact hw)
  · rcases h' with ⟨-, -, m2⟩ | ⟨rfl, -⟩
    · exact (m2 j hj).2 (by rw [← e j hj]; exact hw)
    · exact hne rfl
/-- an object of exactly C is an instance of C -/
theorem cinst {p : Program} {l : Launch} {e : Env} {R : Room} {s : State} {m : MethodId} {args : Array Value} {below : List Frame} {meth : Method} {c : Code} {T : State} {locs : List Loc} {cells slots : Nat} (X : Stand p l e R s m args below meth c T locs cells slots) (hexec : p.tables.exec = Jvm.exec) {own C : String} {index : Nat} (hown : s.vm.findClass own = some m.cls) (hlink : (Cond.classLink own index C).before args s = true) {a : Addr} (hE : Exact C a T)
    {g : JFrame} (hg : g.method = m) {rest : List Value} (hstack : g.stack = .ref a :: rest) (hdg : decode c.code g.pc = .ok (.instanceof index, 3)) :
    ∃ T', Stand p l e R s m args below meth c T' locs cells slots ∧ T'.heap = T.heap ∧ ∀ target, Steps p.tables e below (T'.setTop { g with pc := g.pc + 3, stack := .int 1 :: rest }) target → Steps p.tables e below (T.setTop g) target := by
  obtain ⟨cB, h1, D, h2, h3, h4⟩ := hE
  have h1' : s.vm.findClass C = some cB := by rw [← X.warmed.alike.findClass]; exact h1
  obtain ⟨vm', X', st⟩ := X.instanceofYes hexec hown hlink h2 h4 h1' (by rw [h3]; exact Jvm.Free.SB.assignable_self _ _) hg hstack hdg
  exact ⟨_, X', rfl, st⟩
theorem cself {p : Program} {l : Launch} {e : Env} {R : Room} {s : State} {m : MethodId} {args : Array Value} {below : List Frame} {meth : Method} {c : Code} {T : State} {locs : List Loc} {cells slots : Nat} (X : Stand p l e R s m args below meth c T locs cells slots) (hexec : p.tables.exec = Jvm.exec) {own C : String} {index : Nat} (hown : s.vm.findClass own = some m.cls) (hlink : (Cond.classLink own index C).before args s = true) {a : Addr} (hE : Exact C a T)
    {g : JFrame} (hg : g.method = m) {rest : List Value} (hstack : g.stack = .ref a :: rest) (hdg : decode c.code g.pc = .ok (.checkcast index, 3)) :
    ∃ T', Stand p l e R s m args below meth c T' locs cells slots ∧ T'.heap = T.heap ∧ ∀ target, Steps p.tables e below (T'.setTop { g with pc := g.pc + 3, stack := .ref a :: rest }) target → Steps p.tables e below (T.setTop g) target := by
  obtain ⟨cB, h1, D, h2, h3, h4⟩ := hE
  have h1' : s.vm.findClass C = some cB := by rw [← X.warmed.alike.findClass]; exact h1
  obtain ⟨vm', X', st⟩ := X.checkcastYes hexec hown hlink h2 h4 h1' (by rw [h3]; exact Jvm.Free.SB.assignable_self _ _) hg hstack hdg
  exact ⟨_, X', rfl, fun t h => st t (by rw [← hstack] at h; exact h)⟩
namespace SEq
def yN : MethodName := ⟨"java/lang/String", "equals", "(Ljava/lang/Object;)Z"⟩
abbrev yB : ByteArray := jdk_42_method_66_code
theorem d0 : decode yB 0 = .ok (.aload_n 0, 1) := by decide +kernel
theorem d1 : decode yB 1 = .ok (.aload_n 1, 1) := by decide +kernel
theorem d2 : decode yB 2 = .ok (.if_acmp (.ne) 5, 3) := by decide +kernel
theorem d5 : decode yB 5 = .ok (.iconst 1, 1) := by decide +kernel
theorem d6 : decode yB 6 = .ok (.ireturn, 1) := by decide +kernel
theorem d7 : decode yB 7 = .ok (.aload_n 1, 1) := by decide +kernel
theorem d8 : decode yB 8 = .ok (.instanceof 10, 3) := by decide +kernel
theorem d11 : decode yB 11 = .ok (.ifCond (.eq) 43, 3) := by decide +kernel
theorem d14 : decode yB 14 = .ok (.aload_n 1, 1) := by decide +kernel
theorem d15 : decode yB 15 = .ok (.checkcast 10, 3) := by decide +kernel
theorem d18 : decode yB 18 = .ok (.astore_n 2, 1) := by decide +kernel
theorem d19 : decode yB 19 = .ok (.getstatic 38, 3) := by decide +kernel
theorem d22 : decode yB 22 = .ok (.ifCond (.eq) 14, 3) := by decide +kernel
theorem d25 : decode yB 25 = .ok (.aload_n 0, 1) := by decide +kernel
theorem d26 : decode yB 26 = .ok (.getfield 15, 3) := by decide +kernel
theorem d29 : decode yB 29 = .ok (.aload_n 2, 1) := by decide +kernel
theorem d30 : decode yB 30 = .ok (.getfield 15, 3) := by decide +kernel
theorem d33 : decode yB 33 = .ok (.if_icmp (.ne) 21, 3) := by decide +kernel
theorem d36 : decode yB 36 = .ok (.aload_n 0, 1) := by decide +kernel
theorem d37 : decode yB 37 = .ok (.getfield 9, 3) := by decide +kernel
theorem d40 : decode yB 40 = .ok (.aload_n 2, 1) := by decide +kernel
theorem d41 : decode yB 41 = .ok (.getfield 9, 3) := by decide +kernel
theorem d44 : decode yB 44 = .ok (.invokestatic 541, 3) := by decide +kernel
theorem d47 : decode yB 47 = .ok (.ifCond (.eq) 7, 3) := by decide +kernel
theorem d50 : decode yB 50 = .ok (.iconst 1, 1) := by decide +kernel
theorem d51 : decode yB 51 = .ok (.goto 4, 3) := by decide +kernel
theorem d54 : decode yB 54 = .ok (.iconst 0, 1) := by decide +kernel
theorem d55 : decode yB 55 = .ok (.ireturn, 1) := by decide +kernel
def site : List Cond := [.classLink "java/lang/String" 10 "java/lang/String", .fieldLink "java/lang/String" 38 "java/lang/String" "COMPACT_STRINGS" "Z", .fieldLink "java/lang/String" 15 "java/lang/String" "coder" "B", .fieldLink "java/lang/String" 9 "java/lang/String" "value" "[B", LEq.tab] ++ staticW "java/lang/String" 541 LEq.yN
def tab : Cond := tabOf yN yB 3 (some .boolean) site
def P (x t : Addr) (V : Cell) (cd : Int32) (n : Nat) (f : Nat → Int32) (y t' : Addr) (V' : Cell) (cd' : Int32) (k : Nat) (g : Nat → Int32) (z : Int32) (args : Array Value) (s : State) : Prop := args = #[.ref x, .ref y] ∧ Txt x t V cd n f s ∧ Txt y t' V' cd' k g s ∧ StaticIs s "java/lang/String" "COMPACT_STRINGS" "Z" (.int z) ∧ ¬ z = 0
/-- equals(Object) of two Strings: whether the texts are the same -/
theorem law (l : Launch) (x t : Addr) (V : Cell) (cd : Int32) (n : Nat) (f : Nat → Int32) (y t' : Addr) (V' : Cell) (cd' : Int32) (k : Nat) (g : Nat → Int32) (z : Int32) : Law l yN 2 1 1 14 yB 3 (some .boolean) site (P x t V cd n f y t' V' cd' k g z) (Says01 (SameT n f k g)) [] 0 0 := by
  refine Law.of_walk (plainFor_of_name (by decide +kernel)) (by decide +kernel) (by decide +kernel) (by decide) (fun _ _ h => by rw [h.1]; rfl) (fun _ U U' hal hh h => ⟨h.1, h.2.1.mv hal hh, h.2.2.1.mv hal hh, h.2.2.2.1.there hal hh, h.2.2.2.2⟩) (fun r U U' V V' h1 hal h2 h => Says01.mv r U U' V V' h1 hal h2 h) ?_
  intro p e s m args below meth c s₁ X0 hexec hbytes hml hret hlk hnm hown hh0 W hP
  obtain ⟨rfl, hx, hy, s1, hz⟩ := hP
  have c1 : Steps p.tables e below (s₁.setTop (entryFrame m #[.ref x, .ref y] 3)) (s₁.setTop (mkF m 2 #[.val (.ref x), .val (.ref y), .unset] [.ref y, .ref x])) := Steps.trans (entry rfl) (by
    show Steps p.tables e below (s₁.setTop (mkF m 0 #[.val (.ref x), .val (.ref y), .unset] [])) _
    refine XS.aloadN X0.here hexec rfl (hb hbytes d0) rfl rfl ?_
    refine XS.aloadN X0.here hexec rfl (hb hbytes d1) rfl rfl ?_
    exact Steps.refl _)
  by_cases hxy : x = y
  · have c2 : Steps p.tables e below (s₁.setTop (entryFrame m #[.ref x, .ref y] 3)) (s₁.setTop (mkF m 6 #[.val (.ref x), .val (.ref y), .unset] [.int 1])) := c1.trans (by
      refine acmpNo X0.here hexec rfl (hb hbytes d2) rfl rfl rfl (by simp [acmp, hxy]) ?_
      refine iconstV X0.here hexec rfl 1 (hb hbytes d5) (by decide) ?_
      exact Steps.refl _)
    subst hxy
    have ec : cd = cd' := by
      obtain ⟨D, fd, a1, a2, a3⟩ := hx.2.2.1
      obtain ⟨D', fd', b1, b2, b3⟩ := hy.2.2.1
      cases a1.symm.trans b1
      obtain ⟨q1, q2, q3, q4⟩ := a2.1
      obtain ⟨r1, r2, r3, r4⟩ := b2.1
      cases q4.symm.trans r4
      cases a3.symm.trans b3; rfl
    have et : t = t' := by
      obtain ⟨D, fd, a1, a2, a3⟩ := hx.2.1
      obtain ⟨D', fd', b1, b2, b3⟩ := hy.2.1
      cases a1.symm.trans b1
      obtain ⟨q1, q2, q3, q4⟩ := a2.1
      obtain ⟨r1, r2, r3, r4⟩ := b2.1
      cases q4.symm.trans r4
      cases a3.symm.trans b3; rfl
    subst ec et
    have ev : V = V' := by cases hx.2.2.2.1.1.symm.trans hy.2.2.2.1.1; rfl
    subst ev
    have hs : SameT n f k g := (Cod.eqv hx.2.2.2.2.1 hy.2.2.2.2.1 hx.2.2.2.2.2 hy.2.2.2.2.2).mp ⟨rfl, fun _ _ => rfl⟩
    exact ⟨s₁, some (.int 1), _, _, _, X0, rfl, rfl, rfl, (fun h => by cases h), ⟨1, rfl, hh0, Or.inl ⟨rfl, hs⟩⟩, fun fs hl => c2.trans (X0.ireturnOut hexec hret rfl (Or.inr (Or.inl rfl)) (hb hbytes d6) hl)⟩
  · have c2 : Steps p.tables e below (s₁.setTop (entryFrame m #[.ref x, .ref y] 3)) (s₁.setTop (mkF m 8 #[.val (.ref x), .val (.ref y), .unset] [.ref y])) := c1.trans (by
      refine acmpYes X0.here hexec rfl (pc0 := 2) rfl (hb hbytes d2) rfl rfl rfl (by simp [acmp, hxy]) (by decide) rfl ?_
      refine XS.aloadN X0.here hexec rfl (hb hbytes d7) rfl rfl ?_
      exact Steps.refl _)
    obtain ⟨T3, X3, q3, st3⟩ := cinst X0 hexec hown (wk W (.classLink "java/lang/String" 10 "java/lang/String")) (hy.mv X0.warmed.alike hh0).1 (g := (mkF m 8 #[.val (.ref x), .val (.ref y), .unset] [.ref y])) rfl (rest := []) rfl (hb hbytes d8)
    have hh3 := q3.trans hh0
    have c4 : Steps p.tables e below (s₁.setTop (entryFrame m #[.ref x, .ref y] 3)) (T3.setTop (mkF m 15 #[.val (.ref x), .val (.ref y), .unset] [.ref y])) := (c2.trans (st3 _ (Steps.refl _))).trans (by
      refine XS.ifNo X3.here hexec rfl (hb hbytes d11) rfl (i0_eq_f (by decide)) ?_
      refine XS.aloadN X3.here hexec rfl (hb hbytes d14) rfl rfl ?_
      exact Steps.refl _)
    obtain ⟨T5, X5, q5, st5⟩ := cself X3 hexec hown (wk W (.classLink "java/lang/String" 10 "java/lang/String")) (hy.mv X3.warmed.alike hh3).1 (g := (mkF m 15 #[.val (.ref x), .val (.ref y), .unset] [.ref y])) rfl (rest := []) rfl (hb hbytes d15)
    have hh5 := q5.trans hh3
    have c6 : Steps p.tables e below (s₁.setTop (entryFrame m #[.ref x, .ref y] 3)) (T5.setTop (mkF m 19 #[.val (.ref x), .val (.ref y), .val (.ref y)] [])) := (c4.trans (st5 _ (Steps.refl _))).trans (by
      refine XS.astoreN X5.here hexec rfl (hb hbytes d18) rfl rfl rfl ?_
      exact Steps.refl _)
    obtain ⟨T7, X7, q7, st7⟩ := X5.sget hexec hown (wk W (.fieldLink "java/lang/String" 38 "java/lang/String" "COMPACT_STRINGS" "Z")) s1 (fun _ _ h => by rw [hh5]; exact h) (g := (mkF m 19 #[.val (.ref x), .val (.ref y), .val (.ref y)] [])) rfl (hb hbytes d19)
    have hh7 := q7.trans hh5
    have c8 : Steps p.tables e below (s₁.setTop (entryFrame m #[.ref x, .ref y] 3)) (T7.setTop (mkF m 26 #[.val (.ref x), .val (.ref y), .val (.ref y)] [.ref x])) := (c6.trans (st7 _ (Steps.refl _))).trans (by
      refine XS.ifNo X7.here hexec rfl (hb hbytes d22) rfl (i0_eq_f hz) ?_
      refine XS.aloadN X7.here hexec rfl (hb hbytes d25) rfl rfl ?_
      exact Steps.refl _)
    obtain ⟨T9, X9, q9, st9⟩ := X7.hget hexec hown (wk W (.fieldLink "java/lang/String" 15 "java/lang/String" "coder" "B")) (hx.mv X7.warmed.alike hh7).2.2.1 (g := (mkF m 26 #[.val (.ref x), .val (.ref y), .val (.ref y)] [.ref x])) rfl (rest := []) rfl (hb hbytes d26)
    have hh9 := q9.trans hh7
    have c10 : Steps p.tables e below (s₁.setTop (entryFrame m #[.ref x, .ref y] 3)) (T9.setTop (mkF m 30 #[.val (.ref x), .val (.ref y), .val (.ref y)] [.ref y, .int cd])) := (c8.trans (st9 _ (Steps.refl _))).trans (by
      refine XS.aloadN X9.here hexec rfl (hb hbytes d29) rfl rfl ?_
      exact Steps.refl _)
    obtain ⟨T11, X11, q11, st11⟩ := X9.hget hexec hown (wk W (.fieldLink "java/lang/String" 15 "java/lang/String" "coder" "B")) (hy.mv X9.warmed.alike hh9).2.2.1 (g := (mkF m 30 #[.val (.ref x), .val (.ref y), .val (.ref y)] [.ref y, .int cd])) rfl (rest := [.int cd]) rfl (hb hbytes d30)
    have hh11 := q11.trans hh9
    have c12 : Steps p.tables e below (s₁.setTop (entryFrame m #[.ref x, .ref y] 3)) (T11.setTop (mkF m 33 #[.val (.ref x), .val (.ref y), .val (.ref y)] [.int cd', .int cd])) := c10.trans (st11 _ (Steps.refl _))
    by_cases hcd : cd = cd'
    · subst hcd
      have c13 : Steps p.tables e below (s₁.setTop (entryFrame m #[.ref x, .ref y] 3)) (T11.setTop (mkF m 37 #[.val (.ref x), .val (.ref y), .val (.ref y)] [.ref x])) := c12.trans (by
        refine XS.icmpNo X11.here hexec rfl (hb hbytes d33) rfl (ii_ne_f rfl) ?_
        refine XS.aloadN X11.here hexec rfl (hb hbytes d36) rfl rfl ?_
        exact Steps.refl _)
      obtain ⟨T14, X14, q14, st14⟩ := X11.hget hexec hown (wk W (.fieldLink "java/lang/String" 9 "java/lang/String" "value" "[B")) (hx.mv X11.warmed.alike hh11).2.1 (g := (mkF m 37 #[.val (.ref x), .val (.ref y), .val (.ref y)] [.ref x])) rfl (rest := []) rfl (hb hbytes d37)
      have hh14 := q14.trans hh11
      have c15 : Steps p.tables e below (s₁.setTop (entryFrame m #[.ref x, .ref y] 3)) (T14.setTop (mkF m 41 #[.val (.ref x), .val (.ref y), .val (.ref y)] [.ref y, .ref t])) := (c13.trans (st14 _ (Steps.refl _))).trans (by
        refine XS.aloadN X14.here hexec rfl (hb hbytes d40) rfl rfl ?_
        exact Steps.refl _)
      obtain ⟨T16, X16, q16, st16⟩ := X14.hget hexec hown (wk W (.fieldLink "java/lang/String" 9 "java/lang/String" "value" "[B")) (hy.mv X14.warmed.alike hh14).2.1 (g := (mkF m 41 #[.val (.ref x), .val (.ref y), .val (.ref y)] [.ref y, .ref t])) rfl (rest := [.ref t]) rfl (hb hbytes d41)
      have hh16 := q16.trans hh14
      have c17 : Steps p.tables e below (s₁.setTop (entryFrame m #[.ref x, .ref y] 3)) (T16.setTop (mkF m 44 #[.val (.ref x), .val (.ref y), .val (.ref y)] [.ref t', .ref t])) := c15.trans (st16 _ (Steps.refl _))
      obtain ⟨v18, T18, X18, E18, g18⟩ := X16.callS hexec (LEq.law l t V t' V') hown (wks W (staticW "java/lang/String" 541 LEq.yN)) (wk W LEq.tab) (W := 0) (Nat.le_of_ble_eq_true rfl) (Nat.le_of_ble_eq_true rfl) (Nat.le_refl _) (Nat.le_refl _) (g := (mkF m 44 #[.val (.ref x), .val (.ref y), .val (.ref y)] [.ref t', .ref t])) rfl (by rw [hml]; rfl) c17 (argsL := [.ref t, .ref t']) (rest := []) rfl rfl (by show 2 * 0 + 0 ≤ _; decide) (hb hbytes d44) (⟨rfl, hx.2.2.2.1.mv X16.warmed.alike hh16, hx.2.2.2.2.1.ty, hy.2.2.2.1.mv X16.warmed.alike hh16, hy.2.2.2.2.1.ty⟩)
      obtain ⟨v, rfl, q18, hv⟩ := E18
      have iff := Cod.eqv hx.2.2.2.2.1 hy.2.2.2.2.1 hx.2.2.2.2.2 hy.2.2.2.2.2
      rcases hv with ⟨rfl, he⟩ | ⟨rfl, he⟩
      · have c19 : Steps p.tables e below (s₁.setTop (entryFrame m #[.ref x, .ref y] 3)) (T18.setTop (mkF m 55 #[.val (.ref x), .val (.ref y), .val (.ref y)] [.int 1])) := Steps.trans g18 (by
          refine XS.ifNo X18.here hexec rfl (hb hbytes d47) rfl (i0_eq_f (by decide)) ?_
          refine iconstV X18.here hexec rfl 1 (hb hbytes d50) (by decide) ?_
          refine XS.goto X18.here hexec rfl (pc0 := 51) rfl (hb hbytes d51) (by decide) rfl ?_
          exact Steps.refl _)
        exact ⟨T18, some (.int 1), _, _, _, X18, rfl, rfl, rfl, (fun h => by cases h), ⟨1, rfl, q18.trans hh16, Or.inl ⟨rfl, iff.mp he⟩⟩, fun fs hl => c19.trans (X18.ireturnOut hexec hret rfl (Or.inr (Or.inl rfl)) (hb hbytes d55) hl)⟩
      · have c19 : Steps p.tables e below (s₁.setTop (entryFrame m #[.ref x, .ref y] 3)) (T18.setTop (mkF m 55 #[.val (.ref x), .val (.ref y), .val (.ref y)] [.int 0])) := Steps.trans g18 (by
          refine XS.ifYes X18.here hexec rfl (pc0 := 47) rfl (hb hbytes d47) rfl (i0_eq_t rfl) (by decide) rfl ?_
          refine iconstV X18.here hexec rfl 0 (hb hbytes d54) (by decide) ?_
          exact Steps.refl _)
        exact ⟨T18, some (.int 0), _, _, _, X18, rfl, rfl, rfl, (fun h => by cases h), ⟨0, rfl, q18.trans hh16, Or.inr ⟨rfl, fun q => he (iff.mpr q)⟩⟩, fun fs hl => c19.trans (X18.ireturnOut hexec hret rfl (Or.inr (Or.inl rfl)) (hb hbytes d55) hl)⟩
    · have c13 : Steps p.tables e below (s₁.setTop (entryFrame m #[.ref x, .ref y] 3)) (T11.setTop (mkF m 55 #[.val (.ref x), .val (.ref y), .val (.ref y)] [.int 0])) := c12.trans (by
        refine XS.icmpYes X11.here hexec rfl (pc0 := 33) rfl (hb hbytes d33) rfl (ii_ne_t hcd) (by decide) rfl ?_
        refine iconstV X11.here hexec rfl 0 (hb hbytes d54) (by decide) ?_
        exact Steps.refl _)
      exact ⟨T11, some (.int 0), _, _, _, X11, rfl, rfl, rfl, (fun h => by cases h), ⟨0, rfl, hh11, Or.inr ⟨rfl, Cod.dif hx.2.2.2.2.1 hy.2.2.2.2.1 hcd⟩⟩, fun fs hl => c13.trans (X11.ireturnOut hexec hret rfl (Or.inr (Or.inl rfl)) (hb hbytes d55) hl)⟩
theorem pays {l : Launch} {R : Room} {p : Program} {e : Env} {below : List Frame} {s : State} {sargs : Array Value} {len W : Nat} (x t : Addr) (V : Cell) (cd : Int32) (n : Nat) (f : Nat → Int32) (y t' : Addr) (V' : Cell) (cd' : Int32) (k : Nat) (g : Nat → Int32) (z : Int32) (htab : tab.before sargs s = true) (hfr : 2 ≤ R.frames) (hlo : W + 28 ≤ R.locals) :
    Back l R p e below s sargs yN len W (fun A₁ a₁ => A₁.cells + 0 ≤ R.cells ∧ A₁.slots + 0 ≤ R.slots ∧ P x t V cd n f y t' V' cd' k g z a₁ A₁.U) (fun A₁ _ v₁ B₁ => Says01 (SameT n f k g) v₁ A₁.U B₁.U ∧ B₁.locs = A₁.locs ++ [] ∧ B₁.cells = A₁.cells + 0 ∧ B₁.slots = A₁.slots + 0) :=
  (law l x t V cd n f y t' V' cd' k g z).pays htab hfr (by omega)
end SEq
end StrChars
namespace StrChars.Road
open Jvm Sem ClassFile Op Lib Jvm.Stand Jvm.Free Jvm.Free.XT
open Jvm.Lib.Cold (StaticIs)
/-- the words of String.equals(Object) -/
abbrev wordsEq : List Jvm.Cond := [.code SEq.yN SEq.yB 3 (some .boolean), .initialized ST, .classLink ST 10 ST, .fieldLink ST 38 ST "COMPACT_STRINGS" "Z", .fieldLink ST 15 ST "coder" "B", .fieldLink ST 9 ST "value" "[B", .methodLink ST 541 LEq.yN, .static LEq.yN, .code LEq.yN LEq.yB 3 (some .boolean), .initialized "java/lang/StringLatin1"]
theorem tabEq_of {a : Array Value} {s : State} (h : ∀ w ∈ wordsEq, w.before a s = true) : SEq.tab.before a s = true := by
  have hl : LEq.tab.before a s = true := unparts (wk h (.code LEq.yN LEq.yB 3 (some .boolean))) (wks h (.initialized LEq.yN.cls :: LEq.site))
  have q := consq hl h
  exact unparts (wk q (.code SEq.yN SEq.yB 3 (some .boolean))) (wks q (.initialized SEq.yN.cls :: SEq.site))
theorem movedEq {Z s : State} {a0 args : Array Value} (hZ : Z.Warmed39 s.vm) (hw : ∀ d ∈ wordsEq, d.before a0 Z = true) : ∀ d ∈ wordsEq, d.before args s = true := fun d hd => by
  have t : ∀ d ∈ wordsEq, (d.onTables && d.keepsFace) = true := by decide +kernel
  exact RoadKit.mv hZ (hw d hd) (t d hd)
/-- the road's facts of a String, as the laws ask it -/
theorem txt_of {Z U : State} {a0 : Array Value} {kI : Nat} (wi : (Jvm.Cond.instantiable ST kI).before a0 Z = true) (al : Z.vm.Alike U.vm) {x t : Addr} {kb : ClassId} {cs : List Int32} {cd N2 : Int32} {vs : List Value} (E : RoadKit.Exa Z U.heap x ST) (V : RoadKit.Fld Z U.heap x ST "value" "[B" (.ref t)) (C : RoadKit.Fld Z U.heap x ST "coder" "B" (.int cd)) (K : RoadKit.Arv Z U.heap t kb .byte N2 vs (.int 0)) (hc : CodA cs cd N2 vs) (hb : ∀ c ∈ cs, ¬ c < 0 ∧ ¬ (65535 : Int32) < c) (l2 : cs.length ≤ 4000) :
    ∃ A, Txt x t A cd cs.length (fun j => cs.getD j 0) U := by
  obtain ⟨A, K1, K2, K3, K4, K5, K6⟩ := K
  have hcod := hc.cod (by omega) K3 K5
  obtain ⟨D, fV, fC, hB, F1, F2, g1, g2, -, -⟩ := strObj wi al E V C
  exact ⟨A, ⟨_, hB.2.2.1, D, hB.1, rfl, by cases q : D.vm <;> first | rfl | exact absurd q (hB.2.1.2 _)⟩, Has.of hB F1 g1, Has.of hB F2 g2, ⟨K1.1, State.isArrayOf_alike al K1.2.1, K1.2.2, by rcases hcod with ⟨-, q, -⟩ | ⟨-, q, -⟩ <;> omega⟩, hcod, fun j hj => by
    have e : cs.getD j 0 = cs[j] := by simp [List.getD_eq_getElem?_getD, hj]
    show ¬ cs.getD j 0 < 0 ∧ ¬ 65535 < cs.getD j 0
    rw [e]; exact hb _ (List.getElem_mem _)⟩
theorem same_list (cs ds : List Int32) : SameT cs.length (fun j => cs.getD j 0) ds.length (fun j => ds.getD j 0) ↔ cs = ds := by
  constructor
  · rintro ⟨e, q⟩
    refine List.ext_getElem e fun j h1 h2 => ?_
    have := q j h1
    simpa [List.getD_eq_getElem?_getD, h1, h2] using this
  · rintro rfl
    exact ⟨rfl, fun _ _ => rfl⟩
/-- **equals(Object) OF TWO SUCH STRINGS**: 1 just where the chars are the same -/
theorem eqW {p : Program} {l : Launch} {e : Env} {R : Room} {s : State} {args : Array Value} {below : List Frame} {len W : Nat} {Z : State} {a0 : Array Value} {h : Heap} (hZ : Z.Warmed39 s.vm) (hw : ∀ d ∈ wordsEq, d.before a0 Z = true) {kI : Nat} (wi : (Jvm.Cond.instantiable ST kI).before a0 Z = true)
    {x t : Addr} {kb : ClassId} {cs : List Int32} {cd N2 : Int32} {vs : List Value} (E : RoadKit.Exa Z h x ST) (V : RoadKit.Fld Z h x ST "value" "[B" (.ref t)) (C : RoadKit.Fld Z h x ST "coder" "B" (.int cd)) (K : RoadKit.Arv Z h t kb .byte N2 vs (.int 0)) (hc : CodA cs cd N2 vs) (hb : ∀ c ∈ cs, ¬ c < 0 ∧ ¬ (65535 : Int32) < c) (l2 : cs.length ≤ 4000)
    {y t' : Addr} {kb' : ClassId} {ds : List Int32} {cd' N2' : Int32} {vs' : List Value} (E' : RoadKit.Exa Z h y ST) (V' : RoadKit.Fld Z h y ST "value" "[B" (.ref t')) (C' : RoadKit.Fld Z h y ST "coder" "B" (.int cd')) (K' : RoadKit.Arv Z h t' kb' .byte N2' vs' (.int 0)) (hc' : CodA ds cd' N2' vs') (hb' : ∀ c ∈ ds, ¬ c < 0 ∧ ¬ (65535 : Int32) < c) (l2' : ds.length ≤ 4000)
    {z : Int32} (S : RoadKit.Sta Z h ST "COMPACT_STRINGS" "Z" (.int z)) (hz : ¬ z = 0) (hfr : 2 ≤ R.frames) (hlo : W + 28 ≤ R.locals) :
    Back l R p e below s args (⟨"java/lang/String", "equals", "(Ljava/lang/Object;)Z"⟩ : MethodName) len W (fun P a => a = #[.ref x, .ref y] ∧ P.U.heap = h ∧ P.cells + 0 ≤ R.cells ∧ P.slots + 0 ≤ R.slots)
      (fun P _ v B => ∃ L, (((v = some (.int 1) ∧ cs = ds) ∨ (v = some (.int 0) ∧ ¬ cs = ds)) ∧ L = [] ∧ B.U.heap = h) ∧ B.locs = P.locs ++ L ∧ B.cells = P.cells + 0 ∧ B.slots = P.slots + 0) := by
  intro m meth c P g ig mk a X hg hsize hdg hW hn hp'
  obtain ⟨rfl, rfl, r1, r2⟩ := hp'
  have al : Z.vm.Alike P.U.vm := hZ.alike.trans X.warmed.alike
  obtain ⟨A, hx⟩ := txt_of wi al E V C K hc hb l2
  obtain ⟨A', hy⟩ := txt_of wi al E' V' C' K' hc' hb' l2'
  obtain ⟨v, B, X', ⟨⟨w, hv, hh, hq⟩, hl, hk, hs⟩, st⟩ := SEq.pays x t A cd cs.length (fun j => cs.getD j 0) y t' A' cd' ds.length (fun j => ds.getD j 0) z (tabEq_of (movedEq hZ hw)) hfr hlo m meth c P g ig mk _ X hg hsize hdg hW hn ⟨r1, r2, rfl, hx, hy, sta_is al S, hz⟩
  refine ⟨v, B, X', ⟨[], ⟨?_, rfl, hh⟩, hl, hk, hs⟩, st⟩
  rcases hq with ⟨rfl, q⟩ | ⟨rfl, q⟩
  · exact Or.inl ⟨hv, (same_list cs ds).mp q⟩
  · exact Or.inr ⟨hv, fun e => q ((same_list cs ds).mpr e)⟩
end StrChars.Road
namespace StrChars.Road
open Jvm Sem ClassFile Op Lib Jvm.Stand Jvm.Free Jvm.Free.XT
open Jvm.Lib.Cold (StaticIs)
/-- what backV says of its String, as the contracts of this text ask it: cs's low bytes, coder 0 -/
theorem codOf {cs : List Int32} {n : Nat} (hn : cs.length = n) (hb : ∀ c ∈ cs, ¬ 255 < c) : CodA cs 0 (Int32.ofNat n) ((cs.map lo8).map Value.int) := Or.inl ⟨rfl, by rw [hn], by simp [List.map_map, Function.comp_def], hb⟩
end StrChars.Road
end Jvm.Pilot.@@N@@
namespace Jvm.Own
open Sem ClassFile Op Lib Jvm.Stand Jvm.Free Jvm.LawKit Jvm.RoadKit
/-- the walk goes on from here and ends in P -/
def Go (p : Program) (e : Env) (below : List Frame) (P : Outcome → State → Prop) (T : State) (g : JFrame) : Prop :=
  ∃ U o, Steps p.tables e below (T.setTop g) U ∧ U.status = .running ∧ Ended U below o ∧ P o U
abbrev PP (s : State) (Q : Option Value → Heap → List Loc → Prop) (K J : Nat) (o : Outcome) (U : State) : Prop := ∃ v L, o = .returned v ∧ Q v U.heap L ∧ FrameEnd s o U L K J
abbrev PS (Z : State) (EL : List (String × Nat)) (s : State) (Q : Option Value → Heap → List Loc → Prop) (K J : Nat) (o : Outcome) (U : State) : Prop := ∃ v L, o = .returned v ∧ Q v U.heap L ∧ CHr Z EL s.vm s.heap U.vm U.heap ∧ ReturnedEndW s o U L K J
abbrev CtP (l : Launch) (y : MethodName) (bytes : ByteArray) (mx : Nat) (ret : Option FieldType) (ws : List Jvm.Cond) (rm : Room) (Z : State) (as' : Array Value) (h0 : Heap) (Q : Option Value → Heap → List Loc → Prop) : Prop :=
  MetFree l y (head1 (Jvm.Cond.code y bytes mx ret :: ws) rm) (fun a U => a = as' ∧ Z.Warmed39 U.vm ∧ U.heap = h0) (fun _ _ _ _ _ => True) (fun _ U o U' => PP U Q rm.cells rm.slots o U')
abbrev CtS (l : Launch) (y : MethodName) (bytes : ByteArray) (mx : Nat) (ret : Option FieldType) (ws : List Jvm.Cond) (rm : Room) (Z : State) (EL : List (String × Nat)) (SL : List Addr) (as' : Array Value) (h0 : Heap) (Q : Option Value → Heap → List Loc → Prop) : Prop :=
  MetFree l y (head1 (Jvm.Cond.code y bytes mx ret :: ws) rm) (fun a U => a = as' ∧ Z.Warmed39 U.vm ∧ U.heap = h0 ∧ CHv Z EL U.vm h0 ∧ ∀ x ∈ SL, Safe Z EL U.vm h0 x) (fun _ _ _ _ _ => True) (fun _ U o U' => PS Z EL U Q rm.cells rm.slots o U')
abbrev PL (s : State) (Q : Option Value → Heap → List Loc → Prop) (K J : Nat) (o : Outcome) (U : State) : Prop := ∃ v L, o = .returned v ∧ Q v U.heap L ∧ ReturnedEndW s o U L K J
abbrev CtL (l : Launch) (y : MethodName) (bytes : ByteArray) (mx : Nat) (ret : Option FieldType) (ws : List Jvm.Cond) (rm : Room) (Z : State) (EL : List (String × Nat)) (as' : Array Value) (h0 : Heap) (Q : Option Value → Heap → List Loc → Prop) : Prop :=
  MetFree l y (head1 (Jvm.Cond.code y bytes mx ret :: ws) rm) (fun a U => a = as' ∧ Z.Warmed39 U.vm ∧ U.heap = h0 ∧ CHv Z EL U.vm h0) (fun _ _ _ _ _ => True) (fun _ U o U' => PL U Q rm.cells rm.slots o U')
abbrev Pays (l : Launch) (R : Room) (p : Program) (e : Env) (below : List Frame) (s : State) (args : Array Value) (y : MethodName) (len W : Nat) (as' : Array Value) (h : Heap) (k j : Nat) (Q : Option Value → Heap → List Loc → Prop) : Prop :=
  Back l R p e below s args y len W (fun A a => a = as' ∧ A.U.heap = h ∧ A.cells + k ≤ R.cells ∧ A.slots + j ≤ R.slots) (fun A _ v B => ∃ L, Q v B.U.heap L ∧ B.locs = A.locs ++ L ∧ B.cells = A.cells + k ∧ B.slots = A.slots + j)
abbrev PaysS (l : Launch) (R : Room) (p : Program) (e : Env) (below : List Frame) (s : State) (vm0 : Vm) (args : Array Value) (y : MethodName) (len W : Nat) (as' : Array Value) (h : Heap) (k j : Nat) (Z : State) (EL : List (String × Nat)) (Q : Option Value → Heap → List Loc → Prop) : Prop :=
  BackS l R p e below (s.setVm vm0) args y len W (fun A a => a = as' ∧ A.U.heap = h ∧ A.cells + k ≤ R.cells ∧ A.slots + j ≤ R.slots) (fun A _ v B => ∃ L, Q v B.U.heap L ∧ B.locs = A.locs ++ L ∧ B.cells = A.cells + k ∧ B.slots = A.slots + j ∧ CHr Z EL vm0 h B.U.vm B.U.heap)
section Own
variable {p : Program} {l : Launch} {e : Env} {R : Room} {s : State} {m : MethodId} {args : Array Value} {below : List Frame} {meth : Method} {c : Code} {T : State} {locs : List Loc} {cells slots : Nat} {P : Outcome → State → Prop} {pc : Nat} {Ls : Array Slot} {st : List Value} {Z : State} {a0 : Array Value} {h : Heap} {EL : List (String × Nat)} {vm0 : Vm} {k0 : Nat} {SL : List Addr} {Q : Option Value → Heap → List Loc → Prop}
theorem Go.of {T' : State} {g g' : JFrame} (h : ∀ t, Steps p.tables e below (T'.setTop g') t → Steps p.tables e below (T.setTop g) t) (k : Go p e below P T' g') : Go p e below P T g := by
  obtain ⟨U, o, h1, h2⟩ := k
  exact ⟨U, o, h _ h1, h2⟩
theorem Go.tr {T' : State} {g g' : JFrame} (h : Steps p.tables e below (T.setTop g) (T'.setTop g')) (k : Go p e below P T' g') : Go p e below P T g := Go.of (fun _ q => h.trans q) k
theorem CtP.walk {y : MethodName} {bytes : ByteArray} {mx : Nat} {ret : Option FieldType} {ws : List Jvm.Cond} {rm : Room} {as' : Array Value} {h0 : Heap} (hpn : plainFor y = true) (hef : ∀ m, entryFrame m as' mx = mkF m 0 Ls [])
    (k : ∀ (p : Program) (e : Env) (s : State) (m : MethodId) (below : List Frame) (meth : Method) (c : Code) (T : State), p.tables.exec = Jvm.exec → c.code = bytes → c.maxLocals = mx → s.vm.findClass y.cls = some m.cls → meth.name = y.name → meth.sig.returnType = ret → meth.locks = false → Z.Warmed39 s.vm →
      Stand p l e rm s m as' below meth c T [] 0 0 → T.heap = h0 → Go p e below (PP s Q rm.cells rm.slots) T (mkF m 0 Ls [])) : CtP l y bytes mx ret ws rm Z as' h0 Q := by
  refine MetFree.of_bodySF hpn hisR ?_
  intro p e s m args below meth c s₁ Bd hml hP hK
  obtain ⟨rfl, hZ, hh⟩ := hP
  obtain ⟨U, o, h1, h2, h3, h4⟩ := k p e s m below meth c s₁ Bd.exec Bd.bytes hml (findClass_of_methodNamed Bd.named) (name_of_methodNamed Bd.named Bd.method).1 Bd.returns Bd.notSynchronized hZ (Stand.of_body Bd) (by rw [← hh, Bd.state]; rfl)
  exact ⟨U, o, castTop (hef m) h1, h2, h3, h4⟩
theorem CtS.walk {y : MethodName} {bytes : ByteArray} {mx : Nat} {ret : Option FieldType} {ws : List Jvm.Cond} {rm : Room} {as' : Array Value} {h0 : Heap} (hpn : plainFor y = true) (hef : ∀ m, entryFrame m as' mx = mkF m 0 Ls [])
    (k : ∀ (p : Program) (e : Env) (s : State) (m : MethodId) (below : List Frame) (meth : Method) (c : Code) (T : State) (vm : Vm) (k0 : Nat), p.tables.exec = Jvm.exec → c.code = bytes → c.maxLocals = mx → vm.findClass y.cls = some m.cls → meth.name = y.name → meth.sig.returnType = ret → meth.locks = false → Z.Warmed39 vm →
      Stand p l e rm (s.setVm vm) m as' below meth c T [] 0 0 → T.heap = h0 → s.Since vm k0 → k0 ≤ h0.size → CHr Z EL s.vm s.heap vm h0 → (∀ x ∈ SL, Safe Z EL vm h0 x) → Go p e below (PS Z EL s Q rm.cells rm.slots) T (mkF m 0 Ls [])) : CtS l y bytes mx ret ws rm Z EL SL as' h0 Q := by
  refine MetFree.of_bodySF hpn hisR ?_
  intro p e s m args below meth c s₁ Bd hml hP hK
  obtain ⟨rfl, hZ, hh, hC, hSL⟩ := hP
  obtain ⟨U, o, h1, h2, h3, h4⟩ := k p e s m below meth c s₁ s.vm h0.size Bd.exec Bd.bytes hml (findClass_of_methodNamed Bd.named) (name_of_methodNamed Bd.named Bd.method).1 Bd.returns Bd.notSynchronized hZ (Stand.of_body Bd) (by rw [← hh, Bd.state]; rfl) ((State.WarmedH.refl s).since _) (Nat.le_refl _) (by rw [hh]; exact CHr.refl hC) hSL
  exact ⟨U, o, castTop (hef m) h1, h2, h3, h4⟩
theorem CtL.walk {y : MethodName} {bytes : ByteArray} {mx : Nat} {ret : Option FieldType} {ws : List Jvm.Cond} {rm : Room} {as' : Array Value} {h0 : Heap} (hpn : plainFor y = true) (hef : ∀ m, entryFrame m as' mx = mkF m 0 Ls [])
    (k : ∀ (p : Program) (e : Env) (s : State) (m : MethodId) (below : List Frame) (meth : Method) (c : Code) (T : State) (vm : Vm) (k0 : Nat), p.tables.exec = Jvm.exec → c.code = bytes → c.maxLocals = mx → vm.findClass y.cls = some m.cls → meth.name = y.name → meth.sig.returnType = ret → meth.locks = false → Z.Warmed39 vm →
      Stand p l e rm (s.setVm vm) m as' below meth c T [] 0 0 → T.heap = h0 → s.Since vm k0 → k0 ≤ h0.size → CHr Z EL s.vm s.heap vm h0 → Go p e below (PL s Q rm.cells rm.slots) T (mkF m 0 Ls [])) : CtL l y bytes mx ret ws rm Z EL as' h0 Q := by
  refine MetFree.of_bodySF hpn hisR ?_
  intro p e s m args below meth c s₁ Bd hml hP hK
  obtain ⟨rfl, hZ, hh, hC⟩ := hP
  obtain ⟨U, o, h1, h2, h3, h4⟩ := k p e s m below meth c s₁ s.vm h0.size Bd.exec Bd.bytes hml (findClass_of_methodNamed Bd.named) (name_of_methodNamed Bd.named Bd.method).1 Bd.returns Bd.notSynchronized hZ (Stand.of_body Bd) (by rw [← hh, Bd.state]; rfl) ((State.WarmedH.refl s).since _) (Nat.le_refl _) (by rw [hh]; exact CHr.refl hC)
  exact ⟨U, o, castTop (hef m) h1, h2, h3, h4⟩
theorem payP {y : MethodName} {bytes : ByteArray} {mx : Nat} {ret : Option FieldType} {rm : Room} {as' : Array Value} {len W : Nat} (hM : CtP l y bytes mx ret [] rm Z as' h Q) (hZ : Z.Warmed39 s.vm) (wc : (Jvm.Cond.code y bytes mx ret).before a0 Z = true) (wz : (Jvm.Cond.initialized y.cls).before a0 Z = true) (hf : rm.frames + 1 ≤ R.frames) (hl : W + (mx + 11) + rm.locals ≤ R.locals) :
    Pays l R p e below s args y len W as' h rm.cells rm.slots Q := backOf hM hZ wc wz hf hl
theorem payS {y : MethodName} {bytes : ByteArray} {mx : Nat} {ret : Option FieldType} {rm : Room} {as' : Array Value} {len W : Nat} (hM : CtS l y bytes mx ret [] rm Z EL SL as' h Q) (hZ : Z.Warmed39 vm0) (wc : (Jvm.Cond.code y bytes mx ret).before a0 Z = true) (wz : (Jvm.Cond.initialized y.cls).before a0 Z = true) (hf : rm.frames + 1 ≤ R.frames) (hl : W + (mx + 11) + rm.locals ≤ R.locals) (hEL : EW Z a0 EL) (H : CHv Z EL vm0 h) (hSL : ∀ x ∈ SL, x < h.size ∧ Safe Z EL vm0 h x) :
    PaysS l R p e below s vm0 args y len W as' h rm.cells rm.slots Z EL Q :=
  BackS.of_freeW (bytes := bytes) (maxL := mx) (ret := ret) (E := fun _ first o t L k n => k = rm.cells ∧ n = rm.slots ∧ (∃ v, o = .returned v ∧ Q v t.heap L) ∧ CHr Z EL first.vm first.heap t.vm t.heap) hM hf hl
    (fun m meth c A a Y hp => have hU : Z.Warmed39 A.U.vm := wtrans (s := s.setVm vm0) hZ Y.warmed
      ⟨by show (Jvm.Cond.and _ .tt).before a A.U = true; rw [Jvm.Cond.before_and, mv hU wc]; rfl, mv hU wc, mv hU wz, hp.2.2.1, hp.2.2.2⟩)
    (fun m meth c A a g mk Y hp => ⟨hp.1, wtrans (s := s.setVm vm0) hZ Y.warmed, hp.2.1, (CHv.at Y hZ hEL H).1, fun x hx => (CHv.at Y hZ hEL H).safe (hSL x hx).1 (hSL x hx).2⟩) (fun _ _ _ _ _ _ _ _ _ => trivial)
    (fun _ _ _ _ ⟨v, L, h1, h2, h3, h4⟩ => ⟨L, _, _, h4, rfl, rfl, ⟨v, h1, h2⟩, h3⟩)
    (fun m meth c A a g mk v t L k n Y hp _ _ ⟨e1, e2, ⟨v', e3, e4⟩, e5⟩ => by
      cases e3; subst e1 e2
      refine ⟨L, e4, rfl, rfl, rfl, (CHv.at Y hZ hEL H).trans ?_⟩
      rw [← hp.2.1]; exact e5)
/-! the ends -/
theorem gRetP {w : Value} {t : FieldType} {i : Instr} {K J : Nat} (X : Stand p l e R s m args below meth c T locs cells slots) (hx : p.tables.exec = Jvm.exec) (hlk : meth.locks = false) (hret : meth.sig.returnType = some t) (hn : narrow t w = w)
    (hi : (i = .ireturn ∧ (t = .int ∨ t = .boolean ∨ t = .byte ∨ t = .char ∨ t = .short) ∧ ∃ z, w = .int z) ∨ (i = .lreturn ∧ t = .long ∧ ∃ z, w = .long z) ∨ (i = .dreturn ∧ t = .double ∧ ∃ z, w = .double z) ∨ (i = .freturn ∧ t = .float ∧ ∃ z, w = .float z) ∨ (i = .areturn ∧ t.isReference = true ∧ w.isRef = true))
    (hd : decode c.code pc = .ok (i, 1)) (eT : T.heap = h) (hK : cells ≤ K) (hJ : slots ≤ J) (hQ : Q (some w) h locs) : Go p e below (PP s Q K J) T (mkF m pc Ls (w :: st)) := by
  obtain ⟨fs, hr, hrun, hended, hW, hsame⟩ := X.leave (v := some w) (fun h => by rw [hret] at h; cases h)
  exact ⟨_, _, retOut X hx hret hn hi hd hr, hrun, hended, _, _, rfl, by show Q (some w) T.heap locs; rw [eT]; exact hQ, ⟨_, rfl⟩, hW, hsame.mono hK hJ⟩
theorem gRetP0 {K J : Nat} (X : Stand p l e R s m args below meth c T locs cells slots) (hx : p.tables.exec = Jvm.exec) (hlk : meth.locks = false) (hret : meth.sig.returnType = none)
    (hd : decode c.code pc = .ok (.return_, 1)) (eT : T.heap = h) (hK : cells ≤ K) (hJ : slots ≤ J) (hQ : Q none h locs) : Go p e below (PP s Q K J) T (mkF m pc Ls []) := by
  obtain ⟨fs, hr, hrun, hended, hW, hsame⟩ := X.leave (v := none) (fun _ => rfl)
  exact ⟨_, _, X.returnOut hx hret hd hr, hrun, hended, _, _, rfl, by show Q none T.heap locs; rw [eT]; exact hQ, ⟨_, rfl⟩, hW, hsame.mono hK hJ⟩
theorem monoW {s t : State} {o : Outcome} {L : List Loc} {k n K J : Nat} (q : ReturnedEndW s o t L k n) (hK : k ≤ K) (hJ : n ≤ J) : ReturnedEndW s o t L K J := ⟨q.1, q.2.1, q.2.2.1, q.2.2.2.mono hK hJ⟩
theorem gRetS {w : Value} {t : FieldType} {i : Instr} {K J : Nat} (X : Stand p l e R (s.setVm vm0) m args below meth c T locs cells slots) (hx : p.tables.exec = Jvm.exec) (hlk : meth.locks = false) (hret : meth.sig.returnType = some t) (hn : narrow t w = w)
    (hi : (i = .ireturn ∧ (t = .int ∨ t = .boolean ∨ t = .byte ∨ t = .char ∨ t = .short) ∧ ∃ z, w = .int z) ∨ (i = .lreturn ∧ t = .long ∧ ∃ z, w = .long z) ∨ (i = .dreturn ∧ t = .double ∧ ∃ z, w = .double z) ∨ (i = .freturn ∧ t = .float ∧ ∃ z, w = .float z) ∨ (i = .areturn ∧ t.isReference = true ∧ w.isRef = true))
    (hd : decode c.code pc = .ok (i, 1)) (eT : T.heap = h) (hS : s.Since vm0 k0) (hk : k0 ≤ h.size) (hZ : Z.Warmed39 vm0) (hEL : EW Z a0 EL) (C : CHr Z EL s.vm s.heap vm0 h) (hK : cells ≤ K) (hJ : slots ≤ J) (hQ : Q (some w) h locs) : Go p e below (PS Z EL s Q K J) T (mkF m pc Ls (w :: st)) := by
  subst eT
  obtain ⟨fs, hr, hrun, hended, hW⟩ := X.leaveW hS hk (v := some w) (fun h => by rw [hret] at h; cases h) hlk
  exact ⟨_, _, retOut X hx hret hn hi hd hr, hrun, hended, _, _, rfl, hQ, C.trans (show CHr Z EL vm0 T.heap T.vm T.heap from CHv.at X hZ hEL C.1), monoW hW hK hJ⟩
theorem gRetS0 {K J : Nat} (X : Stand p l e R (s.setVm vm0) m args below meth c T locs cells slots) (hx : p.tables.exec = Jvm.exec) (hlk : meth.locks = false) (hret : meth.sig.returnType = none)
    (hd : decode c.code pc = .ok (.return_, 1)) (eT : T.heap = h) (hS : s.Since vm0 k0) (hk : k0 ≤ h.size) (hZ : Z.Warmed39 vm0) (hEL : EW Z a0 EL) (C : CHr Z EL s.vm s.heap vm0 h) (hK : cells ≤ K) (hJ : slots ≤ J) (hQ : Q none h locs) : Go p e below (PS Z EL s Q K J) T (mkF m pc Ls []) := by
  subst eT
  obtain ⟨fs, hr, hrun, hended, hW⟩ := X.leaveW hS hk (v := none) (fun _ => rfl) hlk
  exact ⟨_, _, X.returnOut hx hret hd hr, hrun, hended, _, _, rfl, hQ, C.trans (show CHr Z EL vm0 T.heap T.vm T.heap from CHv.at X hZ hEL C.1), monoW hW hK hJ⟩
theorem gRetL {w : Value} {t : FieldType} {i : Instr} {K J : Nat} (X : Stand p l e R (s.setVm vm0) m args below meth c T locs cells slots) (hx : p.tables.exec = Jvm.exec) (hlk : meth.locks = false) (hret : meth.sig.returnType = some t) (hn : narrow t w = w)
    (hi : (i = .ireturn ∧ (t = .int ∨ t = .boolean ∨ t = .byte ∨ t = .char ∨ t = .short) ∧ ∃ z, w = .int z) ∨ (i = .lreturn ∧ t = .long ∧ ∃ z, w = .long z) ∨ (i = .dreturn ∧ t = .double ∧ ∃ z, w = .double z) ∨ (i = .freturn ∧ t = .float ∧ ∃ z, w = .float z) ∨ (i = .areturn ∧ t.isReference = true ∧ w.isRef = true))
    (hd : decode c.code pc = .ok (i, 1)) (eT : T.heap = h) (hS : s.Since vm0 k0) (hk : k0 ≤ h.size) (hK : cells ≤ K) (hJ : slots ≤ J) (hQ : Q (some w) h locs) : Go p e below (PL s Q K J) T (mkF m pc Ls (w :: st)) := by
  subst eT
  obtain ⟨fs, hr, hrun, hended, hW⟩ := X.leaveW hS hk (v := some w) (fun h => by rw [hret] at h; cases h) hlk
  exact ⟨_, _, retOut X hx hret hn hi hd hr, hrun, hended, _, _, rfl, hQ, monoW hW hK hJ⟩
theorem fitsRef {v : Value} (hv : v.isRef = true) (C : String) : fits (.object C) v = true := by rcases ref_cases hv with rfl | ⟨a, rfl⟩ <;> rfl
theorem catRef {v : Value} (hv : v.isRef = true) : v.category = 1 := by rcases ref_cases hv with rfl | ⟨a, rfl⟩ <;> rfl
theorem storeRef {v : Value} {ls : Array Slot} {k : Nat} {o : Slot} {l' : Array Slot} (hv : v.isRef = true) (h1 : ls[k]? = some o) (h2 : One o) (h3 : ls.setIfInBounds k (.val v) = l') : storeLocals ls k v = some l' := h3 ▸ XS.store1 h1 h2 (catRef hv)
theorem nfInst {y : MethodName} {n : Nat} (w : (Jvm.Cond.instantiable y.cls n).before args s = true) : NotFace s y := fun r0 h0 => by
  obtain ⟨c, k, h1, h2, -, h4, -⟩ := Cond.instantiable_spec w
  cases (findClass_of_methodNamed h0).symm.trans h1
  exact ⟨k, h2, by simp only [Bool.or_eq_false_iff] at h4; exact h4.1⟩
theorem selP {y : MethodName} (nf : NotFace s y) (hpriv : s.PrivateAt y) (hinst : (Jvm.Cond.instanceMethod y).before args s = true) (hy : y.cls ≠ "java/lang/invoke/MethodHandle" ∧ y.cls ≠ "java/lang/invoke/VarHandle") : (Jvm.Cond.selects y.cls y y).before args s = true := by
  obtain ⟨mk, methM, hnamed, hmethM, -, -⟩ := Cond.instanceMethod_spec hinst
  obtain ⟨kr, h1, h2⟩ := nf mk hnamed
  exact selects_self_of_private (findClass_of_methodNamed hnamed) h1 h2 hpriv hinst hy
/-! single steps -/
theorem gaload (X : Stand p l e R s m args below meth c T locs cells slots) (hx : p.tables.exec = Jvm.exec) {k : Nat} {v : Value} (pc' : Nat) (hd : decode c.code pc = .ok (.aload k, 2)) (hp : pc + 2 = pc') (hl : Ls[k]? = some (.val v)) (hv : v.isRef = true) (r : Go p e below P T (mkF m pc' Ls (v :: st))) : Go p e below P T (mkF m pc Ls (st)) := by
  subst hp; exact Go.of (fun _ q => XS.aload X.here hx rfl hd hl hv q) r
theorem galoadN (X : Stand p l e R s m args below meth c T locs cells slots) (hx : p.tables.exec = Jvm.exec) {k : Fin 4} {v : Value} (pc' : Nat) (hd : decode c.code pc = .ok (.aload_n k, 1)) (hp : pc + 1 = pc') (hl : Ls[k.val]? = some (.val v)) (hv : v.isRef = true) (r : Go p e below P T (mkF m pc' Ls (v :: st))) : Go p e below P T (mkF m pc Ls (st)) := by
  subst hp; exact Go.of (fun _ q => XS.aloadN X.here hx rfl hd hl hv q) r
theorem giload (X : Stand p l e R s m args below meth c T locs cells slots) (hx : p.tables.exec = Jvm.exec) {k : Nat} {v : Int32} (pc' : Nat) (hd : decode c.code pc = .ok (.iload k, 2)) (hp : pc + 2 = pc') (hl : Ls[k]? = some (.val (.int v))) (r : Go p e below P T (mkF m pc' Ls (.int v :: st))) : Go p e below P T (mkF m pc Ls (st)) := by
  subst hp; exact Go.of (fun _ q => XS.iload X.here hx rfl hd hl q) r
theorem giloadN (X : Stand p l e R s m args below meth c T locs cells slots) (hx : p.tables.exec = Jvm.exec) {k : Fin 4} {v : Int32} (pc' : Nat) (hd : decode c.code pc = .ok (.iload_n k, 1)) (hp : pc + 1 = pc') (hl : Ls[k.val]? = some (.val (.int v))) (r : Go p e below P T (mkF m pc' Ls (.int v :: st))) : Go p e below P T (mkF m pc Ls (st)) := by
  subst hp; exact Go.of (fun _ q => XS.iloadN X.here hx rfl hd hl q) r
theorem glload (X : Stand p l e R s m args below meth c T locs cells slots) (hx : p.tables.exec = Jvm.exec) {k : Nat} {v : Int64} (pc' : Nat) (hd : decode c.code pc = .ok (.lload k, 2)) (hp : pc + 2 = pc') (hl : Ls[k]? = some (.val (.long v))) (r : Go p e below P T (mkF m pc' Ls (.long v :: st))) : Go p e below P T (mkF m pc Ls (st)) := by
  subst hp; exact Go.of (fun _ q => XS.lload X.here hx rfl hd hl q) r
theorem glloadN (X : Stand p l e R s m args below meth c T locs cells slots) (hx : p.tables.exec = Jvm.exec) {k : Fin 4} {v : Int64} (pc' : Nat) (hd : decode c.code pc = .ok (.lload_n k, 1)) (hp : pc + 1 = pc') (hl : Ls[k.val]? = some (.val (.long v))) (r : Go p e below P T (mkF m pc' Ls (.long v :: st))) : Go p e below P T (mkF m pc Ls (st)) := by
  subst hp; exact Go.of (fun _ q => XS.lloadN X.here hx rfl hd hl q) r
theorem gistore (X : Stand p l e R s m args below meth c T locs cells slots) (hx : p.tables.exec = Jvm.exec) {k : Nat} {x : Int32} (l' : Array Slot) (pc' : Nat) (hd : decode c.code pc = .ok (.istore k, 2)) (hp : pc + 2 = pc') (hl : storeLocals Ls k (.int x) = some l') (r : Go p e below P T (mkF m pc' l' (st))) : Go p e below P T (mkF m pc Ls (.int x :: st)) := by
  subst hp; exact Go.of (fun _ q => XS.istore X.here hx rfl hd rfl hl q) r
theorem gistoreN (X : Stand p l e R s m args below meth c T locs cells slots) (hx : p.tables.exec = Jvm.exec) {k : Fin 4} {x : Int32} (l' : Array Slot) (pc' : Nat) (hd : decode c.code pc = .ok (.istore_n k, 1)) (hp : pc + 1 = pc') (hl : storeLocals Ls k.val (.int x) = some l') (r : Go p e below P T (mkF m pc' l' (st))) : Go p e below P T (mkF m pc Ls (.int x :: st)) := by
  subst hp; exact Go.of (fun _ q => XS.istoreN X.here hx rfl hd rfl hl q) r
theorem glstore (X : Stand p l e R s m args below meth c T locs cells slots) (hx : p.tables.exec = Jvm.exec) {k : Nat} {x : Int64} (l' : Array Slot) (pc' : Nat) (hd : decode c.code pc = .ok (.lstore k, 2)) (hp : pc + 2 = pc') (hl : storeLocals Ls k (.long x) = some l') (r : Go p e below P T (mkF m pc' l' (st))) : Go p e below P T (mkF m pc Ls (.long x :: st)) := by
  subst hp; exact Go.of (fun _ q => XS.lstore X.here hx rfl hd rfl hl q) r
theorem glstoreN (X : Stand p l e R s m args below meth c T locs cells slots) (hx : p.tables.exec = Jvm.exec) {k : Fin 4} {x : Int64} (l' : Array Slot) (pc' : Nat) (hd : decode c.code pc = .ok (.lstore_n k, 1)) (hp : pc + 1 = pc') (hl : storeLocals Ls k.val (.long x) = some l') (r : Go p e below P T (mkF m pc' l' (st))) : Go p e below P T (mkF m pc Ls (.long x :: st)) := by
  subst hp; exact Go.of (fun _ q => XS.lstoreN X.here hx rfl hd rfl hl q) r
theorem gastore (X : Stand p l e R s m args below meth c T locs cells slots) (hx : p.tables.exec = Jvm.exec) {k : Nat} {x : Value} (l' : Array Slot) (pc' : Nat) (hd : decode c.code pc = .ok (.astore k, 2)) (hp : pc + 2 = pc') (hv : x.isRef = true) (hl : storeLocals Ls k x = some l') (r : Go p e below P T (mkF m pc' l' (st))) : Go p e below P T (mkF m pc Ls (x :: st)) := by
  subst hp; exact Go.of (fun _ q => XS.astore X.here hx rfl hd rfl hv hl q) r
theorem gastoreN (X : Stand p l e R s m args below meth c T locs cells slots) (hx : p.tables.exec = Jvm.exec) {k : Fin 4} {x : Value} (l' : Array Slot) (pc' : Nat) (hd : decode c.code pc = .ok (.astore_n k, 1)) (hp : pc + 1 = pc') (hv : x.isRef = true) (hl : storeLocals Ls k.val x = some l') (r : Go p e below P T (mkF m pc' l' (st))) : Go p e below P T (mkF m pc Ls (x :: st)) := by
  subst hp; exact Go.of (fun _ q => XS.astoreN X.here hx rfl hd rfl hv hl q) r
theorem giconst (X : Stand p l e R s m args below meth c T locs cells slots) (hx : p.tables.exec = Jvm.exec) {i : Int} (v : Int32) (pc' : Nat) (hd : decode c.code pc = .ok (.iconst i, 1)) (hp : pc + 1 = pc') (hv : Int32.ofInt i = v) (r : Go p e below P T (mkF m pc' Ls (.int v :: st))) : Go p e below P T (mkF m pc Ls (st)) := by
  subst hp; exact Go.of (fun _ q => XS.iconst X.here hx rfl hd (by rw [hv]; exact q)) r
theorem gbipush (X : Stand p l e R s m args below meth c T locs cells slots) (hx : p.tables.exec = Jvm.exec) {i : Int} (v : Int32) (pc' : Nat) (hd : decode c.code pc = .ok (.bipush i, 2)) (hp : pc + 2 = pc') (hv : (Int8.ofInt i).toInt32 = v) (r : Go p e below P T (mkF m pc' Ls (.int v :: st))) : Go p e below P T (mkF m pc Ls (st)) := by
  subst hp; exact Go.of (fun _ q => XS.bipush X.here hx rfl hd (by rw [hv]; exact q)) r
theorem gsipush (X : Stand p l e R s m args below meth c T locs cells slots) (hx : p.tables.exec = Jvm.exec) {i : Int} (v : Int32) (pc' : Nat) (hd : decode c.code pc = .ok (.sipush i, 3)) (hp : pc + 3 = pc') (hv : (Int16.ofInt i).toInt32 = v) (r : Go p e below P T (mkF m pc' Ls (.int v :: st))) : Go p e below P T (mkF m pc Ls (st)) := by
  subst hp; exact Go.of (fun _ q => XS.sipush X.here hx rfl hd (by rw [hv]; exact q)) r
theorem glconst (X : Stand p l e R s m args below meth c T locs cells slots) (hx : p.tables.exec = Jvm.exec) {k : Fin 2} (v : Int64) (pc' : Nat) (hd : decode c.code pc = .ok (.lconst k, 1)) (hp : pc + 1 = pc') (hv : Int64.ofNat k = v) (r : Go p e below P T (mkF m pc' Ls (.long v :: st))) : Go p e below P T (mkF m pc Ls (st)) := by
  subst hp; exact Go.of (fun _ q => XS.lconst X.here hx rfl hd (by rw [hv]; exact q)) r
theorem gaconstNull (X : Stand p l e R s m args below meth c T locs cells slots) (hx : p.tables.exec = Jvm.exec) (pc' : Nat) (hd : decode c.code pc = .ok (.aconst_null, 1)) (hp : pc + 1 = pc') (r : Go p e below P T (mkF m pc' Ls (.null :: st))) : Go p e below P T (mkF m pc Ls (st)) := by
  subst hp; exact Go.of (fun _ q => XS.aconstNull X.here hx rfl hd q) r
theorem giadd (X : Stand p l e R s m args below meth c T locs cells slots) (hx : p.tables.exec = Jvm.exec) {x y : Int32} (pc' : Nat) (hd : decode c.code pc = .ok (.iadd, 1)) (hp : pc + 1 = pc') (r : Go p e below P T (mkF m pc' Ls (.int (x + y) :: st))) : Go p e below P T (mkF m pc Ls (.int y :: .int x :: st)) := by
  subst hp; exact Go.of (fun _ q => XS.iadd X.here hx rfl hd rfl q) r
theorem gisub (X : Stand p l e R s m args below meth c T locs cells slots) (hx : p.tables.exec = Jvm.exec) {x y : Int32} (pc' : Nat) (hd : decode c.code pc = .ok (.isub, 1)) (hp : pc + 1 = pc') (r : Go p e below P T (mkF m pc' Ls (.int (x - y) :: st))) : Go p e below P T (mkF m pc Ls (.int y :: .int x :: st)) := by
  subst hp; exact Go.of (fun _ q => XS.isub X.here hx rfl hd rfl q) r
theorem gimul (X : Stand p l e R s m args below meth c T locs cells slots) (hx : p.tables.exec = Jvm.exec) {x y : Int32} (pc' : Nat) (hd : decode c.code pc = .ok (.imul, 1)) (hp : pc + 1 = pc') (r : Go p e below P T (mkF m pc' Ls (.int (x * y) :: st))) : Go p e below P T (mkF m pc Ls (.int y :: .int x :: st)) := by
  subst hp; exact Go.of (fun _ q => XS.imul X.here hx rfl hd rfl q) r
theorem giand (X : Stand p l e R s m args below meth c T locs cells slots) (hx : p.tables.exec = Jvm.exec) {x y : Int32} (pc' : Nat) (hd : decode c.code pc = .ok (.iand, 1)) (hp : pc + 1 = pc') (r : Go p e below P T (mkF m pc' Ls (.int (x &&& y) :: st))) : Go p e below P T (mkF m pc Ls (.int y :: .int x :: st)) := by
  subst hp; exact Go.of (fun _ q => XS.iand X.here hx rfl hd rfl q) r
theorem gior (X : Stand p l e R s m args below meth c T locs cells slots) (hx : p.tables.exec = Jvm.exec) {x y : Int32} (pc' : Nat) (hd : decode c.code pc = .ok (.ior, 1)) (hp : pc + 1 = pc') (r : Go p e below P T (mkF m pc' Ls (.int (x ||| y) :: st))) : Go p e below P T (mkF m pc Ls (.int y :: .int x :: st)) := by
  subst hp; exact Go.of (fun _ q => XS.ior X.here hx rfl hd rfl q) r
theorem gixor (X : Stand p l e R s m args below meth c T locs cells slots) (hx : p.tables.exec = Jvm.exec) {x y : Int32} (pc' : Nat) (hd : decode c.code pc = .ok (.ixor, 1)) (hp : pc + 1 = pc') (r : Go p e below P T (mkF m pc' Ls (.int (x ^^^ y) :: st))) : Go p e below P T (mkF m pc Ls (.int y :: .int x :: st)) := by
  subst hp; exact Go.of (fun _ q => XS.ixor X.here hx rfl hd rfl q) r
theorem gishl (X : Stand p l e R s m args below meth c T locs cells slots) (hx : p.tables.exec = Jvm.exec) {x y : Int32} (pc' : Nat) (hd : decode c.code pc = .ok (.ishl, 1)) (hp : pc + 1 = pc') (r : Go p e below P T (mkF m pc' Ls (.int (x <<< (y &&& 31)) :: st))) : Go p e below P T (mkF m pc Ls (.int y :: .int x :: st)) := by
  subst hp; exact Go.of (fun _ q => XS.ishl X.here hx rfl hd rfl q) r
theorem gishr (X : Stand p l e R s m args below meth c T locs cells slots) (hx : p.tables.exec = Jvm.exec) {x y : Int32} (pc' : Nat) (hd : decode c.code pc = .ok (.ishr, 1)) (hp : pc + 1 = pc') (r : Go p e below P T (mkF m pc' Ls (.int (x >>> (y &&& 31)) :: st))) : Go p e below P T (mkF m pc Ls (.int y :: .int x :: st)) := by
  subst hp; exact Go.of (fun _ q => XS.ishr X.here hx rfl hd rfl q) r
theorem giushr (X : Stand p l e R s m args below meth c T locs cells slots) (hx : p.tables.exec = Jvm.exec) {x y : Int32} (pc' : Nat) (hd : decode c.code pc = .ok (.iushr, 1)) (hp : pc + 1 = pc') (r : Go p e below P T (mkF m pc' Ls (.int ((x.toUInt32 >>> (y &&& 31).toUInt32).toInt32) :: st))) : Go p e below P T (mkF m pc Ls (.int y :: .int x :: st)) := by
  subst hp; exact Go.of (fun _ q => XS.iushr X.here hx rfl hd rfl q) r
theorem gladd (X : Stand p l e R s m args below meth c T locs cells slots) (hx : p.tables.exec = Jvm.exec) {x y : Int64} (pc' : Nat) (hd : decode c.code pc = .ok (.ladd, 1)) (hp : pc + 1 = pc') (r : Go p e below P T (mkF m pc' Ls (.long (x + y) :: st))) : Go p e below P T (mkF m pc Ls (.long y :: .long x :: st)) := by
  subst hp; exact Go.of (fun _ q => XS.ladd X.here hx rfl hd rfl q) r
theorem glsub (X : Stand p l e R s m args below meth c T locs cells slots) (hx : p.tables.exec = Jvm.exec) {x y : Int64} (pc' : Nat) (hd : decode c.code pc = .ok (.lsub, 1)) (hp : pc + 1 = pc') (r : Go p e below P T (mkF m pc' Ls (.long (x - y) :: st))) : Go p e below P T (mkF m pc Ls (.long y :: .long x :: st)) := by
  subst hp; exact Go.of (fun _ q => XS.lsub X.here hx rfl hd rfl q) r
theorem glmul (X : Stand p l e R s m args below meth c T locs cells slots) (hx : p.tables.exec = Jvm.exec) {x y : Int64} (pc' : Nat) (hd : decode c.code pc = .ok (.lmul, 1)) (hp : pc + 1 = pc') (r : Go p e below P T (mkF m pc' Ls (.long (x * y) :: st))) : Go p e below P T (mkF m pc Ls (.long y :: .long x :: st)) := by
  subst hp; exact Go.of (fun _ q => XS.lmul X.here hx rfl hd rfl q) r
theorem gland (X : Stand p l e R s m args below meth c T locs cells slots) (hx : p.tables.exec = Jvm.exec) {x y : Int64} (pc' : Nat) (hd : decode c.code pc = .ok (.land, 1)) (hp : pc + 1 = pc') (r : Go p e below P T (mkF m pc' Ls (.long (x &&& y) :: st))) : Go p e below P T (mkF m pc Ls (.long y :: .long x :: st)) := by
  subst hp; exact Go.of (fun _ q => XS.land X.here hx rfl hd rfl q) r
theorem glor (X : Stand p l e R s m args below meth c T locs cells slots) (hx : p.tables.exec = Jvm.exec) {x y : Int64} (pc' : Nat) (hd : decode c.code pc = .ok (.lor, 1)) (hp : pc + 1 = pc') (r : Go p e below P T (mkF m pc' Ls (.long (x ||| y) :: st))) : Go p e below P T (mkF m pc Ls (.long y :: .long x :: st)) := by
  subst hp; exact Go.of (fun _ q => XS.lor X.here hx rfl hd rfl q) r
theorem glxor (X : Stand p l e R s m args below meth c T locs cells slots) (hx : p.tables.exec = Jvm.exec) {x y : Int64} (pc' : Nat) (hd : decode c.code pc = .ok (.lxor, 1)) (hp : pc + 1 = pc') (r : Go p e below P T (mkF m pc' Ls (.long (x ^^^ y) :: st))) : Go p e below P T (mkF m pc Ls (.long y :: .long x :: st)) := by
  subst hp; exact Go.of (fun _ q => XS.lxor X.here hx rfl hd rfl q) r
theorem gidiv (X : Stand p l e R s m args below meth c T locs cells slots) (hx : p.tables.exec = Jvm.exec) {x y : Int32} (pc' : Nat) (hd : decode c.code pc = .ok (.idiv, 1)) (hp : pc + 1 = pc') (hy : y ≠ 0) (r : Go p e below P T (mkF m pc' Ls (.int (x / y) :: st))) : Go p e below P T (mkF m pc Ls (.int y :: .int x :: st)) := by
  subst hp; exact Go.of (fun _ q => XS.idiv X.here hx rfl hd rfl hy q) r
theorem girem (X : Stand p l e R s m args below meth c T locs cells slots) (hx : p.tables.exec = Jvm.exec) {x y : Int32} (pc' : Nat) (hd : decode c.code pc = .ok (.irem, 1)) (hp : pc + 1 = pc') (hy : y ≠ 0) (r : Go p e below P T (mkF m pc' Ls (.int (x % y) :: st))) : Go p e below P T (mkF m pc Ls (.int y :: .int x :: st)) := by
  subst hp; exact Go.of (fun _ q => iremM X hx rfl hd rfl hy q) r
theorem gineg (X : Stand p l e R s m args below meth c T locs cells slots) (hx : p.tables.exec = Jvm.exec) {x : Int32} (pc' : Nat) (hd : decode c.code pc = .ok (.ineg, 1)) (hp : pc + 1 = pc') (r : Go p e below P T (mkF m pc' Ls (.int (-x) :: st))) : Go p e below P T (mkF m pc Ls (.int x :: st)) := by
  subst hp; exact Go.of (fun _ q => XS.ineg X.here hx rfl hd rfl q) r
theorem gi2b (X : Stand p l e R s m args below meth c T locs cells slots) (hx : p.tables.exec = Jvm.exec) {x : Int32} (pc' : Nat) (hd : decode c.code pc = .ok (.i2b, 1)) (hp : pc + 1 = pc') (r : Go p e below P T (mkF m pc' Ls (.int (x.toInt8.toInt32) :: st))) : Go p e below P T (mkF m pc Ls (.int x :: st)) := by
  subst hp; exact Go.of (fun _ q => XS.i2b X.here hx rfl hd rfl q) r
theorem gi2s (X : Stand p l e R s m args below meth c T locs cells slots) (hx : p.tables.exec = Jvm.exec) {x : Int32} (pc' : Nat) (hd : decode c.code pc = .ok (.i2s, 1)) (hp : pc + 1 = pc') (r : Go p e below P T (mkF m pc' Ls (.int (x.toInt16.toInt32) :: st))) : Go p e below P T (mkF m pc Ls (.int x :: st)) := by
  subst hp; exact Go.of (fun _ q => XS.i2s X.here hx rfl hd rfl q) r
theorem gi2c (X : Stand p l e R s m args below meth c T locs cells slots) (hx : p.tables.exec = Jvm.exec) {x : Int32} (pc' : Nat) (hd : decode c.code pc = .ok (.i2c, 1)) (hp : pc + 1 = pc') (r : Go p e below P T (mkF m pc' Ls (.int (x.toUInt32.toUInt16.toUInt32.toInt32) :: st))) : Go p e below P T (mkF m pc Ls (.int x :: st)) := by
  subst hp; exact Go.of (fun _ q => XS.i2c X.here hx rfl hd rfl q) r
theorem gi2l (X : Stand p l e R s m args below meth c T locs cells slots) (hx : p.tables.exec = Jvm.exec) {x : Int32} (pc' : Nat) (hd : decode c.code pc = .ok (.i2l, 1)) (hp : pc + 1 = pc') (r : Go p e below P T (mkF m pc' Ls (.long x.toInt64 :: st))) : Go p e below P T (mkF m pc Ls (.int x :: st)) := by
  subst hp; exact Go.of (fun _ q => XS.i2l X.here hx rfl hd rfl q) r
theorem gl2i (X : Stand p l e R s m args below meth c T locs cells slots) (hx : p.tables.exec = Jvm.exec) {x : Int64} (pc' : Nat) (hd : decode c.code pc = .ok (.l2i, 1)) (hp : pc + 1 = pc') (r : Go p e below P T (mkF m pc' Ls (.int x.toInt32 :: st))) : Go p e below P T (mkF m pc Ls (.long x :: st)) := by
  subst hp; exact Go.of (fun _ q => XS.l2i X.here hx rfl hd rfl q) r
theorem glneg (X : Stand p l e R s m args below meth c T locs cells slots) (hx : p.tables.exec = Jvm.exec) {x : Int64} (pc' : Nat) (hd : decode c.code pc = .ok (.lneg, 1)) (hp : pc + 1 = pc') (r : Go p e below P T (mkF m pc' Ls (.long (-x) :: st))) : Go p e below P T (mkF m pc Ls (.long x :: st)) := by
  subst hp; exact Go.of (fun _ q => XS.lneg X.here hx rfl hd rfl q) r
theorem glcmp (X : Stand p l e R s m args below meth c T locs cells slots) (hx : p.tables.exec = Jvm.exec) {x y : Int64} (pc' : Nat) (hd : decode c.code pc = .ok (.lcmp, 1)) (hp : pc + 1 = pc') (r : Go p e below P T (mkF m pc' Ls (.int (if x > y then 1 else if x = y then 0 else -1) :: st))) : Go p e below P T (mkF m pc Ls (.long y :: .long x :: st)) := by
  subst hp; exact Go.of (fun _ q => XS.lcmp X.here hx rfl hd rfl q) r
theorem gpop (X : Stand p l e R s m args below meth c T locs cells slots) (hx : p.tables.exec = Jvm.exec) {x : Value} (pc' : Nat) (hd : decode c.code pc = .ok (.pop, 1)) (hp : pc + 1 = pc') (hc : x.category = 1) (r : Go p e below P T (mkF m pc' Ls (st))) : Go p e below P T (mkF m pc Ls (x :: st)) := by
  subst hp; exact Go.of (fun _ q => XS.pop X.here hx rfl hd rfl hc q) r
theorem gdup (X : Stand p l e R s m args below meth c T locs cells slots) (hx : p.tables.exec = Jvm.exec) {x : Value} (pc' : Nat) (hd : decode c.code pc = .ok (.dup, 1)) (hp : pc + 1 = pc') (hc : x.category = 1) (r : Go p e below P T (mkF m pc' Ls (x :: x :: st))) : Go p e below P T (mkF m pc Ls (x :: st)) := by
  subst hp; exact Go.of (fun _ q => XS.dup X.here hx rfl hd rfl hc q) r
theorem gdupX1 (X : Stand p l e R s m args below meth c T locs cells slots) (hx : p.tables.exec = Jvm.exec) {x y : Value} (pc' : Nat) (hd : decode c.code pc = .ok (.dup_x1, 1)) (hp : pc + 1 = pc') (hc : x.category = 1) (hc2 : y.category = 1) (r : Go p e below P T (mkF m pc' Ls (x :: y :: x :: st))) : Go p e below P T (mkF m pc Ls (x :: y :: st)) := by
  subst hp; exact Go.of (fun _ q => XS.dupX1 X.here hx rfl hd rfl hc hc2 q) r
theorem gdup2 (X : Stand p l e R s m args below meth c T locs cells slots) (hx : p.tables.exec = Jvm.exec) {x y : Value} (pc' : Nat) (hd : decode c.code pc = .ok (.dup2, 1)) (hp : pc + 1 = pc') (hc : x.category = 1) (hc2 : y.category = 1) (r : Go p e below P T (mkF m pc' Ls (x :: y :: x :: y :: st))) : Go p e below P T (mkF m pc Ls (x :: y :: st)) := by
  subst hp; exact Go.of (fun _ q => Jvm.Free.XT.dup2 X.here hx rfl hd rfl hc hc2 q) r
theorem gswap (X : Stand p l e R s m args below meth c T locs cells slots) (hx : p.tables.exec = Jvm.exec) {x y : Value} (pc' : Nat) (hd : decode c.code pc = .ok (.swap, 1)) (hp : pc + 1 = pc') (hc : x.category = 1) (hc2 : y.category = 1) (r : Go p e below P T (mkF m pc' Ls (y :: x :: st))) : Go p e below P T (mkF m pc Ls (x :: y :: st)) := by
  subst hp; exact Go.of (fun _ q => XS.swap X.here hx rfl hd rfl hc hc2 q) r
theorem giinc (X : Stand p l e R s m args below meth c T locs cells slots) (hx : p.tables.exec = Jvm.exec) {k : Nat} {cst : Int} {x : Int32} (l' : Array Slot) (pc' : Nat) (hd : decode c.code pc = .ok (.iinc k cst, 3)) (hp : pc + 3 = pc') (hl : Ls[k]? = some (.val (.int x))) (hl' : storeLocals Ls k (.int (x + Int32.ofInt cst)) = some l') (r : Go p e below P T (mkF m pc' l' (st))) : Go p e below P T (mkF m pc Ls (st)) := by
  subst hp; exact Go.of (fun _ q => XS.iinc X.here hx rfl hd hl hl' q) r
theorem ggoto (X : Stand p l e R s m args below meth c T locs cells slots) (hx : p.tables.exec = Jvm.exec) {o : Int} (pc' : Nat) (hd : decode c.code pc = .ok (.goto o, 3)) (ho : 0 ≤ (pc : Int) + o) (hp : ((pc : Int) + o).toNat = pc') (r : Go p e below P T (mkF m pc' Ls (st))) : Go p e below P T (mkF m pc Ls (st)) :=
  Go.of (fun _ q => XS.goto X.here hx rfl rfl hd ho hp q) r
theorem gifYes (X : Stand p l e R s m args below meth c T locs cells slots) (hx : p.tables.exec = Jvm.exec) {o : Int} {cd : ClassFile.Cond} {x : Int32} (pc' : Nat) (hd : decode c.code pc = .ok (.ifCond cd o, 3)) (hc : ifCond.holds cd x = true) (ho : 0 ≤ (pc : Int) + o) (hp : ((pc : Int) + o).toNat = pc') (r : Go p e below P T (mkF m pc' Ls (st))) : Go p e below P T (mkF m pc Ls (.int x :: st)) :=
  Go.of (fun _ q => XS.ifYes X.here hx rfl rfl hd rfl hc ho hp q) r
theorem gifNo (X : Stand p l e R s m args below meth c T locs cells slots) (hx : p.tables.exec = Jvm.exec) {o : Int} {cd : ClassFile.Cond} {x : Int32} (pc' : Nat) (hd : decode c.code pc = .ok (.ifCond cd o, 3)) (hp : pc + 3 = pc') (hc : ifCond.holds cd x = false) (r : Go p e below P T (mkF m pc' Ls (st))) : Go p e below P T (mkF m pc Ls (.int x :: st)) := by
  subst hp; exact Go.of (fun _ q => XS.ifNo X.here hx rfl hd rfl hc q) r
theorem gicmpYes (X : Stand p l e R s m args below meth c T locs cells slots) (hx : p.tables.exec = Jvm.exec) {o : Int} {cd : ClassFile.Cond} {x y : Int32} (pc' : Nat) (hd : decode c.code pc = .ok (.if_icmp cd o, 3)) (hc : if_icmp.holds cd x y = true) (ho : 0 ≤ (pc : Int) + o) (hp : ((pc : Int) + o).toNat = pc') (r : Go p e below P T (mkF m pc' Ls (st))) : Go p e below P T (mkF m pc Ls (.int y :: .int x :: st)) :=
  Go.of (fun _ q => XS.icmpYes X.here hx rfl rfl hd rfl hc ho hp q) r
theorem gicmpNo (X : Stand p l e R s m args below meth c T locs cells slots) (hx : p.tables.exec = Jvm.exec) {o : Int} {cd : ClassFile.Cond} {x y : Int32} (pc' : Nat) (hd : decode c.code pc = .ok (.if_icmp cd o, 3)) (hp : pc + 3 = pc') (hc : if_icmp.holds cd x y = false) (r : Go p e below P T (mkF m pc' Ls (st))) : Go p e below P T (mkF m pc Ls (.int y :: .int x :: st)) := by
  subst hp; exact Go.of (fun _ q => XS.icmpNo X.here hx rfl hd rfl hc q) r
theorem gifnullYes (X : Stand p l e R s m args below meth c T locs cells slots) (hx : p.tables.exec = Jvm.exec) {o : Int} (pc' : Nat) (hd : decode c.code pc = .ok (.ifnull o, 3)) (ho : 0 ≤ (pc : Int) + o) (hp : ((pc : Int) + o).toNat = pc') (r : Go p e below P T (mkF m pc' Ls (st))) : Go p e below P T (mkF m pc Ls (.null :: st)) :=
  Go.of (fun _ q => XS.ifnullYes X.here hx rfl rfl hd rfl ho hp q) r
theorem gifnullNo (X : Stand p l e R s m args below meth c T locs cells slots) (hx : p.tables.exec = Jvm.exec) {o : Int} {b : Addr} (pc' : Nat) (hd : decode c.code pc = .ok (.ifnull o, 3)) (hp : pc + 3 = pc') (r : Go p e below P T (mkF m pc' Ls (st))) : Go p e below P T (mkF m pc Ls (.ref b :: st)) := by
  subst hp; exact Go.of (fun _ q => XS.ifnullNo X.here hx rfl hd rfl q) r
theorem gifnonnullYes (X : Stand p l e R s m args below meth c T locs cells slots) (hx : p.tables.exec = Jvm.exec) {o : Int} {b : Addr} (pc' : Nat) (hd : decode c.code pc = .ok (.ifnonnull o, 3)) (ho : 0 ≤ (pc : Int) + o) (hp : ((pc : Int) + o).toNat = pc') (r : Go p e below P T (mkF m pc' Ls (st))) : Go p e below P T (mkF m pc Ls (.ref b :: st)) :=
  Go.of (fun _ q => XS.ifnonnullYes X.here hx rfl rfl hd rfl ho hp q) r
theorem gifnonnullNo (X : Stand p l e R s m args below meth c T locs cells slots) (hx : p.tables.exec = Jvm.exec) {o : Int} (pc' : Nat) (hd : decode c.code pc = .ok (.ifnonnull o, 3)) (hp : pc + 3 = pc') (r : Go p e below P T (mkF m pc' Ls (st))) : Go p e below P T (mkF m pc Ls (.null :: st)) := by
  subst hp; exact Go.of (fun _ q => XS.ifnonnullNo X.here hx rfl hd rfl q) r
theorem gacmp (X : Stand p l e R s m args below meth c T locs cells slots) (hx : p.tables.exec = Jvm.exec) {o : Int} {cd : ACond} {x y : Value} (same : Bool) (pc' : Nat) (hd : decode c.code pc = .ok (.if_acmp cd o, 3)) (h1 : x.isRef = true) (h2 : y.isRef = true) (hq : decide (x = y) = same) (ho : 0 ≤ (pc : Int) + o) (hp : pc' = if acV cd same = true then ((pc : Int) + o).toNat else pc + 3) (r : Go p e below P T (mkF m pc' Ls st)) : Go p e below P T (mkF m pc Ls (y :: x :: st)) :=
  Go.of (fun _ q => acmp X hx rfl h1 h2 rfl hd rfl hq ho hp q) r
theorem gcheckcastNull (X : Stand p l e R s m args below meth c T locs cells slots) (hx : p.tables.exec = Jvm.exec) {index : Nat} (pc' : Nat) (hd : decode c.code pc = .ok (.checkcast index, 3)) (hp : pc + 3 = pc') (r : Go p e below P T (mkF m pc' Ls (.null :: st))) : Go p e below P T (mkF m pc Ls (.null :: st)) := by
  subst hp; exact Go.of (fun _ q => X.checkcastNull hx (g := mkF m pc Ls (.null :: st)) rfl rfl hd _ q) r
theorem ginstanceofNull (X : Stand p l e R s m args below meth c T locs cells slots) (hx : p.tables.exec = Jvm.exec) {index : Nat} (pc' : Nat) (hd : decode c.code pc = .ok (.instanceof index, 3)) (hp : pc + 3 = pc') (r : Go p e below P T (mkF m pc' Ls (.int 0 :: st))) : Go p e below P T (mkF m pc Ls (.null :: st)) := by
  subst hp; exact Go.of (fun _ q => X.instanceofNull hx (g := mkF m pc Ls (.null :: st)) rfl rfl hd _ q) r
theorem gldcI (X : Stand p l e R s m args below meth c T locs cells slots) (hx : p.tables.exec = Jvm.exec) (hZ : Z.Warmed39 s.vm) {own : String} {index : Nat} {v : Int32} (hown : s.vm.findClass own = some m.cls) (w : (Jvm.Cond.constant own index v).before a0 Z = true) (pc' : Nat) (hd : decode c.code pc = .ok (.ldc index, 2)) (hp : pc + 2 = pc') (r : Go p e below P T (mkF m pc' Ls (.int v :: st))) : Go p e below P T (mkF m pc Ls (st)) := by
  subst hp; exact Go.of (fun _ q => X.ldcInt hx hown (mvT hZ w) (g := mkF m pc Ls st) rfl hd _ q) r
theorem gldcWI (X : Stand p l e R s m args below meth c T locs cells slots) (hx : p.tables.exec = Jvm.exec) (hZ : Z.Warmed39 s.vm) {own : String} {index : Nat} {v : Int32} (hown : s.vm.findClass own = some m.cls) (w : (Jvm.Cond.constant own index v).before a0 Z = true) (pc' : Nat) (hd : decode c.code pc = .ok (.ldc_w index, 3)) (hp : pc + 3 = pc') (r : Go p e below P T (mkF m pc' Ls (.int v :: st))) : Go p e below P T (mkF m pc Ls (st)) := by
  subst hp; exact Go.of (fun _ q => X.ldcwInt hx hown (mvT hZ w) (g := mkF m pc Ls st) rfl hd _ q) r
theorem gldc2J (X : Stand p l e R s m args below meth c T locs cells slots) (hx : p.tables.exec = Jvm.exec) (hZ : Z.Warmed39 s.vm) {own : String} {index : Nat} {v : Int64} (hown : s.vm.findClass own = some m.cls) (w : (Jvm.Cond.constantLong own index v).before a0 Z = true) (pc' : Nat) (hd : decode c.code pc = .ok (.ldc2_w index, 3)) (hp : pc + 3 = pc') (r : Go p e below P T (mkF m pc' Ls (.long v :: st))) : Go p e below P T (mkF m pc Ls (st)) := by
  subst hp; exact Go.of (fun _ q => X.ldc2Long hx hown (mvT hZ w) (g := mkF m pc Ls st) rfl hd _ q) r
theorem garrlen (X : Stand p l e R s m args below meth c T locs cells slots) (hx : p.tables.exec = Jvm.exec) (hZ : Z.Warmed39 s.vm) (eT : T.heap = h) {a : Addr} {k : ClassId} {ty : FieldType} {z : Int32} {vs : List Value} {dv : Value} (A : Arv Z h a k ty z vs dv) (pc' : Nat) (hd : decode c.code pc = .ok (.arraylength, 1)) (hp : pc + 1 = pc') (r : Go p e below P T (mkF m pc' Ls (.int z :: st))) : Go p e below P T (mkF m pc Ls (.ref a :: st)) := by
  subst hp
  obtain ⟨cl, A1, -, S1, N1, -, -⟩ := A
  refine Go.of (fun _ q => X.arraylength hx (by rw [eT]; exact A1.1) (State.isArrayOf_alike hZ.alike A1.2.1) (g := mkF m pc Ls (.ref a :: st)) rfl rfl hd _ (by rw [len_of S1 N1]; exact q)) r
theorem giaload (X : Stand p l e R s m args below meth c T locs cells slots) (hx : p.tables.exec = Jvm.exec) (hZ : Z.Warmed39 s.vm) (eT : T.heap = h) {a : Addr} {k : ClassId} {z j : Int32} {vs : List Value} {dv : Value} (A : Arv Z h a k .int z vs dv) (v : Value) (hj : ¬ j < 0) (hj2 : j < z) (hv : vs.getD j.toNatClampNeg dv = v) (pc' : Nat) (hd : decode c.code pc = .ok (.iaload, 1)) (hp : pc + 1 = pc') (r : Go p e below P T (mkF m pc' Ls (v :: st))) : Go p e below P T (mkF m pc Ls (.int j :: .ref a :: st)) := by
  subst hp
  obtain ⟨cl, A1, -, S1, N1, H1, -⟩ := A
  have hin := inb_of S1 ⟨hj, hj2⟩
  exact Go.of (fun _ q => X.iaload hx (by rw [eT]; exact A1.1) (State.isArrayOf_alike hZ.alike A1.2.1) A1.2.2 hin (H1.at hin hv) (g := mkF m pc Ls (.int j :: .ref a :: st)) rfl rfl hd _ q) r
theorem gcaload (X : Stand p l e R s m args below meth c T locs cells slots) (hx : p.tables.exec = Jvm.exec) (hZ : Z.Warmed39 s.vm) (eT : T.heap = h) {a : Addr} {k : ClassId} {z j : Int32} {vs : List Value} {dv : Value} (A : Arv Z h a k .char z vs dv) (v : Value) (hj : ¬ j < 0) (hj2 : j < z) (hv : vs.getD j.toNatClampNeg dv = v) (pc' : Nat) (hd : decode c.code pc = .ok (.caload, 1)) (hp : pc + 1 = pc') (r : Go p e below P T (mkF m pc' Ls (v :: st))) : Go p e below P T (mkF m pc Ls (.int j :: .ref a :: st)) := by
  subst hp
  obtain ⟨cl, A1, -, S1, N1, H1, -⟩ := A
  have hin := inb_of S1 ⟨hj, hj2⟩
  exact Go.of (fun _ q => X.caload hx (by rw [eT]; exact A1.1) (State.isArrayOf_alike hZ.alike A1.2.1) A1.2.2 hin (H1.at hin hv) (g := mkF m pc Ls (.int j :: .ref a :: st)) rfl rfl hd _ q) r
theorem gbaload (X : Stand p l e R s m args below meth c T locs cells slots) (hx : p.tables.exec = Jvm.exec) (hZ : Z.Warmed39 s.vm) (eT : T.heap = h) {a : Addr} {k : ClassId} {z j : Int32} {vs : List Value} {dv : Value} (A : Arv Z h a k .byte z vs dv) (v : Value) (hj : ¬ j < 0) (hj2 : j < z) (hv : vs.getD j.toNatClampNeg dv = v) (pc' : Nat) (hd : decode c.code pc = .ok (.baload, 1)) (hp : pc + 1 = pc') (r : Go p e below P T (mkF m pc' Ls (v :: st))) : Go p e below P T (mkF m pc Ls (.int j :: .ref a :: st)) := by
  subst hp
  obtain ⟨cl, A1, -, S1, N1, H1, -⟩ := A
  have hin := inb_of S1 ⟨hj, hj2⟩
  exact Go.of (fun _ q => X.baloadBytes hx (by rw [eT]; exact A1.1) (State.isArrayOf_alike hZ.alike A1.2.1) A1.2.2 hin (H1.at hin hv) (g := mkF m pc Ls (.int j :: .ref a :: st)) rfl rfl hd _ q) r
theorem glaload (X : Stand p l e R s m args below meth c T locs cells slots) (hx : p.tables.exec = Jvm.exec) (hZ : Z.Warmed39 s.vm) (eT : T.heap = h) {a : Addr} {k : ClassId} {z j : Int32} {vs : List Value} {dv : Value} (A : Arv Z h a k .long z vs dv) (v : Value) (hj : ¬ j < 0) (hj2 : j < z) (hv : vs.getD j.toNatClampNeg dv = v) (pc' : Nat) (hd : decode c.code pc = .ok (.laload, 1)) (hp : pc + 1 = pc') (r : Go p e below P T (mkF m pc' Ls (v :: st))) : Go p e below P T (mkF m pc Ls (.int j :: .ref a :: st)) := by
  subst hp
  obtain ⟨cl, A1, -, S1, N1, H1, -⟩ := A
  have hin := inb_of S1 ⟨hj, hj2⟩
  exact Go.of (fun _ q => X.laload hx (by rw [eT]; exact A1.1) (State.isArrayOf_alike hZ.alike A1.2.1) A1.2.2 hin (H1.at hin hv) (g := mkF m pc Ls (.int j :: .ref a :: st)) rfl rfl hd _ q) r
theorem gaaload (X : Stand p l e R s m args below meth c T locs cells slots) (hx : p.tables.exec = Jvm.exec) (hZ : Z.Warmed39 s.vm) (eT : T.heap = h) {a : Addr} {k : ClassId} {ty : FieldType} {z j : Int32} {vs : List Value} {dv : Value} (A : Arv Z h a k ty z vs dv) (v : Value) (hj : ¬ j < 0) (hj2 : j < z) (hv : vs.getD j.toNatClampNeg dv = v) (hty : ty.isReference = true) (pc' : Nat) (hd : decode c.code pc = .ok (.aaload, 1)) (hp : pc + 1 = pc') (r : Go p e below P T (mkF m pc' Ls (v :: st))) : Go p e below P T (mkF m pc Ls (.int j :: .ref a :: st)) := by
  subst hp
  obtain ⟨cl, A1, -, S1, N1, H1, -⟩ := A
  have hin := inb_of S1 ⟨hj, hj2⟩
  exact Go.of (fun _ q => X.aaload hx (by rw [eT]; exact A1.1) (State.isArrayOf_alike hZ.alike A1.2.1) hty A1.2.2 hin (H1.at hin hv) (g := mkF m pc Ls (.int j :: .ref a :: st)) rfl rfl hd _ q) r
theorem ggetF (X : Stand p l e R s m args below meth c T locs cells slots) (hx : p.tables.exec = Jvm.exec) (hZ : Z.Warmed39 s.vm) {own R0 O n d host : String} {index : Nat} (hown : s.vm.findClass own = some m.cls) (w : (Jvm.Cond.fieldLink own index R0 n d).before a0 Z = true ∨ (Jvm.Cond.fieldLinkNest own index R0 n d host).before a0 Z = true) (via : Via Z R0 O n d) (eT : T.heap = h) {a : Addr} {v : Value} (F : Fld Z h a O n d v) (pc' : Nat) (hd : decode c.code pc = .ok (.getfield index, 3)) (hp : pc + 3 = pc') (r : ∀ T', Stand p l e R s m args below meth c T' locs cells slots → T'.heap = h → Go p e below P T' (mkF m pc' Ls (v :: st))) : Go p e below P T (mkF m pc Ls (.ref a :: st)) := by
  subst hp
  obtain ⟨T', X', e', stp⟩ := getF X hx hZ hown w via eT F (g := mkF m pc Ls (.ref a :: st)) rfl rfl hd
  exact Go.of stp (r T' X' e')
theorem ggetS (X : Stand p l e R s m args below meth c T locs cells slots) (hx : p.tables.exec = Jvm.exec) (hZ : Z.Warmed39 s.vm) {own R0 O n d host : String} {index : Nat} (hown : s.vm.findClass own = some m.cls) (w : (Jvm.Cond.fieldLink own index R0 n d).before a0 Z = true ∨ (Jvm.Cond.fieldLinkNest own index R0 n d host).before a0 Z = true) (via : Via Z R0 O n d) (eT : T.heap = h) {v : Value} (F : Sta Z h O n d v) (pc' : Nat) (hd : decode c.code pc = .ok (.getstatic index, 3)) (hp : pc + 3 = pc') (r : ∀ T', Stand p l e R s m args below meth c T' locs cells slots → T'.heap = h → Go p e below P T' (mkF m pc' Ls (v :: st))) : Go p e below P T (mkF m pc Ls st) := by
  subst hp
  obtain ⟨T', X', e', stp⟩ := getS2 X hx hZ hown w via eT F (g := mkF m pc Ls st) rfl hd
  exact Go.of stp (r T' X' e')
theorem gputF (X : Stand p l e R s m args below meth c T locs cells slots) (hx : p.tables.exec = Jvm.exec) (hZ : Z.Warmed39 s.vm) {own R0 O n d host : String} {index : Nat} (hown : s.vm.findClass own = some m.cls) (w : (Jvm.Cond.fieldLink own index R0 n d).before a0 Z = true ∨ (Jvm.Cond.fieldLinkNest own index R0 n d host).before a0 Z = true) (via : Via Z R0 O n d) (eT : T.heap = h) {C : String} {kk : Nat} {ty : FieldType} {a : Addr} {v old : Value} (F : Fld Z h a O n d old) (E : Exa Z h a C) (L : (Jvm.Cond.lays C O n d).before a0 Z = true ∨ ((Jvm.Cond.laysFinal C O n d).before a0 Z = true ∧ own = O ∧ meth.name = "<init>")) (wi : (Jvm.Cond.instantiable C kk).before a0 Z = true) (hty : parseFieldDescriptor d = some ty) (hn : narrow ty v = v) (hf : fits ty v = true) {n0 : Nat} (N : Fr n0 locs) (ge : n0 ≤ a) (pc' : Nat) (hd : decode c.code pc = .ok (.putfield index, 3)) (hp : pc + 3 = pc') (r : ∀ T' h' L', Stand p l e R s m args below meth c T' L' cells slots → T'.heap = h' → Fr n0 L' → Wr h h' a (Jvm.RoadKit.slotOf Z O n d) v → Go p e below P T' (mkF m pc' Ls st)) : Go p e below P T (mkF m pc Ls (v :: .ref a :: st)) := by
  subst hp
  obtain ⟨T', h', X', e', W', stp⟩ := putF X hx hZ hown w via eT F E L wi hty hn hf (g := mkF m pc Ls (v :: .ref a :: st)) rfl rfl hd
  exact Go.of stp (r T' h' _ X' e' (Fr.snoc X' N ge) W')
theorem gnewO (X : Stand p l e R s m args below meth c T locs cells slots) (hx : p.tables.exec = Jvm.exec) (hZ : Z.Warmed39 s.vm) {own C : String} {index n : Nat} (hown : s.vm.findClass own = some m.cls) (w : (Jvm.Cond.classLink own index C).before a0 Z = true) (wi : (Jvm.Cond.instantiable C n).before a0 Z = true) (wz : (Jvm.Cond.initialized C).before a0 Z = true) (eT : T.heap = h) (cells' slots' : Nat) (hcl : cells + 1 = cells') (hsl : slots + n = slots') (hc : cells' ≤ R.cells) (hl : slots' ≤ R.slots) (pc' : Nat) (hd : decode c.code pc = .ok (.new index, 3)) (hp : pc + 3 = pc') (r : ∀ T' h' a, Stand p l e R s m args below meth c T' locs cells' slots' → T'.heap = h' → a = h.size → Ext h h' → Exa Z h' a C → (∀ {O nm d : String} {ty : FieldType}, Laid Z a0 C O nm d → parseFieldDescriptor d = some ty → Fld Z h' a O nm d (defaultValue ty)) → Go p e below P T' (mkF m pc' Ls (.ref a :: st))) : Go p e below P T (mkF m pc Ls st) := by
  subst hp hcl hsl
  obtain ⟨T', h', X', e', E', A', D', -, stp⟩ := newO X hx hZ hown w wi wz eT (g := mkF m pc Ls st) rfl hd hc hl
  exact Go.of stp (r T' h' _ X' e' rfl E' A' D')
theorem gnewP (X : Stand p l e R s m args below meth c T locs cells slots) (hx : p.tables.exec = Jvm.exec) (hZ : Z.Warmed39 s.vm) {aty : ArrayType} (w : (Jvm.Cond.arrayClass (newarray.typeOf aty)).before a0 Z = true) (eT : T.heap = h) {n : Int32} (hn : ¬ n < 0) (cap : Nat) (hcap : n.toNatClampNeg ≤ cap) (hb : cap * 8 ≤ 536870912) (cells' slots' : Nat) (hcl : cells + 1 = cells') (hsl : slots + cap = slots') (hc : cells' ≤ R.cells) (hl : slots' ≤ R.slots) (pc' : Nat) (hd : decode c.code pc = .ok (.newarray aty, 2)) (hp : pc + 2 = pc') (r : ∀ T' h' a k, Stand p l e R s m args below meth c T' locs cells' slots' → T'.heap = h' → a = h.size → Ext h h' → Arv Z h' a k (newarray.typeOf aty) n [] (defaultValue (newarray.typeOf aty)) → Go p e below P T' (mkF m pc' Ls (.ref a :: st))) : Go p e below P T (mkF m pc Ls (.int n :: st)) := by
  subst hp hcl hsl
  obtain ⟨T', h', k, X', e', E', A', stp⟩ := newP X hx hZ w eT (g := mkF m pc Ls (.int n :: st)) rfl hd rfl hn hcap hb hc hl
  exact Go.of stp (r T' h' _ k X' e' rfl E' (Arv.new A' hn))
theorem gcastore (X : Stand p l e R s m args below meth c T locs cells slots) (hx : p.tables.exec = Jvm.exec) (hZ : Z.Warmed39 s.vm) (eT : T.heap = h) {a : Addr} {k : ClassId} {z j x : Int32} {vs : List Value} {dv : Value} (A : Arv Z h a k .char z vs dv) (hj : ¬ j < 0) (hj2 : j < z) (i : Nat) (hji : j.toNatClampNeg = i) (hi : i < vs.length) {n0 : Nat} (N : Fr n0 locs) (ge : n0 ≤ a) (pc' : Nat) (hd : decode c.code pc = .ok (.castore, 1)) (hp : pc + 1 = pc') (r : ∀ T' h' L', Stand p l e R s m args below meth c T' L' cells slots → T'.heap = h' → Fr n0 L' → Wr h h' a j.toNatClampNeg (.int (nar .char x)) → Arv Z h' a k .char z (vs.set i (.int (nar .char x))) dv → Go p e below P T' (mkF m pc' Ls st)) : Go p e below P T (mkF m pc Ls (.int x :: .int j :: .ref a :: st)) := by
  subst hp
  obtain ⟨cl, A1, q1, S1, N1, H1, G1⟩ := A
  have hin := inb_of S1 ⟨hj, hj2⟩
  obtain ⟨T', h', X', e', W', stp⟩ := stC X hx hZ eT A1 hin (g := mkF m pc Ls (.int x :: .int j :: .ref a :: st)) rfl rfl hd
  exact Go.of stp (r T' h' _ X' e' (Fr.snoc X' N ge) W' (Arv.set A1 q1 S1 N1 H1 G1 (fits_nar_char x) W' i hji hi))
theorem gbastore (X : Stand p l e R s m args below meth c T locs cells slots) (hx : p.tables.exec = Jvm.exec) (hZ : Z.Warmed39 s.vm) (eT : T.heap = h) {a : Addr} {k : ClassId} {z j x : Int32} {vs : List Value} {dv : Value} (A : Arv Z h a k .byte z vs dv) (hj : ¬ j < 0) (hj2 : j < z) (i : Nat) (hji : j.toNatClampNeg = i) (hi : i < vs.length) {n0 : Nat} (N : Fr n0 locs) (ge : n0 ≤ a) (pc' : Nat) (hd : decode c.code pc = .ok (.bastore, 1)) (hp : pc + 1 = pc') (r : ∀ T' h' L', Stand p l e R s m args below meth c T' L' cells slots → T'.heap = h' → Fr n0 L' → Wr h h' a j.toNatClampNeg (.int (nar .byte x)) → Arv Z h' a k .byte z (vs.set i (.int (nar .byte x))) dv → Go p e below P T' (mkF m pc' Ls st)) : Go p e below P T (mkF m pc Ls (.int x :: .int j :: .ref a :: st)) := by
  subst hp
  obtain ⟨cl, A1, q1, S1, N1, H1, G1⟩ := A
  have hin := inb_of S1 ⟨hj, hj2⟩
  obtain ⟨T', h', X', e', W', stp⟩ := stB X hx hZ eT A1 hin (g := mkF m pc Ls (.int x :: .int j :: .ref a :: st)) rfl rfl hd
  exact Go.of stp (r T' h' _ X' e' (Fr.snoc X' N ge) W' (Arv.set A1 q1 S1 N1 H1 G1 (fits_nar_byte x) W' i hji hi))
theorem giastore (X : Stand p l e R s m args below meth c T locs cells slots) (hx : p.tables.exec = Jvm.exec) (hZ : Z.Warmed39 s.vm) (eT : T.heap = h) {a : Addr} {k : ClassId} {z j x : Int32} {vs : List Value} {dv : Value} (A : Arv Z h a k .int z vs dv) (hj : ¬ j < 0) (hj2 : j < z) (i : Nat) (hji : j.toNatClampNeg = i) (hi : i < vs.length) {n0 : Nat} (N : Fr n0 locs) (ge : n0 ≤ a) (pc' : Nat) (hd : decode c.code pc = .ok (.iastore, 1)) (hp : pc + 1 = pc') (r : ∀ T' h' L', Stand p l e R s m args below meth c T' L' cells slots → T'.heap = h' → Fr n0 L' → Wr h h' a j.toNatClampNeg (.int (x)) → Arv Z h' a k .int z (vs.set i (.int (x))) dv → Go p e below P T' (mkF m pc' Ls st)) : Go p e below P T (mkF m pc Ls (.int x :: .int j :: .ref a :: st)) := by
  subst hp
  obtain ⟨cl, A1, q1, S1, N1, H1, G1⟩ := A
  have hin := inb_of S1 ⟨hj, hj2⟩
  obtain ⟨T', h', X', e', W', stp⟩ := stI X hx hZ eT A1 hin (g := mkF m pc Ls (.int x :: .int j :: .ref a :: st)) rfl rfl hd
  exact Go.of stp (r T' h' _ X' e' (Fr.snoc X' N ge) W' (Arv.set A1 q1 S1 N1 H1 G1 (rfl) W' i hji hi))
theorem gnewR (X : Stand p l e R s m args below meth c T locs cells slots) (hx : p.tables.exec = Jvm.exec) (hZ : Z.Warmed39 s.vm) {own C : String} {index : Nat} (hown : s.vm.findClass own = some m.cls) (w1 : (Jvm.Cond.classLink own index C).before a0 Z = true) (w2 : (Jvm.Cond.arrayOver (.object C)).before a0 Z = true) (eT : T.heap = h) {n : Int32} (hn : ¬ n < 0) (cap : Nat) (hcap : n.toNatClampNeg ≤ cap) (hb : cap * 8 ≤ 536870912) (cells' slots' : Nat) (hcl : cells + 1 = cells') (hsl : slots + cap = slots') (hc : cells' ≤ R.cells) (hl : slots' ≤ R.slots) (pc' : Nat) (hd : decode c.code pc = .ok (.anewarray index, 3)) (hp : pc + 3 = pc') (r : ∀ T' h' a k, Stand p l e R s m args below meth c T' locs cells' slots' → T'.heap = h' → a = h.size → Ext h h' → Arv Z h' a k (.object C) n [] .null → Ovr Z k C → Go p e below P T' (mkF m pc' Ls (.ref a :: st))) : Go p e below P T (mkF m pc Ls (.int n :: st)) := by
  subst hp hcl hsl
  obtain ⟨T', h', k, X', e', E', A', O', stp⟩ := newR X hx hZ hown w1 w2 eT (g := mkF m pc Ls (.int n :: st)) rfl hd rfl hn hcap hb hc hl
  exact Go.of stp (r T' h' _ k X' e' rfl E' (Arv.new A' hn) O')
theorem gaastore (X : Stand p l e R s m args below meth c T locs cells slots) (hx : p.tables.exec = Jvm.exec) (hZ : Z.Warmed39 s.vm) (eT : T.heap = h) {a : Addr} {k : ClassId} {ty : FieldType} {z j : Int32} {v : Value} {vs : List Value} {dv : Value} (A : Arv Z h a k ty z vs dv) (hj : ¬ j < 0) (hj2 : j < z) (i : Nat) (hji : j.toNatClampNeg = i) (hi : i < vs.length) (hty : ty.isReference = true) (hfit : fits ty v = true) (F : Sto Z h a v) {n0 : Nat} (N : Fr n0 locs) (ge : n0 ≤ a) (pc' : Nat) (hd : decode c.code pc = .ok (.aastore, 1)) (hp : pc + 1 = pc') (r : ∀ T' h' L', Stand p l e R s m args below meth c T' L' cells slots → T'.heap = h' → Fr n0 L' → Wr h h' a j.toNatClampNeg v → Arv Z h' a k ty z (vs.set i v) dv → Go p e below P T' (mkF m pc' Ls st)) : Go p e below P T (mkF m pc Ls (v :: .int j :: .ref a :: st)) := by
  subst hp
  obtain ⟨cl, A1, q1, S1, N1, H1, G1⟩ := A
  have hin := inb_of S1 ⟨hj, hj2⟩
  obtain ⟨T', h', X', e', W', stp⟩ := stR X hx hZ eT A1 hin hty F (g := mkF m pc Ls (v :: .int j :: .ref a :: st)) rfl rfl hd
  exact Go.of stp (r T' h' _ X' e' (Fr.snoc X' N ge) W' (Arv.set A1 q1 S1 N1 H1 G1 hfit W' i hji hi))
theorem glswHit (X : Stand p l e R s m args below meth c T locs cells slots) (hx : p.tables.exec = Jvm.exec) {k : Int32} {default : Int} {pairs : Array (Int × Int)} {len : Nat} (pc' : Nat) (hd : decode c.code pc = .ok (.lookupswitch default pairs, len)) (hsorted : (pairs.toList.zip (pairs.toList.drop 1)).all (fun (a, next) => a.1 < next.1) = true) {a off : Int} (hfind : pairs.find? (·.1 == k.toInt) = some (a, off)) (hoff : 0 ≤ (pc : Int) + off) (hp : ((pc : Int) + off).toNat = pc') (r : Go p e below P T (mkF m pc' Ls st)) : Go p e below P T (mkF m pc Ls (.int k :: st)) := by
  subst hp; exact Go.of (fun _ q => X.lookupswitchHit hx (g := mkF m pc Ls (.int k :: st)) rfl rfl hd hsorted hfind hoff _ q) r
theorem glswMiss (X : Stand p l e R s m args below meth c T locs cells slots) (hx : p.tables.exec = Jvm.exec) {k : Int32} {default : Int} {pairs : Array (Int × Int)} {len : Nat} (pc' : Nat) (hd : decode c.code pc = .ok (.lookupswitch default pairs, len)) (hsorted : (pairs.toList.zip (pairs.toList.drop 1)).all (fun (a, next) => a.1 < next.1) = true) (hfind : pairs.find? (·.1 == k.toInt) = none) (hoff : 0 ≤ (pc : Int) + default) (hp : ((pc : Int) + default).toNat = pc') (r : Go p e below P T (mkF m pc' Ls st)) : Go p e below P T (mkF m pc Ls (.int k :: st)) := by
  subst hp; exact Go.of (fun _ q => X.lookupswitchMiss hx (g := mkF m pc Ls (.int k :: st)) rfl rfl hd hsorted hfind hoff _ q) r
theorem gtswIn (X : Stand p l e R s m args below meth c T locs cells slots) (hx : p.tables.exec = Jvm.exec) {k : Int32} {default low high : Int} {offsets : Array Int} {len : Nat} (pc' : Nat) (hd : decode c.code pc = .ok (.tableswitch default low high offsets, len)) (hin : ¬ (k.toInt < low ∨ k.toInt > high)) {off : Int} (hoffs : offsets[(k.toInt - low).toNat]? = some off) (hoff : 0 ≤ (pc : Int) + off) (hp : ((pc : Int) + off).toNat = pc') (r : Go p e below P T (mkF m pc' Ls st)) : Go p e below P T (mkF m pc Ls (.int k :: st)) := by
  subst hp; exact Go.of (fun _ q => X.tableswitchIn hx (g := mkF m pc Ls (.int k :: st)) rfl rfl hd hin hoffs hoff _ q) r
theorem ginitO (X : Stand p l e R s m args below meth c T locs cells slots) (hx : p.tables.exec = Jvm.exec) (hZ : Z.Warmed39 s.vm) {own : String} {idx : Nat} (hown : s.vm.findClass own = some m.cls) (w1 : (Jvm.Cond.methodLink own idx Lib.objectInit).before a0 Z = true) (w2 : (Jvm.Cond.instanceMethod Lib.objectInit).before a0 Z = true) (w3 : (Jvm.Cond.code Lib.objectInit ⟨#[0xb1]⟩ 1 none).before a0 Z = true) (eT : T.heap = h) (hsz : Ls.size = c.maxLocals) {a : Addr} (hf : 1 ≤ R.frames) (W : Nat) (hW : (st.map fun v => v.category).sum ≤ W) (hl : W + 12 ≤ R.locals) (pc' : Nat) (hd : decode c.code pc = .ok (.invokespecial idx, 3)) (hp : pc + 3 = pc') (r : ∀ T', Stand p l e R s m args below meth c T' locs cells slots → T'.heap = h → Go p e below P T' (mkF m pc' Ls st)) : Go p e below P T (mkF m pc Ls (.ref a :: st)) := by
  subst hp
  obtain ⟨T', X', e', stp⟩ := initO X hx hZ hown w1 w2 w3 eT (g := mkF m pc Ls (.ref a :: st)) rfl hsz rfl hd hf (W := W) (by show 2 * 0 + _ ≤ _; omega) hl
  exact Go.of stp (r T' X' e')
theorem gcast (X : Stand p l e R s m args below meth c T locs cells slots) (hx : p.tables.exec = Jvm.exec) (hZ : Z.Warmed39 s.vm) {own K : String} {index : Nat} (hown : s.vm.findClass own = some m.cls) (w : (Jvm.Cond.classLink own index K).before a0 Z = true) (eT : T.heap = h) {a : Addr} (F : Ins Z h a K true) (pc' : Nat) (hd : decode c.code pc = .ok (.checkcast index, 3)) (hp : pc + 3 = pc') (r : ∀ T', Stand p l e R s m args below meth c T' locs cells slots → T'.heap = h → Go p e below P T' (mkF m pc' Ls (.ref a :: st))) : Go p e below P T (mkF m pc Ls (.ref a :: st)) := by
  subst hp
  obtain ⟨T', X', e', stp⟩ := castY X hx hZ hown w eT F (g := mkF m pc Ls (.ref a :: st)) rfl rfl hd
  exact Go.of stp (r T' X' e')
theorem ginstY (X : Stand p l e R s m args below meth c T locs cells slots) (hx : p.tables.exec = Jvm.exec) (hZ : Z.Warmed39 s.vm) {own K : String} {index : Nat} (hown : s.vm.findClass own = some m.cls) (w : (Jvm.Cond.classLink own index K).before a0 Z = true) (eT : T.heap = h) {a : Addr} (F : Ins Z h a K true) (pc' : Nat) (hd : decode c.code pc = .ok (.instanceof index, 3)) (hp : pc + 3 = pc') (r : ∀ T', Stand p l e R s m args below meth c T' locs cells slots → T'.heap = h → Go p e below P T' (mkF m pc' Ls (.int 1 :: st))) : Go p e below P T (mkF m pc Ls (.ref a :: st)) := by
  subst hp
  obtain ⟨T', X', e', stp⟩ := instY X hx hZ hown w eT F (g := mkF m pc Ls (.ref a :: st)) rfl rfl hd
  exact Go.of stp (r T' X' e')
theorem gspecial (X : Stand p l e R s m args below meth c T locs cells slots) (hx : p.tables.exec = Jvm.exec) (hZ : Z.Warmed39 s.vm) {own : String} {index : Nat} (hown : s.vm.findClass own = some m.cls) {y : MethodName} (hy1 : y.name = "<init>") (w1 : (Jvm.Cond.methodLink own index y).before a0 Z = true) (w2 : (Jvm.Cond.instanceMethod y).before a0 Z = true) {bytes : ByteArray} {maxL : Nat} (w3 : (Jvm.Cond.code y bytes maxL none).before a0 Z = true) (hy : y.cls ≠ "java/lang/invoke/MethodHandle" ∧ y.cls ≠ "java/lang/invoke/VarHandle") {W k j : Nat} {argsL : List Value} {a : Addr} (hK : Pays l R p e below s args y 3 W (.ref a :: argsL).toArray h k j Q) (eT : T.heap = h) (hsz : Ls.size = c.maxLocals) (hlen : ∀ sig, parseMethodDescriptor y.desc = some sig → argsL.length = sig.parameters.length) {stk : List Value} (hs : stk = argsL.reverse ++ .ref a :: st) (hW : (st.map fun v => v.category).sum ≤ W) (cells' slots' : Nat) (hcl : cells + k = cells') (hsl : slots + j = slots') (hc : cells' ≤ R.cells) (hl : slots' ≤ R.slots) (pc' : Nat) (hd : decode c.code pc = .ok (.invokespecial index, 3)) (hp : pc + 3 = pc') (r : ∀ v T' h' L' Lc, Stand p l e R s m args below meth c T' L' cells' slots' → T'.heap = h' → L' = locs ++ Lc → Q v h' Lc → Go p e below P T' (mkF m pc' Ls (v.toList ++ st))) : Go p e below P T (mkF m pc Ls stk) := by
  subst hp hcl hsl
  obtain ⟨v, vm₁, ⟨T', L', k', n'⟩, -, X', ⟨Lc, hQ, h1, h2, h3⟩, hst⟩ := X.specialBack hx hy1 hown (mvT hZ w1) (mvT hZ w2) (mvT hZ w3) hy hK (g := mkF m pc Ls stk) rfl hsz (Steps.refl _) hlen hs (by show 2 * 0 + _ ≤ _; omega) hd (fun _ _ => ⟨rfl, eT, hc, hl⟩)
  dsimp only at X' hQ h1 h2 h3 hst
  subst h1 h2 h3
  exact Go.tr hst (r v T' _ _ Lc X' rfl rfl hQ)
theorem gvirtual (X : Stand p l e R s m args below meth c T locs cells slots) (hx : p.tables.exec = Jvm.exec) (hZ : Z.Warmed39 s.vm) {own : String} {index : Nat} (hown : s.vm.findClass own = some m.cls) {C : String} {y z : MethodName} (w1 : (Jvm.Cond.methodLink own index y).before a0 Z = true) (w2 : (Jvm.Cond.declares y).before a0 Z = true) (nf : NotFace s y) (w3 : (Jvm.Cond.selects C y z).before a0 Z = true) (w4 : (Jvm.Cond.instanceMethod z).before a0 Z = true) (hy : y.cls ≠ "java/lang/invoke/MethodHandle" ∧ y.cls ≠ "java/lang/invoke/VarHandle") {a : Addr} (E : Exa Z h a C) {W k j : Nat} {argsL : List Value} (hK : Pays l R p e below s args z 3 W (.ref a :: argsL).toArray h k j Q) (eT : T.heap = h) (hsz : Ls.size = c.maxLocals) (hlen : ∀ sig, parseMethodDescriptor y.desc = some sig → argsL.length = sig.parameters.length) {stk : List Value} (hs : stk = argsL.reverse ++ .ref a :: st) (hW : (st.map fun v => v.category).sum ≤ W) (cells' slots' : Nat) (hcl : cells + k = cells') (hsl : slots + j = slots') (hc : cells' ≤ R.cells) (hl : slots' ≤ R.slots) (pc' : Nat) (hd : decode c.code pc = .ok (.invokevirtual index, 3)) (hp : pc + 3 = pc') (r : ∀ v T' h' L' Lc, Stand p l e R s m args below meth c T' L' cells' slots' → T'.heap = h' → L' = locs ++ Lc → Q v h' Lc → Go p e below P T' (mkF m pc' Ls (v.toList ++ st))) : Go p e below P T (mkF m pc Ls stk) := by
  subst hp hcl hsl
  obtain ⟨v, vm₁, ⟨T', L', k', n'⟩, -, X', ⟨Lc, hQ, h1, h2, h3⟩, hst⟩ := X.virtualBack hx hown (mvT hZ w1) (mvT hZ w2) nf (mvT hZ w3) (mvT hZ w4) hy hK (isOf hZ eT E).choose_spec.choose_spec.1 (isOf hZ eT E).choose_spec.choose_spec.2.2 (g := mkF m pc Ls stk) rfl hsz (Steps.refl _) hlen hs (by show 2 * 0 + _ ≤ _; omega) hd (fun _ _ => ⟨rfl, eT, hc, hl⟩)
  dsimp only at X' hQ h1 h2 h3 hst
  subst h1 h2 h3
  exact Go.tr hst (r v T' _ _ Lc X' rfl rfl hQ)
theorem gstatic (X : Stand p l e R s m args below meth c T locs cells slots) (hx : p.tables.exec = Jvm.exec) (hZ : Z.Warmed39 s.vm) {own : String} {index : Nat} (hown : s.vm.findClass own = some m.cls) {y : MethodName} {bytes : ByteArray} {maxL : Nat} {ret : Option FieldType} (w1 : (Jvm.Cond.methodLink own index y).before a0 Z = true) (w2 : (Jvm.Cond.static y).before a0 Z = true) (w3 : (Jvm.Cond.initialized y.cls).before a0 Z = true) (w4 : (Jvm.Cond.code y bytes maxL ret).before a0 Z = true) (hy : y.cls ≠ "java/lang/invoke/MethodHandle" ∧ y.cls ≠ "java/lang/invoke/VarHandle") {W k j : Nat} {argsL : List Value} (hK : Pays l R p e below s args y 3 W argsL.toArray h k j Q) (eT : T.heap = h) (hsz : Ls.size = c.maxLocals) (hlen : ∀ sig, parseMethodDescriptor y.desc = some sig → argsL.length = sig.parameters.length) {stk : List Value} (hs : stk = argsL.reverse ++ st) (hW : (st.map fun v => v.category).sum ≤ W) (cells' slots' : Nat) (hcl : cells + k = cells') (hsl : slots + j = slots') (hc : cells' ≤ R.cells) (hl : slots' ≤ R.slots) (pc' : Nat) (hd : decode c.code pc = .ok (.invokestatic index, 3)) (hp : pc + 3 = pc') (r : ∀ v T' h' L' Lc, Stand p l e R s m args below meth c T' L' cells' slots' → T'.heap = h' → L' = locs ++ Lc → Q v h' Lc → Go p e below P T' (mkF m pc' Ls (v.toList ++ st))) : Go p e below P T (mkF m pc Ls stk) := by
  subst hp hcl hsl
  obtain ⟨v, vm₁, ⟨T', L', k', n'⟩, -, X', ⟨Lc, hQ, h1, h2, h3⟩, hst⟩ := Jvm.LawKit.callS X hx hown (mvT hZ w1) (mvT hZ w2) (mvT hZ w3) (mvT hZ w4) hy hK (g := mkF m pc Ls stk) rfl hsz hlen hs (by show 2 * 0 + _ ≤ _; omega) hd (fun _ _ => ⟨rfl, eT, hc, hl⟩)
  dsimp only at X' hQ h1 h2 h3 hst
  subst h1 h2 h3
  exact Go.of hst (r v T' _ _ Lc X' rfl rfl hQ)
theorem gspecialS (X : Stand p l e R (s.setVm vm0) m args below meth c T locs cells slots) (hx : p.tables.exec = Jvm.exec) (hZ : Z.Warmed39 vm0) {own : String} {index : Nat} (hown : vm0.findClass own = some m.cls) {y : MethodName} (hy1 : y.name = "<init>") (w1 : (Jvm.Cond.methodLink own index y).before a0 Z = true) (w2 : (Jvm.Cond.instanceMethod y).before a0 Z = true) {bytes : ByteArray} {maxL : Nat} (w3 : (Jvm.Cond.code y bytes maxL none).before a0 Z = true) (hy : y.cls ≠ "java/lang/invoke/MethodHandle" ∧ y.cls ≠ "java/lang/invoke/VarHandle") {W k j : Nat} {argsL : List Value} {a : Addr} (hS : s.Since vm0 k0) (hk : k0 ≤ h.size) (hK : PaysS l R p e below s vm0 args y 3 W (.ref a :: argsL).toArray h k j Z EL Q) (eT : T.heap = h) (hsz : Ls.size = c.maxLocals) (hlen : ∀ sig, parseMethodDescriptor y.desc = some sig → argsL.length = sig.parameters.length) {stk : List Value} (hs : stk = argsL.reverse ++ .ref a :: st) (hW : (st.map fun v => v.category).sum ≤ W) (cells' slots' : Nat) (hcl : cells + k = cells') (hsl : slots + j = slots') (hc : cells' ≤ R.cells) (hl : slots' ≤ R.slots) (pc' : Nat) (hd : decode c.code pc = .ok (.invokespecial index, 3)) (hp : pc + 3 = pc') (r : ∀ v T' h' L' Lc vm1 k1, Stand p l e R (s.setVm vm1) m args below meth c T' L' cells' slots' → T'.heap = h' → L' = locs ++ Lc → s.Since vm1 k1 → k1 ≤ h'.size → Z.Warmed39 vm1 → vm1.findClass own = some m.cls → CHr Z EL vm0 h vm1 h' → Q v h' Lc → Go p e below P T' (mkF m pc' Ls (v.toList ++ st))) : Go p e below P T (mkF m pc Ls stk) := by
  subst hp hcl hsl
  subst eT
  obtain ⟨v, vm₁, ⟨T', L', k', n'⟩, -, X', hS', hgr, ⟨Lc, hQ, h1, h2, h3, hC⟩, hst⟩ := X.specialBackS hx hy1 hown (mvT hZ w1) (mvT hZ w2) (mvT hZ w3) hy hK (g := mkF m pc Ls stk) rfl hsz (Steps.refl _) hlen hs (by show 2 * 0 + _ ≤ _; omega) hd (fun _ _ => ⟨rfl, rfl, hc, hl⟩)
  dsimp only at X' hS' hgr hQ h1 h2 h3 hC hst
  subst h1 h2 h3
  obtain ⟨X2, hS2, hZ2, ho2⟩ := rebS (Z := Z) (own := own) hS hk X' hS' hgr hZ hown
  exact Go.tr hst (r v T' _ _ Lc _ _ X2 rfl rfl hS2 (Nat.le_refl _) hZ2 ho2 hC hQ)
theorem gvirtualS (X : Stand p l e R (s.setVm vm0) m args below meth c T locs cells slots) (hx : p.tables.exec = Jvm.exec) (hZ : Z.Warmed39 vm0) {own : String} {index : Nat} (hown : vm0.findClass own = some m.cls) {C : String} {y z : MethodName} (w1 : (Jvm.Cond.methodLink own index y).before a0 Z = true) (w2 : (Jvm.Cond.declares y).before a0 Z = true) (nf : NotFace (s.setVm vm0) y) (w3 : (Jvm.Cond.selects C y z).before a0 Z = true) (w4 : (Jvm.Cond.instanceMethod z).before a0 Z = true) (hy : y.cls ≠ "java/lang/invoke/MethodHandle" ∧ y.cls ≠ "java/lang/invoke/VarHandle") {a : Addr} (E : Exa Z h a C) {W k j : Nat} {argsL : List Value} (hS : s.Since vm0 k0) (hk : k0 ≤ h.size) (hK : PaysS l R p e below s vm0 args z 3 W (.ref a :: argsL).toArray h k j Z EL Q) (eT : T.heap = h) (hsz : Ls.size = c.maxLocals) (hlen : ∀ sig, parseMethodDescriptor y.desc = some sig → argsL.length = sig.parameters.length) {stk : List Value} (hs : stk = argsL.reverse ++ .ref a :: st) (hW : (st.map fun v => v.category).sum ≤ W) (cells' slots' : Nat) (hcl : cells + k = cells') (hsl : slots + j = slots') (hc : cells' ≤ R.cells) (hl : slots' ≤ R.slots) (pc' : Nat) (hd : decode c.code pc = .ok (.invokevirtual index, 3)) (hp : pc + 3 = pc') (r : ∀ v T' h' L' Lc vm1 k1, Stand p l e R (s.setVm vm1) m args below meth c T' L' cells' slots' → T'.heap = h' → L' = locs ++ Lc → s.Since vm1 k1 → k1 ≤ h'.size → Z.Warmed39 vm1 → vm1.findClass own = some m.cls → CHr Z EL vm0 h vm1 h' → Q v h' Lc → Go p e below P T' (mkF m pc' Ls (v.toList ++ st))) : Go p e below P T (mkF m pc Ls stk) := by
  subst hp hcl hsl
  subst eT
  obtain ⟨v, vm₁, ⟨T', L', k', n'⟩, -, X', hS', hgr, ⟨Lc, hQ, h1, h2, h3, hC⟩, hst⟩ := X.virtualBackS hx hown (mvT hZ w1) (mvT hZ w2) nf (mvT hZ w3) (mvT hZ w4) hy hK (isOf hZ rfl E).choose_spec.choose_spec.1 (isOf hZ rfl E).choose_spec.choose_spec.2.2 (g := mkF m pc Ls stk) rfl hsz (Steps.refl _) hlen hs (by show 2 * 0 + _ ≤ _; omega) hd (fun _ _ => ⟨rfl, rfl, hc, hl⟩)
  dsimp only at X' hS' hgr hQ h1 h2 h3 hC hst
  subst h1 h2 h3
  obtain ⟨X2, hS2, hZ2, ho2⟩ := rebS (Z := Z) (own := own) hS hk X' hS' hgr hZ hown
  exact Go.tr hst (r v T' _ _ Lc _ _ X2 rfl rfl hS2 (Nat.le_refl _) hZ2 ho2 hC hQ)
theorem gstaticS (X : Stand p l e R (s.setVm vm0) m args below meth c T locs cells slots) (hx : p.tables.exec = Jvm.exec) (hZ : Z.Warmed39 vm0) {own : String} {index : Nat} (hown : vm0.findClass own = some m.cls) {y : MethodName} {bytes : ByteArray} {maxL : Nat} {ret : Option FieldType} (w1 : (Jvm.Cond.methodLink own index y).before a0 Z = true) (w2 : (Jvm.Cond.static y).before a0 Z = true) (w3 : (Jvm.Cond.initialized y.cls).before a0 Z = true) (w4 : (Jvm.Cond.code y bytes maxL ret).before a0 Z = true) (hy : y.cls ≠ "java/lang/invoke/MethodHandle" ∧ y.cls ≠ "java/lang/invoke/VarHandle") {W k j : Nat} {argsL : List Value} (hS : s.Since vm0 k0) (hk : k0 ≤ h.size) (hK : PaysS l R p e below s vm0 args y 3 W argsL.toArray h k j Z EL Q) (eT : T.heap = h) (hsz : Ls.size = c.maxLocals) (hlen : ∀ sig, parseMethodDescriptor y.desc = some sig → argsL.length = sig.parameters.length) {stk : List Value} (hs : stk = argsL.reverse ++ st) (hW : (st.map fun v => v.category).sum ≤ W) (cells' slots' : Nat) (hcl : cells + k = cells') (hsl : slots + j = slots') (hc : cells' ≤ R.cells) (hl : slots' ≤ R.slots) (pc' : Nat) (hd : decode c.code pc = .ok (.invokestatic index, 3)) (hp : pc + 3 = pc') (r : ∀ v T' h' L' Lc vm1 k1, Stand p l e R (s.setVm vm1) m args below meth c T' L' cells' slots' → T'.heap = h' → L' = locs ++ Lc → s.Since vm1 k1 → k1 ≤ h'.size → Z.Warmed39 vm1 → vm1.findClass own = some m.cls → CHr Z EL vm0 h vm1 h' → Q v h' Lc → Go p e below P T' (mkF m pc' Ls (v.toList ++ st))) : Go p e below P T (mkF m pc Ls stk) := by
  subst hp hcl hsl
  subst eT
  obtain ⟨v, vm₁, ⟨T', L', k', n'⟩, -, X', hS', hgr, ⟨Lc, hQ, h1, h2, h3, hC⟩, hst⟩ := callSS X hx hown (mvT hZ w1) (mvT hZ w2) (mvT hZ w3) (mvT hZ w4) hy hK (g := mkF m pc Ls stk) rfl hsz hlen hs (by show 2 * 0 + _ ≤ _; omega) hd (fun _ _ => ⟨rfl, rfl, hc, hl⟩)
  dsimp only at X' hS' hgr hQ h1 h2 h3 hC hst
  subst h1 h2 h3
  obtain ⟨X2, hS2, hZ2, ho2⟩ := rebS (Z := Z) (own := own) hS hk X' hS' hgr hZ hown
  exact Go.tr hst (r v T' _ _ Lc _ _ X2 rfl rfl hS2 (Nat.le_refl _) hZ2 ho2 hC hQ)
theorem giface (X : Stand p l e R s m args below meth c T locs cells slots) (hx : p.tables.exec = Jvm.exec) (hZ : Z.Warmed39 s.vm) {own : String} {index : Nat} (hown : s.vm.findClass own = some m.cls) {count : Nat} {C : String} {y z : MethodName} (w1 : (Jvm.Cond.methodLink own index y).before a0 Z = true) (w2 : (Jvm.Cond.declares y).before a0 Z = true) (w3 : (Jvm.Cond.interfaceMethod y.cls y.cls y.name y.desc).before args s = true) (w4 : (Jvm.Cond.selects C y z).before a0 Z = true) (w5 : (Jvm.Cond.instanceMethod z).before a0 Z = true) (w6 : (Jvm.Cond.publicMethod z).before a0 Z = true) (w7 : (Jvm.Cond.unhidden C y.name y.desc).before a0 Z = true) (w8 : (Jvm.Cond.castable C y.cls).before a0 Z = true) (hy : y.cls ≠ "java/lang/invoke/MethodHandle" ∧ y.cls ≠ "java/lang/invoke/VarHandle") {a : Addr} (E : Exa Z h a C) {W k j : Nat} {argsL : List Value} (hK : Pays l R p e below s args z 5 W (.ref a :: argsL).toArray h k j Q) (eT : T.heap = h) (hsz : Ls.size = c.maxLocals) (hlen : ∀ sig, parseMethodDescriptor y.desc = some sig → argsL.length = sig.parameters.length) {stk : List Value} (hs : stk = argsL.reverse ++ .ref a :: st) (hW : (st.map fun v => v.category).sum ≤ W) (cells' slots' : Nat) (hcl : cells + k = cells') (hsl : slots + j = slots') (hc : cells' ≤ R.cells) (hl : slots' ≤ R.slots) (pc' : Nat) (hd : decode c.code pc = .ok (.invokeinterface index count, 5)) (hp : pc + 5 = pc') (r : ∀ v T' h' L' Lc, Stand p l e R s m args below meth c T' L' cells' slots' → T'.heap = h' → L' = locs ++ Lc → Q v h' Lc → Go p e below P T' (mkF m pc' Ls (v.toList ++ st))) : Go p e below P T (mkF m pc Ls stk) := by
  subst hp hcl hsl
  obtain ⟨v, vm₁, ⟨T', L', k', n'⟩, -, X', ⟨Lc, hQ, h1, h2, h3⟩, hst⟩ := X.interfaceBack hx hown (mvT hZ w1) (mvT hZ w2) w3 (mvT hZ w4) (mvT hZ w5) (mvT hZ w6) (mvT hZ w7) (mvT hZ w8) hy hK (isOf hZ eT E).choose_spec.choose_spec.1 (isOf hZ eT E).choose_spec.choose_spec.2.1 (isOf hZ eT E).choose_spec.choose_spec.2.2 (g := mkF m pc Ls stk) rfl hsz (Steps.refl _) hlen hs (by show 2 * 0 + _ ≤ _; omega) hd (fun _ _ => ⟨rfl, eT, hc, hl⟩)
  dsimp only at X' hQ h1 h2 h3 hst
  subst h1 h2 h3
  exact Go.tr hst (r v T' _ _ Lc X' rfl rfl hQ)
theorem gpriv (X : Stand p l e R s m args below meth c T locs cells slots) (hx : p.tables.exec = Jvm.exec) (hZ : Z.Warmed39 s.vm) {own : String} {index : Nat} (hown : s.vm.findClass own = some m.cls) {y : MethodName} {bytes : ByteArray} {maxL : Nat} {ret : Option FieldType} (w1 : (Jvm.Cond.methodLink own index y).before a0 Z = true) (w2 : (Jvm.Cond.instanceMethod y).before a0 Z = true) (nf : NotFace s y) (w4 : (Jvm.Cond.privateMethod y).before a0 Z = true) (w5 : (Jvm.Cond.code y bytes maxL ret).before a0 Z = true) (hy : y.cls ≠ "java/lang/invoke/MethodHandle" ∧ y.cls ≠ "java/lang/invoke/VarHandle") {a : Addr} {C : String} (E : Exa Z h a C) {W k j : Nat} {argsL : List Value} (hK : Pays l R p e below s args y 3 W (.ref a :: argsL).toArray h k j Q) (eT : T.heap = h) (hsz : Ls.size = c.maxLocals) (hlen : ∀ sig, parseMethodDescriptor y.desc = some sig → argsL.length = sig.parameters.length) {stk : List Value} (hs : stk = argsL.reverse ++ .ref a :: st) (hW : (st.map fun v => v.category).sum ≤ W) (cells' slots' : Nat) (hcl : cells + k = cells') (hsl : slots + j = slots') (hc : cells' ≤ R.cells) (hl : slots' ≤ R.slots) (pc' : Nat) (hd : decode c.code pc = .ok (.invokevirtual index, 3)) (hp : pc + 3 = pc') (r : ∀ v T' h' L' Lc, Stand p l e R s m args below meth c T' L' cells' slots' → T'.heap = h' → L' = locs ++ Lc → Q v h' Lc → Go p e below P T' (mkF m pc' Ls (v.toList ++ st))) : Go p e below P T (mkF m pc Ls stk) := by
  subst hp hcl hsl
  obtain ⟨v, vm₁, ⟨T', L', k', n'⟩, -, X', ⟨Lc, hQ, h1, h2, h3⟩, hst⟩ := X.privateBack hx hown (mvT hZ w1) (mvT hZ w2) (selP nf (Cond.privateMethod_at (mvP hZ w4 (args := #[]))) (mvT hZ w2) hy) (Cond.privateMethod_at (mvP hZ w4 (args := #[]))) (mvT hZ w5) hy hK (g := mkF m pc Ls stk) rfl hsz (Steps.refl _) (by rw [eT]; exact E.cell.choose_spec.1) E.cell.choose_spec.2 hlen hs (by show 2 * 0 + _ ≤ _; omega) hd (fun _ _ => ⟨rfl, eT, hc, hl⟩)
  dsimp only at X' hQ h1 h2 h3 hst
  subst h1 h2 h3
  exact Go.tr hst (r v T' _ _ Lc X' rfl rfl hQ)
theorem gsuper (X : Stand p l e R s m args below meth c T locs cells slots) (hx : p.tables.exec = Jvm.exec) (hZ : Z.Warmed39 s.vm) {own : String} {index : Nat} (hown : s.vm.findClass own = some m.cls) {y : MethodName} {bytes : ByteArray} {maxL : Nat} {ret : Option FieldType} {K : String} (w1 : (Jvm.Cond.methodLink own index y).before a0 Z = true) (w2 : (Jvm.Cond.sameMethod y.cls y.cls y.name y.desc).before a0 Z = true) (w3 : (Jvm.Cond.instanceMethod y).before a0 Z = true) (w4 : (Jvm.Cond.superclass own y.cls).before a0 Z = true) (hy1 : y.name ≠ "<init>") (wc : (Jvm.Cond.code y bytes maxL ret).before a0 Z = true) {a : Addr} (F : Ins Z h a K true) {W k j : Nat} {argsL : List Value} (hK : Pays l R p e below s args y 3 W (.ref a :: argsL).toArray h k j Q) (eT : T.heap = h) (hsz : Ls.size = c.maxLocals) (hlen : ∀ sig, parseMethodDescriptor y.desc = some sig → argsL.length = sig.parameters.length) {stk : List Value} (hs : stk = argsL.reverse ++ .ref a :: st) (hW : (st.map fun v => v.category).sum ≤ W) (cells' slots' : Nat) (hcl : cells + k = cells') (hsl : slots + j = slots') (hc : cells' ≤ R.cells) (hl : slots' ≤ R.slots) (pc' : Nat) (hd : decode c.code pc = .ok (.invokespecial index, 3)) (hp : pc + 3 = pc') (r : ∀ v T' h' L' Lc, Stand p l e R s m args below meth c T' L' cells' slots' → T'.heap = h' → L' = locs ++ Lc → Q v h' Lc → Go p e below P T' (mkF m pc' Ls (v.toList ++ st))) : Go p e below P T (mkF m pc Ls stk) := by
  subst hp hcl hsl
  obtain ⟨v, vm₁, ⟨T', L', k', n'⟩, -, X', ⟨Lc, hQ, h1, h2, h3⟩, hst⟩ := superBack X hx hZ hown w1 w2 w3 w4 hy1 hK eT F (g := mkF m pc Ls stk) rfl hsz wc hlen hs (by show 2 * 0 + _ ≤ _; omega) hd (fun _ _ => ⟨rfl, eT, hc, hl⟩)
  dsimp only at X' hQ h1 h2 h3 hst
  subst h1 h2 h3
  exact Go.tr hst (r v T' _ _ Lc X' rfl rfl hQ)
theorem gldcO (X : Stand p l e R (s.setVm vm0) m args below meth c T locs cells slots) (hx : p.tables.exec = Jvm.exec) (hZ : Z.Warmed39 vm0) {own text : String} {index : Nat} (hown : vm0.findClass own = some m.cls) (w : (Jvm.Cond.stringLink own index text).before a0 Z = true) (wS : ∀ a ∈ Bundle.stringAtoms, a.before a0 Z = true) (eT : T.heap = h) (hS : s.Since vm0 k0) (hk : k0 ≤ h.size) (hEL : EW Z a0 EL) (H : CHv Z EL vm0 h) (n : Nat) (hn : 4 * text.toList.length ≤ n) (hbig : n ≤ 536870912) (cells' slots' : Nat) (hcl : cells + 2 = cells') (hsl : slots + (n + 4) = slots') (hc : cells' ≤ R.cells) (hl : slots' ≤ R.slots) (pc' : Nat) (hd : decode c.code pc = .ok (.ldc index, 2)) (hp : pc + 2 = pc') (r : ∀ a T' h' vm1 k1, Stand p l e R (s.setVm vm1) m args below meth c T' locs cells' slots' → T'.heap = h' → Ext h h' → s.Since vm1 k1 → k1 ≤ h'.size → Z.Warmed39 vm1 → vm1.findClass own = some m.cls → CHr Z EL vm0 h vm1 h' → Lit (s.setVm vm1) own index a → Go p e below P T' (mkF m pc' Ls (.ref a :: st))) : Go p e below P T (mkF m pc Ls st) := by
  subst hp hcl hsl
  obtain ⟨a, T', h', k1, X', e', E', hS', hk', hZ', ho', hC', hL', stp⟩ := ldcOH X hx hZ hown w wS eT hS hk hEL H (g := mkF m pc Ls st) rfl hd hn hbig hc hl
  exact Go.of stp (r a T' h' _ k1 X' e' E' hS' hk' hZ' ho' hC' hL')
theorem gldcV (X : Stand p l e R (s.setVm vm0) m args below meth c T locs cells slots) (hx : p.tables.exec = Jvm.exec) (hZ : Z.Warmed39 vm0) {own text : String} {index : Nat} (hown : vm0.findClass own = some m.cls) (w : (Jvm.Cond.stringLink own index text).before a0 Z = true) (wS : ∀ a ∈ Bundle.stringAtoms, a.before a0 Z = true) (eT : T.heap = h) (hS : s.Since vm0 k0) (hk : k0 ≤ h.size) (hEL : EW Z a0 EL) (hmem : (own, index) ∈ EL) (H : CHv Z EL vm0 h) (vs : List Value) (z : Int32) (ht : (∀ c ∈ text.toList, c.toNat < 256) ∧ text.toList.map (fun c => Value.int (Jvm.Lit.byteI c.toNat.toUInt16)) = vs) (hz : ¬ z < 0) (hzl : z.toNatClampNeg = vs.length) (n : Nat) (hn : 4 * text.toList.length ≤ n) (hbig : n ≤ 536870912) (cells' slots' : Nat) (hcl : cells + 2 = cells') (hsl : slots + (n + 4) = slots') (hc : cells' ≤ R.cells) (hl : slots' ≤ R.slots) (pc' : Nat) (hd : decode c.code pc = .ok (.ldc index, 2)) (hp : pc + 2 = pc') (r : ∀ a T' h' vm1 k1 b kb, Stand p l e R (s.setVm vm1) m args below meth c T' locs cells' slots' → T'.heap = h' → Ext h h' → s.Since vm1 k1 → k1 ≤ h'.size → Z.Warmed39 vm1 → vm1.findClass own = some m.cls → CHr Z EL vm0 h vm1 h' → Lit (s.setVm vm1) own index a → Exa Z h' a "java/lang/String" → Fld Z h' a "java/lang/String" "coder" "B" (.int 0) → Fld Z h' a "java/lang/String" "value" "[B" (.ref b) → Arv Z h' b kb .byte z vs (.int 0) → (∀ x, Safe Z EL vm1 h' x → x ≠ a ∧ x ≠ b) → Go p e below P T' (mkF m pc' Ls (.ref a :: st))) : Go p e below P T (mkF m pc Ls st) := by
  subst hp hcl hsl
  obtain ⟨a, T', h', k1, b, kb, X', e', E', hS', hk', hZ', ho', q1, q2, q3, q4, -, -, hC', hL', hne, stp⟩ := ldcCH X hx hZ hown w wS eT hS hk hEL hmem H ht hz hzl (g := mkF m pc Ls st) rfl hd hn hbig hc hl
  exact Go.of stp (r a T' h' _ k1 b kb X' e' E' hS' hk' hZ' ho' hC' hL' q1 q2 q3 q4 hne)
end Own
end Jvm.Own
namespace Jvm.Pilot.@@N@@
open Jvm Jvm.ClassFile Sem Op Lib Jvm.Free Jvm.Stand Jvm.LawKit Jvm.RoadKit Bundle Jvm.Own Jvm.Pilot.@@N@@.Jvm.D
theorem own_c0 {P : Int32 → Prop} : ∀ c ∈ ([] : List Int32), P c := fun _ z => nomatch z
theorem own_cS {P : Int32 → Prop} {y : Int32} {L : List Int32} (h : P y) (r : ∀ c ∈ L, P c) : ∀ c ∈ y :: L, P c := fun c z => (List.mem_cons.mp z).elim (fun u => u ▸ h) (r c)
theorem own_lo (x : Int32) : ∃ k : Fin 256, x &&& (255 : Int32) = Int32.ofNat k.val := by
  have h : (x &&& 255).toBitVec.toNat < 256 := by
    simp only [Int32.toBitVec_and, BitVec.toNat_and]
    exact Nat.lt_succ_of_le Nat.and_le_right
  refine ⟨⟨_, h⟩, ?_⟩
  apply Int32.toBitVec_inj.mp
  show _ = BitVec.ofNat 32 _
  rw [BitVec.ofNat_toNat]; simp
theorem own_rng (x : Int32) : ¬ (x &&& (255 : Int32)) < 0 ∧ ¬ (255 : Int32) < (x &&& (255 : Int32)) := by
  obtain ⟨k, e⟩ := own_lo x
  rw [e]; clear e; revert k; decide +kernel
theorem own_i2c8 (x : Int32) : (x &&& (255 : Int32)).toUInt32.toUInt16.toUInt32.toInt32 = (x &&& (255 : Int32)) := by
  obtain ⟨k, e⟩ := own_lo x
  rw [e]; clear e; revert k; decide +kernel
theorem own_nar8 (x : Int32) : nar .char (x &&& (255 : Int32)) = (x &&& (255 : Int32)) := own_i2c8 x
theorem own_nar16 (x : Int32) : nar .char (x &&& (255 : Int32)).toUInt32.toUInt16.toUInt32.toInt32 = (x &&& (255 : Int32)) := by rw [own_i2c8]; exact own_i2c8 x
theorem own_narb (x : Int32) : nar .byte x.toInt8.toInt32 = x.toInt8.toInt32 := by show x.toInt8.toInt32.toInt8.toInt32 = _; rw [Int8.toInt8_toInt32]
theorem own_up (cs : List Int32) (h : ∀ c ∈ cs, ¬ c < 0 ∧ ¬ (255 : Int32) < c) : ∀ c ∈ cs, ¬ c < 0 ∧ ¬ (65535 : Int32) < c := fun c hc => ⟨(h c hc).1, fun q => (h c hc).2 (by rw [Int32.lt_iff_toInt_lt] at q ⊢; have e1 : (65535 : Int32).toInt = 65535 := rfl; have e2 : (255 : Int32).toInt = 255 := rfl; omega)⟩
theorem own_wS {a0 : Array Value} {Z : State} (hw : ∀ d ∈ tables_1, d.before a0 Z = true) : ∀ a ∈ Bundle.stringAtoms, a.before a0 Z = true := fun d hd => hw d ((by decide +kernel : ∀ d ∈ Bundle.stringAtoms, d ∈ tables_1) d hd)
theorem own_hws {a0 : Array Value} {Z : State} (hw : ∀ d ∈ tables_1, d.before a0 Z = true) : ∀ d ∈ StrChars.Road.words, d.before a0 Z = true := fun d hd => hw d ((by decide +kernel : ∀ d ∈ StrChars.Road.words, d ∈ tables_1) d hd)
theorem own_heq {a0 : Array Value} {Z : State} (hw : ∀ d ∈ tables_1, d.before a0 Z = true) : ∀ d ∈ StrChars.Road.wordsEq, d.before a0 Z = true := fun d hd => hw d ((by decide +kernel : ∀ d ∈ StrChars.Road.wordsEq, d ∈ tables_1) d hd)
theorem own_w0 {a0 : Array Value} {Z : State} (hw : ∀ d ∈ tables_1, d.before a0 Z = true) : (Jvm.Cond.constant "tabulon/StringIndexNumberOfPinLaw" (16 : Nat) (2147483647 : Int32)).before a0 Z = true := hw _ (List.mem_of_getElem? (i := 0) rfl)
theorem own_w1 {a0 : Array Value} {Z : State} (hw : ∀ d ∈ tables_1, d.before a0 Z = true) : (Jvm.Cond.methodLink "tabulon/StringIndexNumberOfPinLaw" (17 : Nat) ({ cls := "tabulon/StringIndexNumberOfPinLaw", name := "str", desc := "(I)Ljava/lang/String;" } : Jvm.MethodName)).before a0 Z = true := hw _ (List.mem_of_getElem? (i := 1) rfl)
theorem own_w2 {a0 : Array Value} {Z : State} (hw : ∀ d ∈ tables_1, d.before a0 Z = true) : (Jvm.Cond.static ({ cls := "tabulon/StringIndexNumberOfPinLaw", name := "str", desc := "(I)Ljava/lang/String;" } : Jvm.MethodName)).before a0 Z = true := hw _ (List.mem_of_getElem? (i := 2) rfl)
theorem own_w3 {a0 : Array Value} {Z : State} (hw : ∀ d ∈ tables_1, d.before a0 Z = true) : (Jvm.Cond.initialized "tabulon/StringIndexNumberOfPinLaw").before a0 Z = true := hw _ (List.mem_of_getElem? (i := 3) rfl)
theorem own_w4 {a0 : Array Value} {Z : State} (hw : ∀ d ∈ tables_1, d.before a0 Z = true) : (Jvm.Cond.code ({ cls := "tabulon/StringIndexNumberOfPinLaw", name := "str", desc := "(I)Ljava/lang/String;" } : Jvm.MethodName) method_2_code (5 : Nat) (Option.some (Jvm.ClassFile.FieldType.object "java/lang/String"))).before a0 Z = true := hw _ (List.mem_of_getElem? (i := 4) rfl)
theorem own_w5 {a0 : Array Value} {Z : State} (hw : ∀ d ∈ tables_1, d.before a0 Z = true) : (Jvm.Cond.classLink "tabulon/StringIndexNumberOfPinLaw" (7 : Nat) "java/lang/String").before a0 Z = true := hw _ (List.mem_of_getElem? (i := 5) rfl)
theorem own_w6 {a0 : Array Value} {Z : State} (hw : ∀ d ∈ tables_1, d.before a0 Z = true) : (Jvm.Cond.instantiable "java/lang/String" (4 : Nat)).before a0 Z = true := hw _ (List.mem_of_getElem? (i := 6) rfl)
theorem own_w7 {a0 : Array Value} {Z : State} (hw : ∀ d ∈ tables_1, d.before a0 Z = true) : (Jvm.Cond.initialized "java/lang/String").before a0 Z = true := hw _ (List.mem_of_getElem? (i := 7) rfl)
theorem own_w8 {a0 : Array Value} {Z : State} (hw : ∀ d ∈ tables_1, d.before a0 Z = true) : (Jvm.Cond.arrayClass Jvm.ClassFile.FieldType.char).before a0 Z = true := hw _ (List.mem_of_getElem? (i := 8) rfl)
theorem own_w9 {a0 : Array Value} {Z : State} (hw : ∀ d ∈ tables_1, d.before a0 Z = true) : (Jvm.Cond.methodLink "tabulon/StringIndexNumberOfPinLaw" (9 : Nat) ({ cls := "java/lang/String", name := "<init>", desc := "([C)V" } : Jvm.MethodName)).before a0 Z = true := hw _ (List.mem_of_getElem? (i := 9) rfl)
theorem own_w10 {a0 : Array Value} {Z : State} (hw : ∀ d ∈ tables_1, d.before a0 Z = true) : (Jvm.Cond.instanceMethod ({ cls := "java/lang/String", name := "<init>", desc := "([C)V" } : Jvm.MethodName)).before a0 Z = true := hw _ (List.mem_of_getElem? (i := 10) rfl)
theorem own_w11 {a0 : Array Value} {Z : State} (hw : ∀ d ∈ tables_1, d.before a0 Z = true) : (Jvm.Cond.code ({ cls := "java/lang/String", name := "<init>", desc := "([C)V" } : Jvm.MethodName) jdk_42_method_3_code (2 : Nat) (Option.none : Option Jvm.ClassFile.FieldType)).before a0 Z = true := hw _ (List.mem_of_getElem? (i := 11) rfl)
theorem own_w12 {a0 : Array Value} {Z : State} (hw : ∀ d ∈ tables_1, d.before a0 Z = true) : (Jvm.Cond.methodLink "java/lang/String" (27 : Nat) ({ cls := "java/lang/String", name := "<init>", desc := "([CIILjava/lang/Void;)V" } : Jvm.MethodName)).before a0 Z = true := hw _ (List.mem_of_getElem? (i := 12) rfl)
theorem own_w13 {a0 : Array Value} {Z : State} (hw : ∀ d ∈ tables_1, d.before a0 Z = true) : (Jvm.Cond.instanceMethod ({ cls := "java/lang/String", name := "<init>", desc := "([CIILjava/lang/Void;)V" } : Jvm.MethodName)).before a0 Z = true := hw _ (List.mem_of_getElem? (i := 13) rfl)
theorem own_w15 {a0 : Array Value} {Z : State} (hw : ∀ d ∈ tables_1, d.before a0 Z = true) : (Jvm.Cond.code ({ cls := "java/lang/String", name := "<init>", desc := "([CIILjava/lang/Void;)V" } : Jvm.MethodName) jdk_42_method_149_code (6 : Nat) (Option.none : Option Jvm.ClassFile.FieldType)).before a0 Z = true := hw _ (List.mem_of_getElem? (i := 15) rfl)
theorem own_w16 {a0 : Array Value} {Z : State} (hw : ∀ d ∈ tables_1, d.before a0 Z = true) : (Jvm.Cond.methodLink "java/lang/String" (1 : Nat) ({ cls := "java/lang/Object", name := "<init>", desc := "()V" } : Jvm.MethodName)).before a0 Z = true := hw _ (List.mem_of_getElem? (i := 16) rfl)
theorem own_w17 {a0 : Array Value} {Z : State} (hw : ∀ d ∈ tables_1, d.before a0 Z = true) : (Jvm.Cond.instanceMethod ({ cls := "java/lang/Object", name := "<init>", desc := "()V" } : Jvm.MethodName)).before a0 Z = true := hw _ (List.mem_of_getElem? (i := 17) rfl)
theorem own_w18 {a0 : Array Value} {Z : State} (hw : ∀ d ∈ tables_1, d.before a0 Z = true) : (Jvm.Cond.code ({ cls := "java/lang/Object", name := "<init>", desc := "()V" } : Jvm.MethodName) object_method_1_code (1 : Nat) (Option.none : Option Jvm.ClassFile.FieldType)).before a0 Z = true := hw _ (List.mem_of_getElem? (i := 18) rfl)
theorem own_w19 {a0 : Array Value} {Z : State} (hw : ∀ d ∈ tables_1, d.before a0 Z = true) : (Jvm.Cond.stringLink "java/lang/String" (7 : Nat) "").before a0 Z = true := hw _ (List.mem_of_getElem? (i := 19) rfl)
theorem own_w20 {a0 : Array Value} {Z : State} (hw : ∀ d ∈ tables_1, d.before a0 Z = true) : (Jvm.Cond.arrayClass Jvm.ClassFile.FieldType.byte).before a0 Z = true := hw _ (List.mem_of_getElem? (i := 20) rfl)
theorem own_w21 {a0 : Array Value} {Z : State} (hw : ∀ d ∈ tables_1, d.before a0 Z = true) : (Jvm.Cond.laysFinal "java/lang/String" "java/lang/String" "value" "[B").before a0 Z = true := hw _ (List.mem_of_getElem? (i := 21) rfl)
theorem own_w22 {a0 : Array Value} {Z : State} (hw : ∀ d ∈ tables_1, d.before a0 Z = true) : (Jvm.Cond.laysFinal "java/lang/String" "java/lang/String" "coder" "B").before a0 Z = true := hw _ (List.mem_of_getElem? (i := 22) rfl)
theorem own_w25 {a0 : Array Value} {Z : State} (hw : ∀ d ∈ tables_1, d.before a0 Z = true) : (Jvm.Cond.fieldLink "java/lang/String" (9 : Nat) "java/lang/String" "value" "[B").before a0 Z = true := hw _ (List.mem_of_getElem? (i := 25) rfl)
theorem own_w26 {a0 : Array Value} {Z : State} (hw : ∀ d ∈ tables_1, d.before a0 Z = true) : (Jvm.Cond.fieldLink "java/lang/String" (15 : Nat) "java/lang/String" "coder" "B").before a0 Z = true := hw _ (List.mem_of_getElem? (i := 26) rfl)
theorem own_w27 {a0 : Array Value} {Z : State} (hw : ∀ d ∈ tables_1, d.before a0 Z = true) : (Jvm.Cond.classLink "tabulon/StringIndexNumberOfPinLaw" (23 : Nat) "tabulon/StringIndex").before a0 Z = true := hw _ (List.mem_of_getElem? (i := 27) rfl)
theorem own_w28 {a0 : Array Value} {Z : State} (hw : ∀ d ∈ tables_1, d.before a0 Z = true) : (Jvm.Cond.instantiable "tabulon/StringIndex" (4 : Nat)).before a0 Z = true := hw _ (List.mem_of_getElem? (i := 28) rfl)
theorem own_w29 {a0 : Array Value} {Z : State} (hw : ∀ d ∈ tables_1, d.before a0 Z = true) : (Jvm.Cond.initialized "tabulon/StringIndex").before a0 Z = true := hw _ (List.mem_of_getElem? (i := 29) rfl)
theorem own_w30 {a0 : Array Value} {Z : State} (hw : ∀ d ∈ tables_1, d.before a0 Z = true) : (Jvm.Cond.methodLink "tabulon/StringIndexNumberOfPinLaw" (25 : Nat) ({ cls := "tabulon/StringIndex", name := "<init>", desc := "()V" } : Jvm.MethodName)).before a0 Z = true := hw _ (List.mem_of_getElem? (i := 30) rfl)
theorem own_w31 {a0 : Array Value} {Z : State} (hw : ∀ d ∈ tables_1, d.before a0 Z = true) : (Jvm.Cond.instanceMethod ({ cls := "tabulon/StringIndex", name := "<init>", desc := "()V" } : Jvm.MethodName)).before a0 Z = true := hw _ (List.mem_of_getElem? (i := 31) rfl)
theorem own_w32 {a0 : Array Value} {Z : State} (hw : ∀ d ∈ tables_1, d.before a0 Z = true) : (Jvm.Cond.code ({ cls := "tabulon/StringIndex", name := "<init>", desc := "()V" } : Jvm.MethodName) prog_9_method_1_code (1 : Nat) (Option.none : Option Jvm.ClassFile.FieldType)).before a0 Z = true := hw _ (List.mem_of_getElem? (i := 32) rfl)
theorem own_w33 {a0 : Array Value} {Z : State} (hw : ∀ d ∈ tables_1, d.before a0 Z = true) : (Jvm.Cond.methodLink "tabulon/StringIndex" (1 : Nat) ({ cls := "java/lang/Object", name := "<init>", desc := "()V" } : Jvm.MethodName)).before a0 Z = true := hw _ (List.mem_of_getElem? (i := 33) rfl)
theorem own_w34 {a0 : Array Value} {Z : State} (hw : ∀ d ∈ tables_1, d.before a0 Z = true) : (Jvm.Cond.classLink "tabulon/StringIndex" (9 : Nat) "java/lang/String").before a0 Z = true := hw _ (List.mem_of_getElem? (i := 34) rfl)
theorem own_w35 {a0 : Array Value} {Z : State} (hw : ∀ d ∈ tables_1, d.before a0 Z = true) : (Jvm.Cond.arrayOver (Jvm.ClassFile.FieldType.object "java/lang/String")).before a0 Z = true := hw _ (List.mem_of_getElem? (i := 35) rfl)
theorem own_w36 {a0 : Array Value} {Z : State} (hw : ∀ d ∈ tables_1, d.before a0 Z = true) : (Jvm.Cond.fieldLink "tabulon/StringIndex" (11 : Nat) "tabulon/StringIndex" "strings" "[Ljava/lang/String;").before a0 Z = true := hw _ (List.mem_of_getElem? (i := 36) rfl)
theorem own_w37 {a0 : Array Value} {Z : State} (hw : ∀ d ∈ tables_1, d.before a0 Z = true) : (Jvm.Cond.lays "tabulon/StringIndex" "tabulon/StringIndex" "strings" "[Ljava/lang/String;").before a0 Z = true := hw _ (List.mem_of_getElem? (i := 37) rfl)
theorem own_w38 {a0 : Array Value} {Z : State} (hw : ∀ d ∈ tables_1, d.before a0 Z = true) : (Jvm.Cond.arrayClass Jvm.ClassFile.FieldType.int).before a0 Z = true := hw _ (List.mem_of_getElem? (i := 38) rfl)
theorem own_w39 {a0 : Array Value} {Z : State} (hw : ∀ d ∈ tables_1, d.before a0 Z = true) : (Jvm.Cond.fieldLink "tabulon/StringIndex" (15 : Nat) "tabulon/StringIndex" "slots" "[I").before a0 Z = true := hw _ (List.mem_of_getElem? (i := 39) rfl)
theorem own_w40 {a0 : Array Value} {Z : State} (hw : ∀ d ∈ tables_1, d.before a0 Z = true) : (Jvm.Cond.lays "tabulon/StringIndex" "tabulon/StringIndex" "slots" "[I").before a0 Z = true := hw _ (List.mem_of_getElem? (i := 40) rfl)
theorem own_w41 {a0 : Array Value} {Z : State} (hw : ∀ d ∈ tables_1, d.before a0 Z = true) : (Jvm.Cond.methodLink "tabulon/StringIndex" (21 : Nat) ({ cls := "java/lang/Integer", name := "numberOfTrailingZeros", desc := "(I)I" } : Jvm.MethodName)).before a0 Z = true := hw _ (List.mem_of_getElem? (i := 41) rfl)
theorem own_w42 {a0 : Array Value} {Z : State} (hw : ∀ d ∈ tables_1, d.before a0 Z = true) : (Jvm.Cond.static ({ cls := "java/lang/Integer", name := "numberOfTrailingZeros", desc := "(I)I" } : Jvm.MethodName)).before a0 Z = true := hw _ (List.mem_of_getElem? (i := 42) rfl)
theorem own_w43 {a0 : Array Value} {Z : State} (hw : ∀ d ∈ tables_1, d.before a0 Z = true) : (Jvm.Cond.initialized "java/lang/Integer").before a0 Z = true := hw _ (List.mem_of_getElem? (i := 43) rfl)
theorem own_w44 {a0 : Array Value} {Z : State} (hw : ∀ d ∈ tables_1, d.before a0 Z = true) : (Jvm.Cond.code ({ cls := "java/lang/Integer", name := "numberOfTrailingZeros", desc := "(I)I" } : Jvm.MethodName) jdk_33_method_48_code (2 : Nat) (Option.some Jvm.ClassFile.FieldType.int)).before a0 Z = true := hw _ (List.mem_of_getElem? (i := 44) rfl)
theorem own_w45 {a0 : Array Value} {Z : State} (hw : ∀ d ∈ tables_1, d.before a0 Z = true) : (Jvm.Cond.constant "java/lang/Integer" (264 : Nat) (65536 : Int32)).before a0 Z = true := hw _ (List.mem_of_getElem? (i := 45) rfl)
theorem own_w46 {a0 : Array Value} {Z : State} (hw : ∀ d ∈ tables_1, d.before a0 Z = true) : (Jvm.Cond.fieldLink "tabulon/StringIndex" (25 : Nat) "tabulon/StringIndex" "shift" "I").before a0 Z = true := hw _ (List.mem_of_getElem? (i := 46) rfl)
theorem own_w47 {a0 : Array Value} {Z : State} (hw : ∀ d ∈ tables_1, d.before a0 Z = true) : (Jvm.Cond.lays "tabulon/StringIndex" "tabulon/StringIndex" "shift" "I").before a0 Z = true := hw _ (List.mem_of_getElem? (i := 47) rfl)
theorem own_w48 {a0 : Array Value} {Z : State} (hw : ∀ d ∈ tables_1, d.before a0 Z = true) : (Jvm.Cond.methodLink "tabulon/StringIndexNumberOfPinLaw" (26 : Nat) ({ cls := "tabulon/StringIndex", name := "add", desc := "(Ljava/lang/String;)I" } : Jvm.MethodName)).before a0 Z = true := hw _ (List.mem_of_getElem? (i := 48) rfl)
theorem own_w49 {a0 : Array Value} {Z : State} (hw : ∀ d ∈ tables_1, d.before a0 Z = true) : (Jvm.Cond.declares ({ cls := "tabulon/StringIndex", name := "add", desc := "(Ljava/lang/String;)I" } : Jvm.MethodName)).before a0 Z = true := hw _ (List.mem_of_getElem? (i := 49) rfl)
theorem own_w50 {a0 : Array Value} {Z : State} (hw : ∀ d ∈ tables_1, d.before a0 Z = true) : (Jvm.Cond.instanceMethod ({ cls := "tabulon/StringIndex", name := "add", desc := "(Ljava/lang/String;)I" } : Jvm.MethodName)).before a0 Z = true := hw _ (List.mem_of_getElem? (i := 50) rfl)
theorem own_w51 {a0 : Array Value} {Z : State} (hw : ∀ d ∈ tables_1, d.before a0 Z = true) : (Jvm.Cond.selects "tabulon/StringIndex" ({ cls := "tabulon/StringIndex", name := "add", desc := "(Ljava/lang/String;)I" } : Jvm.MethodName) ({ cls := "tabulon/StringIndex", name := "add", desc := "(Ljava/lang/String;)I" } : Jvm.MethodName)).before a0 Z = true := hw _ (List.mem_of_getElem? (i := 51) rfl)
theorem own_w52 {a0 : Array Value} {Z : State} (hw : ∀ d ∈ tables_1, d.before a0 Z = true) : (Jvm.Cond.code ({ cls := "tabulon/StringIndex", name := "add", desc := "(Ljava/lang/String;)I" } : Jvm.MethodName) prog_9_method_2_code (4 : Nat) (Option.some Jvm.ClassFile.FieldType.int)).before a0 Z = true := hw _ (List.mem_of_getElem? (i := 52) rfl)
theorem own_w53 {a0 : Array Value} {Z : State} (hw : ∀ d ∈ tables_1, d.before a0 Z = true) : (Jvm.Cond.methodLink "tabulon/StringIndex" (29 : Nat) ({ cls := "tabulon/StringIndex", name := "slot", desc := "(Ljava/lang/String;)I" } : Jvm.MethodName)).before a0 Z = true := hw _ (List.mem_of_getElem? (i := 53) rfl)
theorem own_w54 {a0 : Array Value} {Z : State} (hw : ∀ d ∈ tables_1, d.before a0 Z = true) : (Jvm.Cond.instanceMethod ({ cls := "tabulon/StringIndex", name := "slot", desc := "(Ljava/lang/String;)I" } : Jvm.MethodName)).before a0 Z = true := hw _ (List.mem_of_getElem? (i := 54) rfl)
theorem own_w55 {a0 : Array Value} {Z : State} (hw : ∀ d ∈ tables_1, d.before a0 Z = true) : (Jvm.Cond.privateMethod ({ cls := "tabulon/StringIndex", name := "slot", desc := "(Ljava/lang/String;)I" } : Jvm.MethodName)).before a0 Z = true := hw _ (List.mem_of_getElem? (i := 55) rfl)
theorem own_w56 {a0 : Array Value} {Z : State} (hw : ∀ d ∈ tables_1, d.before a0 Z = true) : (Jvm.Cond.code ({ cls := "tabulon/StringIndex", name := "slot", desc := "(Ljava/lang/String;)I" } : Jvm.MethodName) prog_9_method_7_code (4 : Nat) (Option.some Jvm.ClassFile.FieldType.int)).before a0 Z = true := hw _ (List.mem_of_getElem? (i := 56) rfl)
theorem own_w57 {a0 : Array Value} {Z : State} (hw : ∀ d ∈ tables_1, d.before a0 Z = true) : (Jvm.Cond.methodLink "tabulon/StringIndex" (53 : Nat) ({ cls := "java/lang/String", name := "hashCode", desc := "()I" } : Jvm.MethodName)).before a0 Z = true := hw _ (List.mem_of_getElem? (i := 57) rfl)
theorem own_w58 {a0 : Array Value} {Z : State} (hw : ∀ d ∈ tables_1, d.before a0 Z = true) : (Jvm.Cond.declares ({ cls := "java/lang/String", name := "hashCode", desc := "()I" } : Jvm.MethodName)).before a0 Z = true := hw _ (List.mem_of_getElem? (i := 58) rfl)
theorem own_w59 {a0 : Array Value} {Z : State} (hw : ∀ d ∈ tables_1, d.before a0 Z = true) : (Jvm.Cond.instanceMethod ({ cls := "java/lang/String", name := "hashCode", desc := "()I" } : Jvm.MethodName)).before a0 Z = true := hw _ (List.mem_of_getElem? (i := 59) rfl)
theorem own_w60 {a0 : Array Value} {Z : State} (hw : ∀ d ∈ tables_1, d.before a0 Z = true) : (Jvm.Cond.selects "java/lang/String" ({ cls := "java/lang/String", name := "hashCode", desc := "()I" } : Jvm.MethodName) ({ cls := "java/lang/String", name := "hashCode", desc := "()I" } : Jvm.MethodName)).before a0 Z = true := hw _ (List.mem_of_getElem? (i := 60) rfl)
theorem own_w61 {a0 : Array Value} {Z : State} (hw : ∀ d ∈ tables_1, d.before a0 Z = true) : (Jvm.Cond.code ({ cls := "java/lang/String", name := "hashCode", desc := "()I" } : Jvm.MethodName) jdk_42_method_78_code (2 : Nat) (Option.some Jvm.ClassFile.FieldType.int)).before a0 Z = true := hw _ (List.mem_of_getElem? (i := 61) rfl)
theorem own_w62 {a0 : Array Value} {Z : State} (hw : ∀ d ∈ tables_1, d.before a0 Z = true) : (Jvm.Cond.fieldLink "java/lang/String" (19 : Nat) "java/lang/String" "hash" "I").before a0 Z = true := hw _ (List.mem_of_getElem? (i := 62) rfl)
theorem own_w63 {a0 : Array Value} {Z : State} (hw : ∀ d ∈ tables_1, d.before a0 Z = true) : (Jvm.Cond.lays "java/lang/String" "java/lang/String" "hash" "I").before a0 Z = true := hw _ (List.mem_of_getElem? (i := 63) rfl)
theorem own_w64 {a0 : Array Value} {Z : State} (hw : ∀ d ∈ tables_1, d.before a0 Z = true) : (Jvm.Cond.fieldLink "java/lang/String" (23 : Nat) "java/lang/String" "hashIsZero" "Z").before a0 Z = true := hw _ (List.mem_of_getElem? (i := 64) rfl)
theorem own_w65 {a0 : Array Value} {Z : State} (hw : ∀ d ∈ tables_1, d.before a0 Z = true) : (Jvm.Cond.lays "java/lang/String" "java/lang/String" "hashIsZero" "Z").before a0 Z = true := hw _ (List.mem_of_getElem? (i := 65) rfl)
theorem own_w66 {a0 : Array Value} {Z : State} (hw : ∀ d ∈ tables_1, d.before a0 Z = true) : (Jvm.Cond.methodLink "java/lang/String" (492 : Nat) ({ cls := "java/lang/String", name := "isLatin1", desc := "()Z" } : Jvm.MethodName)).before a0 Z = true := hw _ (List.mem_of_getElem? (i := 66) rfl)
theorem own_w67 {a0 : Array Value} {Z : State} (hw : ∀ d ∈ tables_1, d.before a0 Z = true) : (Jvm.Cond.declares ({ cls := "java/lang/String", name := "isLatin1", desc := "()Z" } : Jvm.MethodName)).before a0 Z = true := hw _ (List.mem_of_getElem? (i := 67) rfl)
theorem own_w68 {a0 : Array Value} {Z : State} (hw : ∀ d ∈ tables_1, d.before a0 Z = true) : (Jvm.Cond.instanceMethod ({ cls := "java/lang/String", name := "isLatin1", desc := "()Z" } : Jvm.MethodName)).before a0 Z = true := hw _ (List.mem_of_getElem? (i := 68) rfl)
theorem own_w69 {a0 : Array Value} {Z : State} (hw : ∀ d ∈ tables_1, d.before a0 Z = true) : (Jvm.Cond.selects "java/lang/String" ({ cls := "java/lang/String", name := "isLatin1", desc := "()Z" } : Jvm.MethodName) ({ cls := "java/lang/String", name := "isLatin1", desc := "()Z" } : Jvm.MethodName)).before a0 Z = true := hw _ (List.mem_of_getElem? (i := 69) rfl)
theorem own_w70 {a0 : Array Value} {Z : State} (hw : ∀ d ∈ tables_1, d.before a0 Z = true) : (Jvm.Cond.code ({ cls := "java/lang/String", name := "isLatin1", desc := "()Z" } : Jvm.MethodName) jdk_42_method_154_code (1 : Nat) (Option.some Jvm.ClassFile.FieldType.boolean)).before a0 Z = true := hw _ (List.mem_of_getElem? (i := 70) rfl)
theorem own_w71 {a0 : Array Value} {Z : State} (hw : ∀ d ∈ tables_1, d.before a0 Z = true) : (Jvm.Cond.fieldLink "java/lang/String" (38 : Nat) "java/lang/String" "COMPACT_STRINGS" "Z").before a0 Z = true := hw _ (List.mem_of_getElem? (i := 71) rfl)
theorem own_w72 {a0 : Array Value} {Z : State} (hw : ∀ d ∈ tables_1, d.before a0 Z = true) : (Jvm.Cond.methodLink "java/lang/String" (628 : Nat) ({ cls := "java/lang/StringLatin1", name := "hashCode", desc := "([B)I" } : Jvm.MethodName)).before a0 Z = true := hw _ (List.mem_of_getElem? (i := 72) rfl)
theorem own_w73 {a0 : Array Value} {Z : State} (hw : ∀ d ∈ tables_1, d.before a0 Z = true) : (Jvm.Cond.static ({ cls := "java/lang/StringLatin1", name := "hashCode", desc := "([B)I" } : Jvm.MethodName)).before a0 Z = true := hw _ (List.mem_of_getElem? (i := 73) rfl)
theorem own_w74 {a0 : Array Value} {Z : State} (hw : ∀ d ∈ tables_1, d.before a0 Z = true) : (Jvm.Cond.initialized "java/lang/StringLatin1").before a0 Z = true := hw _ (List.mem_of_getElem? (i := 74) rfl)
theorem own_w75 {a0 : Array Value} {Z : State} (hw : ∀ d ∈ tables_1, d.before a0 Z = true) : (Jvm.Cond.code ({ cls := "java/lang/StringLatin1", name := "hashCode", desc := "([B)I" } : Jvm.MethodName) jdk_43_method_21_code (1 : Nat) (Option.some Jvm.ClassFile.FieldType.int)).before a0 Z = true := hw _ (List.mem_of_getElem? (i := 75) rfl)
theorem own_w76 {a0 : Array Value} {Z : State} (hw : ∀ d ∈ tables_1, d.before a0 Z = true) : (Jvm.Cond.constant "tabulon/StringIndex" (57 : Nat) (-1640531527 : Int32)).before a0 Z = true := hw _ (List.mem_of_getElem? (i := 76) rfl)
theorem own_w77 {a0 : Array Value} {Z : State} (hw : ∀ d ∈ tables_1, d.before a0 Z = true) : (Jvm.Cond.fieldLink "tabulon/StringIndex" (33 : Nat) "tabulon/StringIndex" "size" "I").before a0 Z = true := hw _ (List.mem_of_getElem? (i := 77) rfl)
theorem own_w78 {a0 : Array Value} {Z : State} (hw : ∀ d ∈ tables_1, d.before a0 Z = true) : (Jvm.Cond.lays "tabulon/StringIndex" "tabulon/StringIndex" "size" "I").before a0 Z = true := hw _ (List.mem_of_getElem? (i := 78) rfl)
theorem own_w79 {a0 : Array Value} {Z : State} (hw : ∀ d ∈ tables_1, d.before a0 Z = true) : (Jvm.Cond.methodLink "tabulon/StringIndex" (58 : Nat) ({ cls := "java/lang/String", name := "equals", desc := "(Ljava/lang/Object;)Z" } : Jvm.MethodName)).before a0 Z = true := hw _ (List.mem_of_getElem? (i := 79) rfl)
theorem own_w80 {a0 : Array Value} {Z : State} (hw : ∀ d ∈ tables_1, d.before a0 Z = true) : (Jvm.Cond.declares ({ cls := "java/lang/String", name := "equals", desc := "(Ljava/lang/Object;)Z" } : Jvm.MethodName)).before a0 Z = true := hw _ (List.mem_of_getElem? (i := 80) rfl)
theorem own_w81 {a0 : Array Value} {Z : State} (hw : ∀ d ∈ tables_1, d.before a0 Z = true) : (Jvm.Cond.instanceMethod ({ cls := "java/lang/String", name := "equals", desc := "(Ljava/lang/Object;)Z" } : Jvm.MethodName)).before a0 Z = true := hw _ (List.mem_of_getElem? (i := 81) rfl)
theorem own_w82 {a0 : Array Value} {Z : State} (hw : ∀ d ∈ tables_1, d.before a0 Z = true) : (Jvm.Cond.selects "java/lang/String" ({ cls := "java/lang/String", name := "equals", desc := "(Ljava/lang/Object;)Z" } : Jvm.MethodName) ({ cls := "java/lang/String", name := "equals", desc := "(Ljava/lang/Object;)Z" } : Jvm.MethodName)).before a0 Z = true := hw _ (List.mem_of_getElem? (i := 82) rfl)
theorem own_w84 {a0 : Array Value} {Z : State} (hw : ∀ d ∈ tables_1, d.before a0 Z = true) : (Jvm.Cond.classLink "java/lang/String" (10 : Nat) "java/lang/String").before a0 Z = true := hw _ (List.mem_of_getElem? (i := 84) rfl)
theorem own_w88 {a0 : Array Value} {Z : State} (hw : ∀ d ∈ tables_1, d.before a0 Z = true) : (Jvm.Cond.methodLink "tabulon/StringIndexNumberOfPinLaw" (30 : Nat) ({ cls := "java/lang/String", name := "equals", desc := "(Ljava/lang/Object;)Z" } : Jvm.MethodName)).before a0 Z = true := hw _ (List.mem_of_getElem? (i := 88) rfl)
theorem own_w89 {a0 : Array Value} {Z : State} (hw : ∀ d ∈ tables_1, d.before a0 Z = true) : (Jvm.Cond.methodLink "tabulon/StringIndexNumberOfPinLaw" (34 : Nat) ({ cls := "tabulon/StringIndex", name := "numberOf", desc := "(Ljava/lang/String;)I" } : Jvm.MethodName)).before a0 Z = true := hw _ (List.mem_of_getElem? (i := 89) rfl)
theorem own_w90 {a0 : Array Value} {Z : State} (hw : ∀ d ∈ tables_1, d.before a0 Z = true) : (Jvm.Cond.declares ({ cls := "tabulon/StringIndex", name := "numberOf", desc := "(Ljava/lang/String;)I" } : Jvm.MethodName)).before a0 Z = true := hw _ (List.mem_of_getElem? (i := 90) rfl)
theorem own_w91 {a0 : Array Value} {Z : State} (hw : ∀ d ∈ tables_1, d.before a0 Z = true) : (Jvm.Cond.instanceMethod ({ cls := "tabulon/StringIndex", name := "numberOf", desc := "(Ljava/lang/String;)I" } : Jvm.MethodName)).before a0 Z = true := hw _ (List.mem_of_getElem? (i := 91) rfl)
theorem own_w92 {a0 : Array Value} {Z : State} (hw : ∀ d ∈ tables_1, d.before a0 Z = true) : (Jvm.Cond.selects "tabulon/StringIndex" ({ cls := "tabulon/StringIndex", name := "numberOf", desc := "(Ljava/lang/String;)I" } : Jvm.MethodName) ({ cls := "tabulon/StringIndex", name := "numberOf", desc := "(Ljava/lang/String;)I" } : Jvm.MethodName)).before a0 Z = true := hw _ (List.mem_of_getElem? (i := 92) rfl)
theorem own_w93 {a0 : Array Value} {Z : State} (hw : ∀ d ∈ tables_1, d.before a0 Z = true) : (Jvm.Cond.code ({ cls := "tabulon/StringIndex", name := "numberOf", desc := "(Ljava/lang/String;)I" } : Jvm.MethodName) prog_9_method_3_code (2 : Nat) (Option.some Jvm.ClassFile.FieldType.int)).before a0 Z = true := hw _ (List.mem_of_getElem? (i := 93) rfl)
theorem own_w94 {a0 : Array Value} {Z : State} (hw : ∀ d ∈ tables_1, d.before a0 Z = true) : (Jvm.Cond.methodLink "tabulon/StringIndexNumberOfPinLaw" (12 : Nat) ({ cls := "java/lang/String", name := "valueOf", desc := "(C)Ljava/lang/String;" } : Jvm.MethodName)).before a0 Z = true := hw _ (List.mem_of_getElem? (i := 94) rfl)
theorem own_w95 {a0 : Array Value} {Z : State} (hw : ∀ d ∈ tables_1, d.before a0 Z = true) : (Jvm.Cond.static ({ cls := "java/lang/String", name := "valueOf", desc := "(C)Ljava/lang/String;" } : Jvm.MethodName)).before a0 Z = true := hw _ (List.mem_of_getElem? (i := 95) rfl)
theorem own_w96 {a0 : Array Value} {Z : State} (hw : ∀ d ∈ tables_1, d.before a0 Z = true) : (Jvm.Cond.code ({ cls := "java/lang/String", name := "valueOf", desc := "(C)Ljava/lang/String;" } : Jvm.MethodName) jdk_42_method_139_code (1 : Nat) (Option.some (Jvm.ClassFile.FieldType.object "java/lang/String"))).before a0 Z = true := hw _ (List.mem_of_getElem? (i := 96) rfl)
theorem own_w97 {a0 : Array Value} {Z : State} (hw : ∀ d ∈ tables_1, d.before a0 Z = true) : (Jvm.Cond.methodLink "java/lang/String" (1015 : Nat) ({ cls := "java/lang/StringLatin1", name := "canEncode", desc := "(C)Z" } : Jvm.MethodName)).before a0 Z = true := hw _ (List.mem_of_getElem? (i := 97) rfl)
theorem own_w98 {a0 : Array Value} {Z : State} (hw : ∀ d ∈ tables_1, d.before a0 Z = true) : (Jvm.Cond.static ({ cls := "java/lang/StringLatin1", name := "canEncode", desc := "(C)Z" } : Jvm.MethodName)).before a0 Z = true := hw _ (List.mem_of_getElem? (i := 98) rfl)
theorem own_w99 {a0 : Array Value} {Z : State} (hw : ∀ d ∈ tables_1, d.before a0 Z = true) : (Jvm.Cond.code ({ cls := "java/lang/StringLatin1", name := "canEncode", desc := "(C)Z" } : Jvm.MethodName) jdk_43_method_3_code (1 : Nat) (Option.some Jvm.ClassFile.FieldType.boolean)).before a0 Z = true := hw _ (List.mem_of_getElem? (i := 99) rfl)
theorem own_w100 {a0 : Array Value} {Z : State} (hw : ∀ d ∈ tables_1, d.before a0 Z = true) : (Jvm.Cond.methodLink "java/lang/String" (1018 : Nat) ({ cls := "java/lang/StringLatin1", name := "toBytes", desc := "(C)[B" } : Jvm.MethodName)).before a0 Z = true := hw _ (List.mem_of_getElem? (i := 100) rfl)
theorem own_w101 {a0 : Array Value} {Z : State} (hw : ∀ d ∈ tables_1, d.before a0 Z = true) : (Jvm.Cond.static ({ cls := "java/lang/StringLatin1", name := "toBytes", desc := "(C)[B" } : Jvm.MethodName)).before a0 Z = true := hw _ (List.mem_of_getElem? (i := 101) rfl)
theorem own_w102 {a0 : Array Value} {Z : State} (hw : ∀ d ∈ tables_1, d.before a0 Z = true) : (Jvm.Cond.code ({ cls := "java/lang/StringLatin1", name := "toBytes", desc := "(C)[B" } : Jvm.MethodName) jdk_43_method_46_code (1 : Nat) (Option.some (Jvm.ClassFile.FieldType.array Jvm.ClassFile.FieldType.byte))).before a0 Z = true := hw _ (List.mem_of_getElem? (i := 102) rfl)
theorem own_w103 {a0 : Array Value} {Z : State} (hw : ∀ d ∈ tables_1, d.before a0 Z = true) : (Jvm.Cond.methodLink "java/lang/String" (209 : Nat) ({ cls := "java/lang/String", name := "<init>", desc := "([BB)V" } : Jvm.MethodName)).before a0 Z = true := hw _ (List.mem_of_getElem? (i := 103) rfl)
theorem own_w104 {a0 : Array Value} {Z : State} (hw : ∀ d ∈ tables_1, d.before a0 Z = true) : (Jvm.Cond.instanceMethod ({ cls := "java/lang/String", name := "<init>", desc := "([BB)V" } : Jvm.MethodName)).before a0 Z = true := hw _ (List.mem_of_getElem? (i := 104) rfl)
theorem own_w105 {a0 : Array Value} {Z : State} (hw : ∀ d ∈ tables_1, d.before a0 Z = true) : (Jvm.Cond.code ({ cls := "java/lang/String", name := "<init>", desc := "([BB)V" } : Jvm.MethodName) jdk_42_method_151_code (3 : Nat) (Option.none : Option Jvm.ClassFile.FieldType)).before a0 Z = true := hw _ (List.mem_of_getElem? (i := 105) rfl)
theorem own_w116 {a0 : Array Value} {Z : State} (hw : ∀ d ∈ tables_1, d.before a0 Z = true) : (Jvm.Cond.methodLink "java/lang/StringLatin1" (84 : Nat) ({ cls := "jdk/internal/util/ArraysSupport", name := "vectorizedHashCode", desc := "(Ljava/lang/Object;IIII)I" } : Jvm.MethodName)).before a0 Z = true := hw _ (List.mem_of_getElem? (i := 116) rfl)
theorem own_w117 {a0 : Array Value} {Z : State} (hw : ∀ d ∈ tables_1, d.before a0 Z = true) : (Jvm.Cond.static ({ cls := "jdk/internal/util/ArraysSupport", name := "vectorizedHashCode", desc := "(Ljava/lang/Object;IIII)I" } : Jvm.MethodName)).before a0 Z = true := hw _ (List.mem_of_getElem? (i := 117) rfl)
theorem own_w118 {a0 : Array Value} {Z : State} (hw : ∀ d ∈ tables_1, d.before a0 Z = true) : (Jvm.Cond.initialized "jdk/internal/util/ArraysSupport").before a0 Z = true := hw _ (List.mem_of_getElem? (i := 118) rfl)
theorem own_w119 {a0 : Array Value} {Z : State} (hw : ∀ d ∈ tables_1, d.before a0 Z = true) : (Jvm.Cond.code ({ cls := "jdk/internal/util/ArraysSupport", name := "vectorizedHashCode", desc := "(Ljava/lang/Object;IIII)I" } : Jvm.MethodName) jdk_48_method_4_code (5 : Nat) (Option.some Jvm.ClassFile.FieldType.int)).before a0 Z = true := hw _ (List.mem_of_getElem? (i := 119) rfl)
theorem own_w120 {a0 : Array Value} {Z : State} (hw : ∀ d ∈ tables_1, d.before a0 Z = true) : (Jvm.Cond.classLink "jdk/internal/util/ArraysSupport" (60 : Nat) "[B").before a0 Z = true := hw _ (List.mem_of_getElem? (i := 120) rfl)
theorem own_w122 {a0 : Array Value} {Z : State} (hw : ∀ d ∈ tables_1, d.before a0 Z = true) : (Jvm.Cond.methodLink "jdk/internal/util/ArraysSupport" (62 : Nat) ({ cls := "jdk/internal/util/ArraysSupport", name := "signedHashCode", desc := "(I[BII)I" } : Jvm.MethodName)).before a0 Z = true := hw _ (List.mem_of_getElem? (i := 122) rfl)
theorem own_w123 {a0 : Array Value} {Z : State} (hw : ∀ d ∈ tables_1, d.before a0 Z = true) : (Jvm.Cond.static ({ cls := "jdk/internal/util/ArraysSupport", name := "signedHashCode", desc := "(I[BII)I" } : Jvm.MethodName)).before a0 Z = true := hw _ (List.mem_of_getElem? (i := 123) rfl)
theorem own_w124 {a0 : Array Value} {Z : State} (hw : ∀ d ∈ tables_1, d.before a0 Z = true) : (Jvm.Cond.code ({ cls := "jdk/internal/util/ArraysSupport", name := "signedHashCode", desc := "(I[BII)I" } : Jvm.MethodName) jdk_48_method_5_code (6 : Nat) (Option.some Jvm.ClassFile.FieldType.int)).before a0 Z = true := hw _ (List.mem_of_getElem? (i := 124) rfl)
theorem own_pd0 : parseMethodDescriptor "(C)Z" = some ⟨[.char], some .boolean⟩ := by decide +kernel
theorem own_pd1 : parseMethodDescriptor "(C)[B" = some ⟨[.char], some (.array .byte)⟩ := by decide +kernel
theorem own_pd2 : parseMethodDescriptor "([BB)V" = some ⟨[(.array .byte), .byte], none⟩ := by decide +kernel
theorem own_pd3 : parseMethodDescriptor "([CIILjava/lang/Void;)V" = some ⟨[(.array .char), .int, .int, (.object "java/lang/Void")], none⟩ := by decide +kernel
theorem own_pd4 : parseMethodDescriptor "()Z" = some ⟨[], some .boolean⟩ := by decide +kernel
theorem own_pd5 : parseMethodDescriptor "([B)I" = some ⟨[(.array .byte)], some .int⟩ := by decide +kernel
theorem own_pd6 : parseMethodDescriptor "(I[BII)I" = some ⟨[.int, (.array .byte), .int, .int], some .int⟩ := by decide +kernel
theorem own_pd7 : parseMethodDescriptor "(Ljava/lang/Object;IIII)I" = some ⟨[(.object "java/lang/Object"), .int, .int, .int, .int], some .int⟩ := by decide +kernel
theorem own_pd8 : parseMethodDescriptor "([C)V" = some ⟨[(.array .char)], none⟩ := by decide +kernel
theorem own_pd9 : parseMethodDescriptor "(C)Ljava/lang/String;" = some ⟨[.char], some (.object "java/lang/String")⟩ := by decide +kernel
theorem own_pd10 : parseMethodDescriptor "(I)I" = some ⟨[.int], some .int⟩ := by decide +kernel
theorem own_pd11 : parseMethodDescriptor "()I" = some ⟨[], some .int⟩ := by decide +kernel
theorem own_pd12 : parseMethodDescriptor "(Ljava/lang/Object;)Z" = some ⟨[(.object "java/lang/Object")], some .boolean⟩ := by decide +kernel
theorem own_pd13 : parseMethodDescriptor "(Ljava/lang/String;)I" = some ⟨[(.object "java/lang/String")], some .int⟩ := by decide +kernel
theorem own_pd14 : parseMethodDescriptor "()V" = some ⟨[], none⟩ := by decide +kernel
theorem own_pd15 : parseMethodDescriptor "(I)Ljava/lang/String;" = some ⟨[.int], some (.object "java/lang/String")⟩ := by decide +kernel
theorem own_pf0 : parseFieldDescriptor "[B" = some (.array .byte) := by decide +kernel
theorem own_pf1 : parseFieldDescriptor "B" = some .byte := by decide +kernel
theorem own_pf2 : parseFieldDescriptor "I" = some .int := by decide +kernel
theorem own_pf3 : parseFieldDescriptor "Z" = some .boolean := by decide +kernel
theorem own_pf4 : parseFieldDescriptor "[Ljava/lang/String;" = some (.array (.object "java/lang/String")) := by decide +kernel
theorem own_pf5 : parseFieldDescriptor "[I" = some (.array .int) := by decide +kernel
theorem own_pn0 : plainName "java/lang/StringLatin1" = true := by first | (simp [plainName, overriddenIn]; done) | decide +kernel
theorem own_pn1 : plainFor (⟨"java/lang/String", "<init>", "([BB)V"⟩ : MethodName) = true := by decide +kernel
theorem own_pn2 : plainFor (⟨"java/lang/String", "valueOf", "(C)Ljava/lang/String;"⟩ : MethodName) = true := by decide +kernel
theorem own_pn3 : plainFor (⟨"java/lang/String", "<init>", "([CIILjava/lang/Void;)V"⟩ : MethodName) = true := by decide +kernel
theorem own_pn4 : plainFor (⟨"java/lang/String", "<init>", "([C)V"⟩ : MethodName) = true := by decide +kernel
theorem own_pn5 : plainFor (⟨"java/lang/String", "isLatin1", "()Z"⟩ : MethodName) = true := by decide +kernel
theorem own_pn6 : plainFor (⟨"java/lang/String", "hashCode", "()I"⟩ : MethodName) = true := by decide +kernel
theorem own_pn7 : plainName "jdk/internal/util/ArraysSupport" = true := by first | (simp [plainName, overriddenIn]; done) | decide +kernel
theorem own_pn8 : plainName "tabulon/StringIndexNumberOfPinLaw" = true := by first | (simp [plainName, overriddenIn]; done) | decide +kernel
theorem own_pn9 : plainFor (⟨"java/lang/Integer", "numberOfTrailingZeros", "(I)I"⟩ : MethodName) = true := by decide +kernel
theorem own_pn10 : plainName "tabulon/StringIndex" = true := by first | (simp [plainName, overriddenIn]; done) | decide +kernel
theorem own_d1_0 : decode method_2_code 0 = .ok (.iload_n 0, 1) := by decide +kernel
theorem own_d1_1 : decode method_2_code 1 = .ok (.bipush 24, 2) := by decide +kernel
theorem own_d1_3 : decode method_2_code 3 = .ok (.iushr, 1) := by decide +kernel
theorem own_d1_4 : decode method_2_code 4 = .ok (.iconst 3, 1) := by decide +kernel
theorem own_d1_5 : decode method_2_code 5 = .ok (.iand, 1) := by decide +kernel
theorem own_d1_6 : decode method_2_code 6 = .ok (.istore_n 1, 1) := by decide +kernel
theorem own_d1_7 : decode method_2_code 7 = .ok (.iload_n 0, 1) := by decide +kernel
theorem own_d1_8 : decode method_2_code 8 = .ok (.sipush 255, 3) := by decide +kernel
theorem own_d1_11 : decode method_2_code 11 = .ok (.iand, 1) := by decide +kernel
theorem own_d1_12 : decode method_2_code 12 = .ok (.i2c, 1) := by decide +kernel
theorem own_d1_13 : decode method_2_code 13 = .ok (.istore_n 2, 1) := by decide +kernel
theorem own_d1_14 : decode method_2_code 14 = .ok (.iload_n 0, 1) := by decide +kernel
theorem own_d1_15 : decode method_2_code 15 = .ok (.bipush 8, 2) := by decide +kernel
theorem own_d1_17 : decode method_2_code 17 = .ok (.iushr, 1) := by decide +kernel
theorem own_d1_18 : decode method_2_code 18 = .ok (.sipush 255, 3) := by decide +kernel
theorem own_d1_21 : decode method_2_code 21 = .ok (.iand, 1) := by decide +kernel
theorem own_d1_22 : decode method_2_code 22 = .ok (.i2c, 1) := by decide +kernel
theorem own_d1_23 : decode method_2_code 23 = .ok (.istore_n 3, 1) := by decide +kernel
theorem own_d1_24 : decode method_2_code 24 = .ok (.iload_n 0, 1) := by decide +kernel
theorem own_d1_25 : decode method_2_code 25 = .ok (.bipush 16, 2) := by decide +kernel
theorem own_d1_27 : decode method_2_code 27 = .ok (.iushr, 1) := by decide +kernel
theorem own_d1_28 : decode method_2_code 28 = .ok (.sipush 255, 3) := by decide +kernel
theorem own_d1_31 : decode method_2_code 31 = .ok (.iand, 1) := by decide +kernel
theorem own_d1_32 : decode method_2_code 32 = .ok (.i2c, 1) := by decide +kernel
theorem own_d1_33 : decode method_2_code 33 = .ok (.istore 4, 2) := by decide +kernel
theorem own_d1_35 : decode method_2_code 35 = .ok (.iload_n 1, 1) := by decide +kernel
theorem own_d1_36 : decode method_2_code 36 = .ok (.ifCond .ne 14, 3) := by decide +kernel
theorem own_d1_39 : decode method_2_code 39 = .ok (.new 7, 3) := by decide +kernel
theorem own_d1_42 : decode method_2_code 42 = .ok (.dup, 1) := by decide +kernel
theorem own_d1_43 : decode method_2_code 43 = .ok (.iconst 0, 1) := by decide +kernel
theorem own_d1_44 : decode method_2_code 44 = .ok (.newarray .char, 2) := by decide +kernel
theorem own_d1_46 : decode method_2_code 46 = .ok (.invokespecial 9, 3) := by decide +kernel
theorem own_d1_49 : decode method_2_code 49 = .ok (.areturn, 1) := by decide +kernel
theorem own_d1_50 : decode method_2_code 50 = .ok (.iload_n 1, 1) := by decide +kernel
theorem own_d1_51 : decode method_2_code 51 = .ok (.iconst 1, 1) := by decide +kernel
theorem own_d1_52 : decode method_2_code 52 = .ok (.if_icmp .ne 8, 3) := by decide +kernel
theorem own_d1_55 : decode method_2_code 55 = .ok (.iload_n 2, 1) := by decide +kernel
theorem own_d1_56 : decode method_2_code 56 = .ok (.invokestatic 12, 3) := by decide +kernel
theorem own_d1_59 : decode method_2_code 59 = .ok (.areturn, 1) := by decide +kernel
theorem own_d1_60 : decode method_2_code 60 = .ok (.iload_n 1, 1) := by decide +kernel
theorem own_d1_61 : decode method_2_code 61 = .ok (.iconst 2, 1) := by decide +kernel
theorem own_d1_62 : decode method_2_code 62 = .ok (.if_icmp .ne 22, 3) := by decide +kernel
theorem own_d1_65 : decode method_2_code 65 = .ok (.new 7, 3) := by decide +kernel
theorem own_d1_68 : decode method_2_code 68 = .ok (.dup, 1) := by decide +kernel
theorem own_d1_69 : decode method_2_code 69 = .ok (.iconst 2, 1) := by decide +kernel
theorem own_d1_70 : decode method_2_code 70 = .ok (.newarray .char, 2) := by decide +kernel
theorem own_d1_72 : decode method_2_code 72 = .ok (.dup, 1) := by decide +kernel
theorem own_d1_73 : decode method_2_code 73 = .ok (.iconst 0, 1) := by decide +kernel
theorem own_d1_74 : decode method_2_code 74 = .ok (.iload_n 2, 1) := by decide +kernel
theorem own_d1_75 : decode method_2_code 75 = .ok (.castore, 1) := by decide +kernel
theorem own_d1_76 : decode method_2_code 76 = .ok (.dup, 1) := by decide +kernel
theorem own_d1_77 : decode method_2_code 77 = .ok (.iconst 1, 1) := by decide +kernel
theorem own_d1_78 : decode method_2_code 78 = .ok (.iload_n 3, 1) := by decide +kernel
theorem own_d1_79 : decode method_2_code 79 = .ok (.castore, 1) := by decide +kernel
theorem own_d1_80 : decode method_2_code 80 = .ok (.invokespecial 9, 3) := by decide +kernel
theorem own_d1_83 : decode method_2_code 83 = .ok (.areturn, 1) := by decide +kernel
theorem own_d1_84 : decode method_2_code 84 = .ok (.new 7, 3) := by decide +kernel
theorem own_d1_87 : decode method_2_code 87 = .ok (.dup, 1) := by decide +kernel
theorem own_d1_88 : decode method_2_code 88 = .ok (.iconst 3, 1) := by decide +kernel
theorem own_d1_89 : decode method_2_code 89 = .ok (.newarray .char, 2) := by decide +kernel
theorem own_d1_91 : decode method_2_code 91 = .ok (.dup, 1) := by decide +kernel
theorem own_d1_92 : decode method_2_code 92 = .ok (.iconst 0, 1) := by decide +kernel
theorem own_d1_93 : decode method_2_code 93 = .ok (.iload_n 2, 1) := by decide +kernel
theorem own_d1_94 : decode method_2_code 94 = .ok (.castore, 1) := by decide +kernel
theorem own_d1_95 : decode method_2_code 95 = .ok (.dup, 1) := by decide +kernel
theorem own_d1_96 : decode method_2_code 96 = .ok (.iconst 1, 1) := by decide +kernel
theorem own_d1_97 : decode method_2_code 97 = .ok (.iload_n 3, 1) := by decide +kernel
theorem own_d1_98 : decode method_2_code 98 = .ok (.castore, 1) := by decide +kernel
theorem own_d1_99 : decode method_2_code 99 = .ok (.dup, 1) := by decide +kernel
theorem own_d1_100 : decode method_2_code 100 = .ok (.iconst 2, 1) := by decide +kernel
theorem own_d1_101 : decode method_2_code 101 = .ok (.iload 4, 2) := by decide +kernel
theorem own_d1_103 : decode method_2_code 103 = .ok (.castore, 1) := by decide +kernel
theorem own_d1_104 : decode method_2_code 104 = .ok (.invokespecial 9, 3) := by decide +kernel
theorem own_d1_107 : decode method_2_code 107 = .ok (.areturn, 1) := by decide +kernel
theorem own_d2_0 : decode jdk_42_method_3_code 0 = .ok (.aload_n 0, 1) := by decide +kernel
theorem own_d2_1 : decode jdk_42_method_3_code 1 = .ok (.aload_n 1, 1) := by decide +kernel
theorem own_d2_2 : decode jdk_42_method_3_code 2 = .ok (.iconst 0, 1) := by decide +kernel
theorem own_d2_3 : decode jdk_42_method_3_code 3 = .ok (.aload_n 1, 1) := by decide +kernel
theorem own_d2_4 : decode jdk_42_method_3_code 4 = .ok (.arraylength, 1) := by decide +kernel
theorem own_d2_5 : decode jdk_42_method_3_code 5 = .ok (.aconst_null, 1) := by decide +kernel
theorem own_d2_6 : decode jdk_42_method_3_code 6 = .ok (.invokespecial 27, 3) := by decide +kernel
theorem own_d2_9 : decode jdk_42_method_3_code 9 = .ok (.return_, 1) := by decide +kernel
theorem own_d3_0 : decode jdk_42_method_149_code 0 = .ok (.aload_n 0, 1) := by decide +kernel
theorem own_d3_1 : decode jdk_42_method_149_code 1 = .ok (.invokespecial 1, 3) := by decide +kernel
theorem own_d3_4 : decode jdk_42_method_149_code 4 = .ok (.iload_n 3, 1) := by decide +kernel
theorem own_d3_5 : decode jdk_42_method_149_code 5 = .ok (.ifCond .ne 22, 3) := by decide +kernel
theorem own_d3_8 : decode jdk_42_method_149_code 8 = .ok (.aload_n 0, 1) := by decide +kernel
theorem own_d3_9 : decode jdk_42_method_149_code 9 = .ok (.ldc 7, 2) := by decide +kernel
theorem own_d3_11 : decode jdk_42_method_149_code 11 = .ok (.getfield 9, 3) := by decide +kernel
theorem own_d3_14 : decode jdk_42_method_149_code 14 = .ok (.putfield 9, 3) := by decide +kernel
theorem own_d3_17 : decode jdk_42_method_149_code 17 = .ok (.aload_n 0, 1) := by decide +kernel
theorem own_d3_18 : decode jdk_42_method_149_code 18 = .ok (.ldc 7, 2) := by decide +kernel
theorem own_d3_20 : decode jdk_42_method_149_code 20 = .ok (.getfield 15, 3) := by decide +kernel
theorem own_d3_23 : decode jdk_42_method_149_code 23 = .ok (.putfield 15, 3) := by decide +kernel
theorem own_d3_26 : decode jdk_42_method_149_code 26 = .ok (.return_, 1) := by decide +kernel
theorem own_d5_0 : decode prog_9_method_1_code 0 = .ok (.aload_n 0, 1) := by decide +kernel
theorem own_d5_1 : decode prog_9_method_1_code 1 = .ok (.invokespecial 1, 3) := by decide +kernel
theorem own_d5_4 : decode prog_9_method_1_code 4 = .ok (.aload_n 0, 1) := by decide +kernel
theorem own_d5_5 : decode prog_9_method_1_code 5 = .ok (.bipush 16, 2) := by decide +kernel
theorem own_d5_7 : decode prog_9_method_1_code 7 = .ok (.anewarray 9, 3) := by decide +kernel
theorem own_d5_10 : decode prog_9_method_1_code 10 = .ok (.putfield 11, 3) := by decide +kernel
theorem own_d5_13 : decode prog_9_method_1_code 13 = .ok (.aload_n 0, 1) := by decide +kernel
theorem own_d5_14 : decode prog_9_method_1_code 14 = .ok (.bipush 32, 2) := by decide +kernel
theorem own_d5_16 : decode prog_9_method_1_code 16 = .ok (.newarray .int, 2) := by decide +kernel
theorem own_d5_18 : decode prog_9_method_1_code 18 = .ok (.putfield 15, 3) := by decide +kernel
theorem own_d5_21 : decode prog_9_method_1_code 21 = .ok (.aload_n 0, 1) := by decide +kernel
theorem own_d5_22 : decode prog_9_method_1_code 22 = .ok (.bipush 32, 2) := by decide +kernel
theorem own_d5_24 : decode prog_9_method_1_code 24 = .ok (.bipush 32, 2) := by decide +kernel
theorem own_d5_26 : decode prog_9_method_1_code 26 = .ok (.invokestatic 21, 3) := by decide +kernel
theorem own_d5_29 : decode prog_9_method_1_code 29 = .ok (.isub, 1) := by decide +kernel
theorem own_d5_30 : decode prog_9_method_1_code 30 = .ok (.putfield 25, 3) := by decide +kernel
theorem own_d5_33 : decode prog_9_method_1_code 33 = .ok (.return_, 1) := by decide +kernel
theorem own_d6_0 : decode jdk_33_method_48_code 0 = .ok (.iload_n 0, 1) := by decide +kernel
theorem own_d6_1 : decode jdk_33_method_48_code 1 = .ok (.iconst (-1), 1) := by decide +kernel
theorem own_d6_2 : decode jdk_33_method_48_code 2 = .ok (.ixor, 1) := by decide +kernel
theorem own_d6_3 : decode jdk_33_method_48_code 3 = .ok (.iload_n 0, 1) := by decide +kernel
theorem own_d6_4 : decode jdk_33_method_48_code 4 = .ok (.iconst 1, 1) := by decide +kernel
theorem own_d6_5 : decode jdk_33_method_48_code 5 = .ok (.isub, 1) := by decide +kernel
theorem own_d6_6 : decode jdk_33_method_48_code 6 = .ok (.iand, 1) := by decide +kernel
theorem own_d6_7 : decode jdk_33_method_48_code 7 = .ok (.istore_n 0, 1) := by decide +kernel
theorem own_d6_8 : decode jdk_33_method_48_code 8 = .ok (.iload_n 0, 1) := by decide +kernel
theorem own_d6_9 : decode jdk_33_method_48_code 9 = .ok (.ifCond .gt 8, 3) := by decide +kernel
theorem own_d6_17 : decode jdk_33_method_48_code 17 = .ok (.iconst 1, 1) := by decide +kernel
theorem own_d6_18 : decode jdk_33_method_48_code 18 = .ok (.istore_n 1, 1) := by decide +kernel
theorem own_d6_19 : decode jdk_33_method_48_code 19 = .ok (.iload_n 0, 1) := by decide +kernel
theorem own_d6_20 : decode jdk_33_method_48_code 20 = .ok (.ldc_w 264, 3) := by decide +kernel
theorem own_d6_23 : decode jdk_33_method_48_code 23 = .ok (.if_icmp .le 11, 3) := by decide +kernel
theorem own_d6_34 : decode jdk_33_method_48_code 34 = .ok (.iload_n 0, 1) := by decide +kernel
theorem own_d6_35 : decode jdk_33_method_48_code 35 = .ok (.sipush 256, 3) := by decide +kernel
theorem own_d6_38 : decode jdk_33_method_48_code 38 = .ok (.if_icmp .le 11, 3) := by decide +kernel
theorem own_d6_49 : decode jdk_33_method_48_code 49 = .ok (.iload_n 0, 1) := by decide +kernel
theorem own_d6_50 : decode jdk_33_method_48_code 50 = .ok (.bipush 16, 2) := by decide +kernel
theorem own_d6_52 : decode jdk_33_method_48_code 52 = .ok (.if_icmp .le 10, 3) := by decide +kernel
theorem own_d6_55 : decode jdk_33_method_48_code 55 = .ok (.iinc 1 4, 3) := by decide +kernel
theorem own_d6_58 : decode jdk_33_method_48_code 58 = .ok (.iload_n 0, 1) := by decide +kernel
theorem own_d6_59 : decode jdk_33_method_48_code 59 = .ok (.iconst 4, 1) := by decide +kernel
theorem own_d6_60 : decode jdk_33_method_48_code 60 = .ok (.iushr, 1) := by decide +kernel
theorem own_d6_61 : decode jdk_33_method_48_code 61 = .ok (.istore_n 0, 1) := by decide +kernel
theorem own_d6_62 : decode jdk_33_method_48_code 62 = .ok (.iload_n 0, 1) := by decide +kernel
theorem own_d6_63 : decode jdk_33_method_48_code 63 = .ok (.iconst 4, 1) := by decide +kernel
theorem own_d6_64 : decode jdk_33_method_48_code 64 = .ok (.if_icmp .le 10, 3) := by decide +kernel
theorem own_d6_74 : decode jdk_33_method_48_code 74 = .ok (.iload_n 1, 1) := by decide +kernel
theorem own_d6_75 : decode jdk_33_method_48_code 75 = .ok (.iload_n 0, 1) := by decide +kernel
theorem own_d6_76 : decode jdk_33_method_48_code 76 = .ok (.iconst 1, 1) := by decide +kernel
theorem own_d6_77 : decode jdk_33_method_48_code 77 = .ok (.iushr, 1) := by decide +kernel
theorem own_d6_78 : decode jdk_33_method_48_code 78 = .ok (.iadd, 1) := by decide +kernel
theorem own_d6_79 : decode jdk_33_method_48_code 79 = .ok (.ireturn, 1) := by decide +kernel
theorem own_d7_0 : decode prog_9_method_2_code 0 = .ok (.aload_n 0, 1) := by decide +kernel
theorem own_d7_1 : decode prog_9_method_2_code 1 = .ok (.aload_n 1, 1) := by decide +kernel
theorem own_d7_2 : decode prog_9_method_2_code 2 = .ok (.invokevirtual 29, 3) := by decide +kernel
theorem own_d7_5 : decode prog_9_method_2_code 5 = .ok (.istore_n 2, 1) := by decide +kernel
theorem own_d7_6 : decode prog_9_method_2_code 6 = .ok (.aload_n 0, 1) := by decide +kernel
theorem own_d7_7 : decode prog_9_method_2_code 7 = .ok (.getfield 15, 3) := by decide +kernel
theorem own_d7_10 : decode prog_9_method_2_code 10 = .ok (.iload_n 2, 1) := by decide +kernel
theorem own_d7_11 : decode prog_9_method_2_code 11 = .ok (.iaload, 1) := by decide +kernel
theorem own_d7_12 : decode prog_9_method_2_code 12 = .ok (.ifCond .eq 12, 3) := by decide +kernel
theorem own_d7_15 : decode prog_9_method_2_code 15 = .ok (.aload_n 0, 1) := by decide +kernel
theorem own_d7_16 : decode prog_9_method_2_code 16 = .ok (.getfield 15, 3) := by decide +kernel
theorem own_d7_19 : decode prog_9_method_2_code 19 = .ok (.iload_n 2, 1) := by decide +kernel
theorem own_d7_20 : decode prog_9_method_2_code 20 = .ok (.iaload, 1) := by decide +kernel
theorem own_d7_21 : decode prog_9_method_2_code 21 = .ok (.iconst 1, 1) := by decide +kernel
theorem own_d7_22 : decode prog_9_method_2_code 22 = .ok (.isub, 1) := by decide +kernel
theorem own_d7_23 : decode prog_9_method_2_code 23 = .ok (.ireturn, 1) := by decide +kernel
theorem own_d7_24 : decode prog_9_method_2_code 24 = .ok (.aload_n 0, 1) := by decide +kernel
theorem own_d7_25 : decode prog_9_method_2_code 25 = .ok (.getfield 33, 3) := by decide +kernel
theorem own_d7_28 : decode prog_9_method_2_code 28 = .ok (.aload_n 0, 1) := by decide +kernel
theorem own_d7_29 : decode prog_9_method_2_code 29 = .ok (.getfield 11, 3) := by decide +kernel
theorem own_d7_32 : decode prog_9_method_2_code 32 = .ok (.arraylength, 1) := by decide +kernel
theorem own_d7_33 : decode prog_9_method_2_code 33 = .ok (.if_icmp .ne 86, 3) := by decide +kernel
theorem own_d7_119 : decode prog_9_method_2_code 119 = .ok (.aload_n 0, 1) := by decide +kernel
theorem own_d7_120 : decode prog_9_method_2_code 120 = .ok (.getfield 11, 3) := by decide +kernel
theorem own_d7_123 : decode prog_9_method_2_code 123 = .ok (.aload_n 0, 1) := by decide +kernel
theorem own_d7_124 : decode prog_9_method_2_code 124 = .ok (.getfield 33, 3) := by decide +kernel
theorem own_d7_127 : decode prog_9_method_2_code 127 = .ok (.aload_n 1, 1) := by decide +kernel
theorem own_d7_128 : decode prog_9_method_2_code 128 = .ok (.aastore, 1) := by decide +kernel
theorem own_d7_129 : decode prog_9_method_2_code 129 = .ok (.aload_n 0, 1) := by decide +kernel
theorem own_d7_130 : decode prog_9_method_2_code 130 = .ok (.getfield 15, 3) := by decide +kernel
theorem own_d7_133 : decode prog_9_method_2_code 133 = .ok (.iload_n 2, 1) := by decide +kernel
theorem own_d7_134 : decode prog_9_method_2_code 134 = .ok (.aload_n 0, 1) := by decide +kernel
theorem own_d7_135 : decode prog_9_method_2_code 135 = .ok (.dup, 1) := by decide +kernel
theorem own_d7_136 : decode prog_9_method_2_code 136 = .ok (.getfield 33, 3) := by decide +kernel
theorem own_d7_139 : decode prog_9_method_2_code 139 = .ok (.iconst 1, 1) := by decide +kernel
theorem own_d7_140 : decode prog_9_method_2_code 140 = .ok (.iadd, 1) := by decide +kernel
theorem own_d7_141 : decode prog_9_method_2_code 141 = .ok (.dup_x1, 1) := by decide +kernel
theorem own_d7_142 : decode prog_9_method_2_code 142 = .ok (.putfield 33, 3) := by decide +kernel
theorem own_d7_145 : decode prog_9_method_2_code 145 = .ok (.iastore, 1) := by decide +kernel
theorem own_d7_146 : decode prog_9_method_2_code 146 = .ok (.aload_n 0, 1) := by decide +kernel
theorem own_d7_147 : decode prog_9_method_2_code 147 = .ok (.getfield 33, 3) := by decide +kernel
theorem own_d7_150 : decode prog_9_method_2_code 150 = .ok (.iconst 1, 1) := by decide +kernel
theorem own_d7_151 : decode prog_9_method_2_code 151 = .ok (.isub, 1) := by decide +kernel
theorem own_d7_152 : decode prog_9_method_2_code 152 = .ok (.ireturn, 1) := by decide +kernel
theorem own_d8_0 : decode prog_9_method_7_code 0 = .ok (.aload_n 0, 1) := by decide +kernel
theorem own_d8_1 : decode prog_9_method_7_code 1 = .ok (.getfield 15, 3) := by decide +kernel
theorem own_d8_4 : decode prog_9_method_7_code 4 = .ok (.arraylength, 1) := by decide +kernel
theorem own_d8_5 : decode prog_9_method_7_code 5 = .ok (.iconst 1, 1) := by decide +kernel
theorem own_d8_6 : decode prog_9_method_7_code 6 = .ok (.isub, 1) := by decide +kernel
theorem own_d8_7 : decode prog_9_method_7_code 7 = .ok (.istore_n 2, 1) := by decide +kernel
theorem own_d8_8 : decode prog_9_method_7_code 8 = .ok (.aload_n 1, 1) := by decide +kernel
theorem own_d8_9 : decode prog_9_method_7_code 9 = .ok (.invokevirtual 53, 3) := by decide +kernel
theorem own_d8_12 : decode prog_9_method_7_code 12 = .ok (.ldc 57, 2) := by decide +kernel
theorem own_d8_14 : decode prog_9_method_7_code 14 = .ok (.imul, 1) := by decide +kernel
theorem own_d8_15 : decode prog_9_method_7_code 15 = .ok (.aload_n 0, 1) := by decide +kernel
theorem own_d8_16 : decode prog_9_method_7_code 16 = .ok (.getfield 25, 3) := by decide +kernel
theorem own_d8_19 : decode prog_9_method_7_code 19 = .ok (.iushr, 1) := by decide +kernel
theorem own_d8_20 : decode prog_9_method_7_code 20 = .ok (.istore_n 3, 1) := by decide +kernel
theorem own_d8_21 : decode prog_9_method_7_code 21 = .ok (.aload_n 0, 1) := by decide +kernel
theorem own_d8_22 : decode prog_9_method_7_code 22 = .ok (.getfield 15, 3) := by decide +kernel
theorem own_d8_25 : decode prog_9_method_7_code 25 = .ok (.iload_n 3, 1) := by decide +kernel
theorem own_d8_26 : decode prog_9_method_7_code 26 = .ok (.iaload, 1) := by decide +kernel
theorem own_d8_27 : decode prog_9_method_7_code 27 = .ok (.ifCond .eq 32, 3) := by decide +kernel
theorem own_d8_30 : decode prog_9_method_7_code 30 = .ok (.aload_n 0, 1) := by decide +kernel
theorem own_d8_31 : decode prog_9_method_7_code 31 = .ok (.getfield 11, 3) := by decide +kernel
theorem own_d8_34 : decode prog_9_method_7_code 34 = .ok (.aload_n 0, 1) := by decide +kernel
theorem own_d8_35 : decode prog_9_method_7_code 35 = .ok (.getfield 15, 3) := by decide +kernel
theorem own_d8_38 : decode prog_9_method_7_code 38 = .ok (.iload_n 3, 1) := by decide +kernel
theorem own_d8_39 : decode prog_9_method_7_code 39 = .ok (.iaload, 1) := by decide +kernel
theorem own_d8_40 : decode prog_9_method_7_code 40 = .ok (.iconst 1, 1) := by decide +kernel
theorem own_d8_41 : decode prog_9_method_7_code 41 = .ok (.isub, 1) := by decide +kernel
theorem own_d8_42 : decode prog_9_method_7_code 42 = .ok (.aaload, 1) := by decide +kernel
theorem own_d8_43 : decode prog_9_method_7_code 43 = .ok (.aload_n 1, 1) := by decide +kernel
theorem own_d8_44 : decode prog_9_method_7_code 44 = .ok (.invokevirtual 58, 3) := by decide +kernel
theorem own_d8_47 : decode prog_9_method_7_code 47 = .ok (.ifCond .ne 12, 3) := by decide +kernel
theorem own_d8_50 : decode prog_9_method_7_code 50 = .ok (.iload_n 3, 1) := by decide +kernel
theorem own_d8_51 : decode prog_9_method_7_code 51 = .ok (.iconst 1, 1) := by decide +kernel
theorem own_d8_52 : decode prog_9_method_7_code 52 = .ok (.iadd, 1) := by decide +kernel
theorem own_d8_53 : decode prog_9_method_7_code 53 = .ok (.iload_n 2, 1) := by decide +kernel
theorem own_d8_54 : decode prog_9_method_7_code 54 = .ok (.iand, 1) := by decide +kernel
theorem own_d8_55 : decode prog_9_method_7_code 55 = .ok (.istore_n 3, 1) := by decide +kernel
theorem own_d8_56 : decode prog_9_method_7_code 56 = .ok (.goto (-35), 3) := by decide +kernel
theorem own_d8_59 : decode prog_9_method_7_code 59 = .ok (.iload_n 3, 1) := by decide +kernel
theorem own_d8_60 : decode prog_9_method_7_code 60 = .ok (.ireturn, 1) := by decide +kernel
theorem own_d9_0 : decode jdk_42_method_78_code 0 = .ok (.aload_n 0, 1) := by decide +kernel
theorem own_d9_1 : decode jdk_42_method_78_code 1 = .ok (.getfield 19, 3) := by decide +kernel
theorem own_d9_4 : decode jdk_42_method_78_code 4 = .ok (.istore_n 1, 1) := by decide +kernel
theorem own_d9_5 : decode jdk_42_method_78_code 5 = .ok (.iload_n 1, 1) := by decide +kernel
theorem own_d9_6 : decode jdk_42_method_78_code 6 = .ok (.ifCond .ne 52, 3) := by decide +kernel
theorem own_d9_9 : decode jdk_42_method_78_code 9 = .ok (.aload_n 0, 1) := by decide +kernel
theorem own_d9_10 : decode jdk_42_method_78_code 10 = .ok (.getfield 23, 3) := by decide +kernel
theorem own_d9_13 : decode jdk_42_method_78_code 13 = .ok (.ifCond .ne 45, 3) := by decide +kernel
theorem own_d9_16 : decode jdk_42_method_78_code 16 = .ok (.aload_n 0, 1) := by decide +kernel
theorem own_d9_17 : decode jdk_42_method_78_code 17 = .ok (.invokevirtual 492, 3) := by decide +kernel
theorem own_d9_20 : decode jdk_42_method_78_code 20 = .ok (.ifCond .eq 13, 3) := by decide +kernel
theorem own_d9_23 : decode jdk_42_method_78_code 23 = .ok (.aload_n 0, 1) := by decide +kernel
theorem own_d9_24 : decode jdk_42_method_78_code 24 = .ok (.getfield 9, 3) := by decide +kernel
theorem own_d9_27 : decode jdk_42_method_78_code 27 = .ok (.invokestatic 628, 3) := by decide +kernel
theorem own_d9_30 : decode jdk_42_method_78_code 30 = .ok (.goto 10, 3) := by decide +kernel
theorem own_d9_40 : decode jdk_42_method_78_code 40 = .ok (.istore_n 1, 1) := by decide +kernel
theorem own_d9_41 : decode jdk_42_method_78_code 41 = .ok (.iload_n 1, 1) := by decide +kernel
theorem own_d9_42 : decode jdk_42_method_78_code 42 = .ok (.ifCond .ne 11, 3) := by decide +kernel
theorem own_d9_45 : decode jdk_42_method_78_code 45 = .ok (.aload_n 0, 1) := by decide +kernel
theorem own_d9_46 : decode jdk_42_method_78_code 46 = .ok (.iconst 1, 1) := by decide +kernel
theorem own_d9_47 : decode jdk_42_method_78_code 47 = .ok (.putfield 23, 3) := by decide +kernel
theorem own_d9_50 : decode jdk_42_method_78_code 50 = .ok (.goto 8, 3) := by decide +kernel
theorem own_d9_53 : decode jdk_42_method_78_code 53 = .ok (.aload_n 0, 1) := by decide +kernel
theorem own_d9_54 : decode jdk_42_method_78_code 54 = .ok (.iload_n 1, 1) := by decide +kernel
theorem own_d9_55 : decode jdk_42_method_78_code 55 = .ok (.putfield 19, 3) := by decide +kernel
theorem own_d9_58 : decode jdk_42_method_78_code 58 = .ok (.iload_n 1, 1) := by decide +kernel
theorem own_d9_59 : decode jdk_42_method_78_code 59 = .ok (.ireturn, 1) := by decide +kernel
theorem own_d10_0 : decode jdk_42_method_154_code 0 = .ok (.getstatic 38, 3) := by decide +kernel
theorem own_d10_3 : decode jdk_42_method_154_code 3 = .ok (.ifCond .eq 14, 3) := by decide +kernel
theorem own_d10_6 : decode jdk_42_method_154_code 6 = .ok (.aload_n 0, 1) := by decide +kernel
theorem own_d10_7 : decode jdk_42_method_154_code 7 = .ok (.getfield 15, 3) := by decide +kernel
theorem own_d10_10 : decode jdk_42_method_154_code 10 = .ok (.ifCond .ne 7, 3) := by decide +kernel
theorem own_d10_13 : decode jdk_42_method_154_code 13 = .ok (.iconst 1, 1) := by decide +kernel
theorem own_d10_14 : decode jdk_42_method_154_code 14 = .ok (.goto 4, 3) := by decide +kernel
theorem own_d10_18 : decode jdk_42_method_154_code 18 = .ok (.ireturn, 1) := by decide +kernel
theorem own_d11_0 : decode jdk_43_method_21_code 0 = .ok (.aload_n 0, 1) := by decide +kernel
theorem own_d11_1 : decode jdk_43_method_21_code 1 = .ok (.arraylength, 1) := by decide +kernel
theorem own_d11_2 : decode jdk_43_method_21_code 2 = .ok (.lookupswitch 40 #[(0, 26), (1, 30)], 26) := by decide +kernel
theorem own_d11_28 : decode jdk_43_method_21_code 28 = .ok (.iconst 0, 1) := by decide +kernel
theorem own_d11_29 : decode jdk_43_method_21_code 29 = .ok (.goto 22, 3) := by decide +kernel
theorem own_d11_32 : decode jdk_43_method_21_code 32 = .ok (.aload_n 0, 1) := by decide +kernel
theorem own_d11_33 : decode jdk_43_method_21_code 33 = .ok (.iconst 0, 1) := by decide +kernel
theorem own_d11_34 : decode jdk_43_method_21_code 34 = .ok (.baload, 1) := by decide +kernel
theorem own_d11_35 : decode jdk_43_method_21_code 35 = .ok (.sipush 255, 3) := by decide +kernel
theorem own_d11_38 : decode jdk_43_method_21_code 38 = .ok (.iand, 1) := by decide +kernel
theorem own_d11_39 : decode jdk_43_method_21_code 39 = .ok (.goto 12, 3) := by decide +kernel
theorem own_d11_42 : decode jdk_43_method_21_code 42 = .ok (.aload_n 0, 1) := by decide +kernel
theorem own_d11_43 : decode jdk_43_method_21_code 43 = .ok (.iconst 0, 1) := by decide +kernel
theorem own_d11_44 : decode jdk_43_method_21_code 44 = .ok (.aload_n 0, 1) := by decide +kernel
theorem own_d11_45 : decode jdk_43_method_21_code 45 = .ok (.arraylength, 1) := by decide +kernel
theorem own_d11_46 : decode jdk_43_method_21_code 46 = .ok (.iconst 0, 1) := by decide +kernel
theorem own_d11_47 : decode jdk_43_method_21_code 47 = .ok (.iconst 4, 1) := by decide +kernel
theorem own_d11_48 : decode jdk_43_method_21_code 48 = .ok (.invokestatic 84, 3) := by decide +kernel
theorem own_d11_51 : decode jdk_43_method_21_code 51 = .ok (.ireturn, 1) := by decide +kernel
theorem own_d14_0 : decode prog_9_method_3_code 0 = .ok (.aload_n 0, 1) := by decide +kernel
theorem own_d14_1 : decode prog_9_method_3_code 1 = .ok (.getfield 15, 3) := by decide +kernel
theorem own_d14_4 : decode prog_9_method_3_code 4 = .ok (.aload_n 0, 1) := by decide +kernel
theorem own_d14_5 : decode prog_9_method_3_code 5 = .ok (.aload_n 1, 1) := by decide +kernel
theorem own_d14_6 : decode prog_9_method_3_code 6 = .ok (.invokevirtual 29, 3) := by decide +kernel
theorem own_d14_9 : decode prog_9_method_3_code 9 = .ok (.iaload, 1) := by decide +kernel
theorem own_d14_10 : decode prog_9_method_3_code 10 = .ok (.iconst 1, 1) := by decide +kernel
theorem own_d14_11 : decode prog_9_method_3_code 11 = .ok (.isub, 1) := by decide +kernel
theorem own_d14_12 : decode prog_9_method_3_code 12 = .ok (.ireturn, 1) := by decide +kernel
theorem own_d15_0 : decode jdk_42_method_139_code 0 = .ok (.getstatic 38, 3) := by decide +kernel
theorem own_d15_3 : decode jdk_42_method_139_code 3 = .ok (.ifCond .eq 23, 3) := by decide +kernel
theorem own_d15_6 : decode jdk_42_method_139_code 6 = .ok (.iload_n 0, 1) := by decide +kernel
theorem own_d15_7 : decode jdk_42_method_139_code 7 = .ok (.invokestatic 1015, 3) := by decide +kernel
theorem own_d15_10 : decode jdk_42_method_139_code 10 = .ok (.ifCond .eq 16, 3) := by decide +kernel
theorem own_d15_13 : decode jdk_42_method_139_code 13 = .ok (.new 10, 3) := by decide +kernel
theorem own_d15_16 : decode jdk_42_method_139_code 16 = .ok (.dup, 1) := by decide +kernel
theorem own_d15_17 : decode jdk_42_method_139_code 17 = .ok (.iload_n 0, 1) := by decide +kernel
theorem own_d15_18 : decode jdk_42_method_139_code 18 = .ok (.invokestatic 1018, 3) := by decide +kernel
theorem own_d15_21 : decode jdk_42_method_139_code 21 = .ok (.iconst 0, 1) := by decide +kernel
theorem own_d15_22 : decode jdk_42_method_139_code 22 = .ok (.invokespecial 209, 3) := by decide +kernel
theorem own_d15_25 : decode jdk_42_method_139_code 25 = .ok (.areturn, 1) := by decide +kernel
theorem own_d16_0 : decode jdk_43_method_3_code 0 = .ok (.iload_n 0, 1) := by decide +kernel
theorem own_d16_1 : decode jdk_43_method_3_code 1 = .ok (.sipush 255, 3) := by decide +kernel
theorem own_d16_4 : decode jdk_43_method_3_code 4 = .ok (.if_icmp .gt 7, 3) := by decide +kernel
theorem own_d16_7 : decode jdk_43_method_3_code 7 = .ok (.iconst 1, 1) := by decide +kernel
theorem own_d16_8 : decode jdk_43_method_3_code 8 = .ok (.goto 4, 3) := by decide +kernel
theorem own_d16_12 : decode jdk_43_method_3_code 12 = .ok (.ireturn, 1) := by decide +kernel
theorem own_d17_0 : decode jdk_43_method_46_code 0 = .ok (.iconst 1, 1) := by decide +kernel
theorem own_d17_1 : decode jdk_43_method_46_code 1 = .ok (.newarray .byte, 2) := by decide +kernel
theorem own_d17_3 : decode jdk_43_method_46_code 3 = .ok (.dup, 1) := by decide +kernel
theorem own_d17_4 : decode jdk_43_method_46_code 4 = .ok (.iconst 0, 1) := by decide +kernel
theorem own_d17_5 : decode jdk_43_method_46_code 5 = .ok (.iload_n 0, 1) := by decide +kernel
theorem own_d17_6 : decode jdk_43_method_46_code 6 = .ok (.i2b, 1) := by decide +kernel
theorem own_d17_7 : decode jdk_43_method_46_code 7 = .ok (.bastore, 1) := by decide +kernel
theorem own_d17_8 : decode jdk_43_method_46_code 8 = .ok (.areturn, 1) := by decide +kernel
theorem own_d18_0 : decode jdk_42_method_151_code 0 = .ok (.aload_n 0, 1) := by decide +kernel
theorem own_d18_1 : decode jdk_42_method_151_code 1 = .ok (.invokespecial 1, 3) := by decide +kernel
theorem own_d18_4 : decode jdk_42_method_151_code 4 = .ok (.aload_n 0, 1) := by decide +kernel
theorem own_d18_5 : decode jdk_42_method_151_code 5 = .ok (.aload_n 1, 1) := by decide +kernel
theorem own_d18_6 : decode jdk_42_method_151_code 6 = .ok (.putfield 9, 3) := by decide +kernel
theorem own_d18_9 : decode jdk_42_method_151_code 9 = .ok (.aload_n 0, 1) := by decide +kernel
theorem own_d18_10 : decode jdk_42_method_151_code 10 = .ok (.iload_n 2, 1) := by decide +kernel
theorem own_d18_11 : decode jdk_42_method_151_code 11 = .ok (.putfield 15, 3) := by decide +kernel
theorem own_d18_14 : decode jdk_42_method_151_code 14 = .ok (.return_, 1) := by decide +kernel
theorem own_d22_0 : decode jdk_48_method_4_code 0 = .ok (.iload 4, 2) := by decide +kernel
theorem own_d22_2 : decode jdk_48_method_4_code 2 = .ok (.tableswitch 127 4 10 #[42, 55, 127, 127, 88, 101, 114], 42) := by decide +kernel
theorem own_d22_44 : decode jdk_48_method_4_code 44 = .ok (.iload_n 3, 1) := by decide +kernel
theorem own_d22_45 : decode jdk_48_method_4_code 45 = .ok (.aload_n 0, 1) := by decide +kernel
theorem own_d22_46 : decode jdk_48_method_4_code 46 = .ok (.checkcast 60, 3) := by decide +kernel
theorem own_d22_49 : decode jdk_48_method_4_code 49 = .ok (.iload_n 1, 1) := by decide +kernel
theorem own_d22_50 : decode jdk_48_method_4_code 50 = .ok (.iload_n 2, 1) := by decide +kernel
theorem own_d22_51 : decode jdk_48_method_4_code 51 = .ok (.invokestatic 62, 3) := by decide +kernel
theorem own_d22_54 : decode jdk_48_method_4_code 54 = .ok (.goto 103, 3) := by decide +kernel
theorem own_d22_157 : decode jdk_48_method_4_code 157 = .ok (.ireturn, 1) := by decide +kernel
theorem own_d23_0 : decode jdk_48_method_5_code 0 = .ok (.iload_n 2, 1) := by decide +kernel
theorem own_d23_1 : decode jdk_48_method_5_code 1 = .ok (.iload_n 3, 1) := by decide +kernel
theorem own_d23_2 : decode jdk_48_method_5_code 2 = .ok (.iadd, 1) := by decide +kernel
theorem own_d23_3 : decode jdk_48_method_5_code 3 = .ok (.istore 4, 2) := by decide +kernel
theorem own_d23_5 : decode jdk_48_method_5_code 5 = .ok (.iload_n 2, 1) := by decide +kernel
theorem own_d23_6 : decode jdk_48_method_5_code 6 = .ok (.istore 5, 2) := by decide +kernel
theorem own_d23_8 : decode jdk_48_method_5_code 8 = .ok (.iload 5, 2) := by decide +kernel
theorem own_d23_10 : decode jdk_48_method_5_code 10 = .ok (.iload 4, 2) := by decide +kernel
theorem own_d23_12 : decode jdk_48_method_5_code 12 = .ok (.if_icmp .ge 23, 3) := by decide +kernel
theorem own_d23_15 : decode jdk_48_method_5_code 15 = .ok (.bipush 31, 2) := by decide +kernel
theorem own_d23_17 : decode jdk_48_method_5_code 17 = .ok (.iload_n 0, 1) := by decide +kernel
theorem own_d23_18 : decode jdk_48_method_5_code 18 = .ok (.imul, 1) := by decide +kernel
theorem own_d23_19 : decode jdk_48_method_5_code 19 = .ok (.aload_n 1, 1) := by decide +kernel
theorem own_d23_20 : decode jdk_48_method_5_code 20 = .ok (.iload 5, 2) := by decide +kernel
theorem own_d23_22 : decode jdk_48_method_5_code 22 = .ok (.baload, 1) := by decide +kernel
theorem own_d23_23 : decode jdk_48_method_5_code 23 = .ok (.sipush 255, 3) := by decide +kernel
theorem own_d23_26 : decode jdk_48_method_5_code 26 = .ok (.iand, 1) := by decide +kernel
theorem own_d23_27 : decode jdk_48_method_5_code 27 = .ok (.iadd, 1) := by decide +kernel
theorem own_d23_28 : decode jdk_48_method_5_code 28 = .ok (.istore_n 0, 1) := by decide +kernel
theorem own_d23_29 : decode jdk_48_method_5_code 29 = .ok (.iinc 5 1, 3) := by decide +kernel
theorem own_d23_32 : decode jdk_48_method_5_code 32 = .ok (.goto (-24), 3) := by decide +kernel
theorem own_d23_35 : decode jdk_48_method_5_code 35 = .ok (.iload_n 0, 1) := by decide +kernel
theorem own_d23_36 : decode jdk_48_method_5_code 36 = .ok (.ireturn, 1) := by decide +kernel
abbrev own_EL : List (String × Nat) := [("java/lang/String", 7)]
theorem own_EW {a0 : Array Value} {Z : State} (hw : ∀ d ∈ tables_1, d.before a0 Z = true) : EW Z a0 own_EL := (EW.cons (own_w19 hw) (by decide +kernel) EW.nil)
theorem own_mem19 : (("java/lang/String", 7) : String × Nat) ∈ own_EL := List.mem_of_getElem? (i := 0) rfl
section OwnStr
variable {p : Program} {l : Launch} {e : Env} {R : Room} {s : State} {args : Array Value} {below : List Frame} {len W : Nat} {Z : State} {a0 : Array Value} {h h' : Heap} {x t a : Addr} {cs : List Int32} {ws : List Addr} {sl : Nat} {v : Value}
/-- the String at x, of the byte[] at t, spells cs (signs 0 to 255) -/
def Str (Z : State) (h : Heap) (x t : Addr) (cs : List Int32) : Prop := ∃ (kb : ClassId) (n : Int32), Exa Z h x "java/lang/String" ∧ Fld Z h x "java/lang/String" "coder" "B" (.int 0) ∧ Fld Z h x "java/lang/String" "value" "[B" (.ref t) ∧ Arv Z h t kb .byte n ((cs.map fun c => c.toInt8.toInt32).map Value.int) (.int 0) ∧ n = Int32.ofNat cs.length ∧ (∀ c ∈ cs, ¬ c < 0 ∧ ¬ (255 : Int32) < c) ∧ cs.length ≤ 4000 ∧ (2 ≤ cs.length → Z.vm.findClass "[B" = some kb)
theorem Str.ext (F : Str Z h x t cs) (E : Ext h h') : Str Z h' x t cs := by
  obtain ⟨kb, n, q1, q2, q3, q4, r⟩ := F; exact ⟨kb, n, q1.ext E, q2.ext E, q3.ext E, q4.ext E, r⟩
theorem Str.keep (F : Str Z h x t cs) (K : Keep h h' ws) (n1 : x ∉ ws) (n2 : t ∉ ws) : Str Z h' x t cs := by
  obtain ⟨kb, n, q1, q2, q3, q4, r⟩ := F; exact ⟨kb, n, q1.keep K, q2.keep K n1, q3.keep K n1, q4.keep K n2, r⟩
theorem Str.wr (F : Str Z h x t cs) (W : Wr h h' a sl v) (n1 : x ≠ a) (n2 : t ≠ a) : Str Z h' x t cs := by
  obtain ⟨kb, n, q1, q2, q3, q4, r⟩ := F; exact ⟨kb, n, q1.wr W, q2.other W (Or.inl n1), q3.other W (Or.inl n1), q4.other W n2, r⟩
theorem Str.exa (F : Str Z h x t cs) : Exa Z h x "java/lang/String" := by obtain ⟨kb, n, q1, r⟩ := F; exact q1
theorem Str.lt (F : Str Z h x t cs) : x < h.size := F.exa.lt
theorem Str.lt2 (F : Str Z h x t cs) : t < h.size := by obtain ⟨kb, n, q1, q2, q3, q4, r⟩ := F; exact q4.lt
theorem Str.ne2 {C : String} {k : Nat} (F : Str Z h x t cs) (E : Exa Z h a C) (w : (Jvm.Cond.instantiable C k).before a0 Z = true) : t ≠ a := by obtain ⟨kb, n, q1, q2, q3, q4, r⟩ := F; exact Ne.symm (Exa.neArv E q4 w)
theorem Str.of {kb : ClassId} {n : Int32} {vs : List Value} (q1 : Exa Z h x "java/lang/String") (q2 : Fld Z h x "java/lang/String" "coder" "B" (.int 0)) (q3 : Fld Z h x "java/lang/String" "value" "[B" (.ref t)) (q4 : Arv Z h t kb .byte n vs (.int 0)) (hv : vs = (cs.map fun c => c.toInt8.toInt32).map Value.int) (hn : n = Int32.ofNat cs.length) (hp : ∀ c ∈ cs, ¬ c < 0 ∧ ¬ (255 : Int32) < c) (hl : cs.length ≤ 4000) (hB : 2 ≤ cs.length → Z.vm.findClass "[B" = some kb) : Str Z h x t cs := by
  subst hv; exact ⟨kb, n, q1, q2, q3, q4, hn, hp, hl, hB⟩
theorem payNew {b : Addr} {kc : ClassId} {N z : Int32} {d v0 c0 : Value} {n0 n : Nat} {vs : List Value} (hZ : Z.Warmed39 s.vm) (hw : ∀ d ∈ tables_1, d.before a0 Z = true) (hx0 : n0 ≤ x) (hh0 : n0 ≤ h.size) (E : Exa Z h x "java/lang/String") (V : Fld Z h x "java/lang/String" "value" "[B" v0) (C : Fld Z h x "java/lang/String" "coder" "B" c0) (Hh : Fld Z h x "java/lang/String" "hash" "I" (.int 0)) (Hz : Fld Z h x "java/lang/String" "hashIsZero" "Z" (.int 0)) (K : Arv Z h b kc .char N vs d) (hv : vs = cs.map Value.int) (S : Sta Z h "java/lang/String" "COMPACT_STRINGS" "Z" (.int z)) (hz : ¬ z = 0)
    (hn : cs.length = n) (hN : N = Int32.ofNat n) (l0 : 0 < n) (l2 : n ≤ 4000) (hp : ∀ c ∈ cs, ¬ c < 0 ∧ ¬ (255 : Int32) < c) (hfr : 4 ≤ R.frames) (hlo : W + 65 ≤ R.locals) :
    Pays l R p e below s args (⟨"java/lang/String", "<init>", "([C)V"⟩ : MethodName) len W #[.ref x, .ref b] h 1 n (fun v h' L => v = none ∧ Fr n0 L ∧ Keep h h' [x] ∧ Fld Z h' x "java/lang/String" "hash" "I" (.int 0) ∧ Fld Z h' x "java/lang/String" "hashIsZero" "Z" (.int 0) ∧ ∃ t, h.size ≤ t ∧ Str Z h' x t cs) := by
  subst hv hn
  have hlen : N.toNatClampNeg = cs.length := by
    subst hN
    exact Int32.toNatClampNeg_ofNat_of_lt (by omega)
  intro m meth c A g ig mk a q1 q2 q3 q4 q5 q6 q7
  obtain ⟨v, B, X, ⟨L, ⟨g1, g2, g3, g4, g5, g6, g7, ⟨kb, g8, g9⟩, g10⟩, r⟩, st⟩ := StrChars.Road.backArv (W := W) (R := R) (l := l) (p := p) (e := e) (s := s) (len := len) (args := args) (below := below) hZ (own_hws hw) (kI := 4) ((own_w6 hw)) (cs := cs) E V C K S hz hlen l0 (by omega) (fun c hc => (hp c hc).2) hfr hlo m meth c A g ig mk a q1 q2 q3 q4 q5 q6 q7
  refine ⟨v, B, X, ⟨L, ⟨g1, fun y hy => by rw [g2 y hy]; exact hx0, g3, g10 _ _ _ _ Hh (slot_ne (Or.inl (own_w63 hw)) (Or.inr (own_w21 hw)) (by decide) own_pf2 own_pf0) (slot_ne (Or.inl (own_w63 hw)) (Or.inr (own_w22 hw)) (by decide) own_pf2 own_pf1), g10 _ _ _ _ Hz (slot_ne (Or.inl (own_w65 hw)) (Or.inr (own_w21 hw)) (by decide) own_pf3 own_pf0) (slot_ne (Or.inl (own_w65 hw)) (Or.inr (own_w22 hw)) (by decide) own_pf3 own_pf1), h.size, Nat.le_refl _, kb, _, g5, g7, g6, ?_, hN, hp, l2, fun _ => g8⟩, r⟩, st⟩
  rw [List.map_map]; exact g9
theorem payEq {z : Int32} {y t' : Addr} {ds : List Int32} (hZ : Z.Warmed39 s.vm) (hw : ∀ d ∈ tables_1, d.before a0 Z = true) (F : Str Z h x t cs) (F' : Str Z h y t' ds) (S : Sta Z h "java/lang/String" "COMPACT_STRINGS" "Z" (.int z)) (hz : ¬ z = 0) (hfr : 2 ≤ R.frames) (hlo : W + 28 ≤ R.locals) :
    Pays l R p e below s args (⟨"java/lang/String", "equals", "(Ljava/lang/Object;)Z"⟩ : MethodName) len W #[.ref x, .ref y] h 0 0 (fun v h' L => v = some (.int (if cs = ds then 1 else 0)) ∧ L = [] ∧ h' = h) := by
  obtain ⟨kb, n, q1, q2, q3, q4, hn, hp, hl, hB⟩ := F
  obtain ⟨kb', n', q1', q2', q3', q4', hn', hp', hl', hB'⟩ := F'
  subst hn hn'
  intro m meth c A g ig mk a r1 r2 r3 r4 r5 r6 r7
  obtain ⟨v, B, X, ⟨L, ⟨g1, g2, g3⟩, r⟩, st⟩ := StrChars.Road.eqW (W := W) (R := R) (l := l) (p := p) (e := e) (s := s) (len := len) (args := args) (below := below) hZ (own_heq hw) (kI := 4) ((own_w6 hw)) q1 q3 q2 q4 (StrChars.Road.codOf rfl fun c hc => (hp c hc).2) (own_up _ hp) hl q1' q3' q2' q4' (StrChars.Road.codOf rfl fun c hc => (hp' c hc).2) (own_up _ hp') hl' S hz hfr hlo m meth c A g ig mk a r1 r2 r3 r4 r5 r6 r7
  refine ⟨v, B, X, ⟨L, ⟨?_, g2, g3⟩, r⟩, st⟩
  rcases g1 with ⟨rfl, q⟩ | ⟨rfl, q⟩
  · rw [if_pos q]
  · rw [if_neg q]
end OwnStr
def own_hash : List Int32 → Int32
  | [] => 0
  | [a] => (a.toInt8.toInt32 &&& (255 : Int32))
  | [a, b] => (((31 : Int32) * ((0 : Int32) + (a.toInt8.toInt32 &&& (255 : Int32)))) + (b.toInt8.toInt32 &&& (255 : Int32)))
  | a :: b :: c :: _ => (((31 : Int32) * (((31 : Int32) * ((0 : Int32) + (a.toInt8.toInt32 &&& (255 : Int32)))) + (b.toInt8.toInt32 &&& (255 : Int32)))) + (c.toInt8.toInt32 &&& (255 : Int32)))
def own_H (cs : List Int32) : Int32 := (((own_hash cs * (-1640531527 : Int32)).toUInt32 >>> ((27 : Int32) &&& 31).toUInt32).toInt32)
def own_at (f : List Int32) (r : Int32) : Int32 := f.getD r.toNatClampNeg 0
def own_nx (r : Int32) : Int32 := ((r + (1 : Int32)) &&& (31 : Int32))
def own_probe (f : List Int32) (ds : List (List Int32)) (cs : List Int32) : Nat → Int32 → Option Int32
  | 0, _ => none
  | n + 1, r => if own_at f r = 0 then some r else if ds.getD (own_at f r - 1).toNatClampNeg [] = cs then some r else own_probe f ds cs n (own_nx r)
def own_R (r : Int32) : Prop := ¬ r < 0 ∧ r < 32
theorem own_R_iff {r : Int32} : own_R r ↔ 0 ≤ r.toInt ∧ r.toInt < 32 := by
  have e0 : (0 : Int32).toInt = 0 := rfl
  have e1 : (32 : Int32).toInt = 32 := rfl
  unfold own_R; rw [Int32.lt_iff_toInt_lt, Int32.lt_iff_toInt_lt]; omega
theorem own_R_nat {r : Int32} (h : own_R r) : r.toInt = (r.toNatClampNeg : Int) ∧ r.toNatClampNeg < 32 := by
  have e := nat_of h.1
  have := own_R_iff.mp h
  exact ⟨e, by omega⟩
theorem own_HR (cs : List Int32) : own_R (own_H cs) := by
  rw [own_R_iff]
  have := c_iushr (own_hash cs * (-1640531527 : Int32)) 27 27 (by decide) (by decide)
  unfold own_H
  rw [this]; omega
theorem own_nx_nat {r : Int32} (h : own_R r) : own_R (own_nx r) ∧ (own_nx r).toNatClampNeg = (r.toNatClampNeg + 1) % 32 := by
  have h1 := own_R_iff.mp h
  have h2 := c_mask (r + 1) 31 5 (by decide) (by decide)
  have h3 := c_iadd r 1
  have e1 : (1 : Int32).toInt = 1 := rfl
  have hR : own_R (own_nx r) := by rw [own_R_iff]; unfold own_nx; omega
  refine ⟨hR, ?_⟩
  have h4 := (own_R_nat hR).1
  have h5 := (own_R_nat h).1
  unfold own_nx at h4 ⊢; omega
def own_F (f : List Int32) (j : Nat) : Nat := (f.getD j 0).toNatClampNeg
def own_Hn (cs : List Int32) : Nat := (own_H cs).toNatClampNeg
theorem own_Hn_lt (cs : List Int32) : own_Hn cs < 32 := (own_R_nat (own_HR cs)).2
/-- linear probing: what the slots f hold of the strings ds -/
def own_Inv (f : List Int32) (ds : List (List Int32)) : Prop :=
  f.length = 32 ∧ (∀ j, ∃ n, n ≤ ds.length ∧ f.getD j 0 = Int32.ofNat n) ∧ ds.length ≤ 3 ∧ ds.Nodup ∧
  (∀ j j', j < 32 → j' < 32 → own_F f j ≠ 0 → own_F f j = own_F f j' → j = j') ∧
  (∀ i (hi : i < ds.length), ∃ e, e ≤ 2 ∧ own_F f ((own_Hn ds[i] + e) % 32) = i + 1 ∧ ∀ e', e' < e → own_F f ((own_Hn ds[i] + e') % 32) ≠ 0)
theorem own_small {n : Nat} (h : n ≤ 3) : (Int32.ofNat n).toNatClampNeg = n ∧ (Int32.ofNat n = 0 ↔ n = 0) ∧ (1 ≤ n → (Int32.ofNat n - 1).toNatClampNeg = n - 1) := by
  match n, h with
  | 0, _ => decide
  | 1, _ => decide
  | 2, _ => decide
  | 3, _ => decide
theorem own_F_le {f : List Int32} {ds : List (List Int32)} (I : own_Inv f ds) (j : Nat) : own_F f j ≤ ds.length ∧ f.getD j 0 = Int32.ofNat (own_F f j) := by
  obtain ⟨n, h1, h2⟩ := I.2.1 j
  have := (own_small (Nat.le_trans h1 I.2.2.1)).1
  unfold own_F; rw [h2, this]; exact ⟨h1, rfl⟩
/-- the probe's end, counted -/
theorem own_probe_end {f : List Int32} {ds : List (List Int32)} {cs : List Int32} (I : own_Inv f ds) : ∀ (e n : Nat) (r : Int32), own_R r → e < n → (own_F f ((r.toNatClampNeg + e) % 32) = 0 ∨ ds.getD (own_F f ((r.toNatClampNeg + e) % 32) - 1) [] = cs) →
    (∀ e', e' < e → own_F f ((r.toNatClampNeg + e') % 32) ≠ 0 ∧ ds.getD (own_F f ((r.toNatClampNeg + e') % 32) - 1) [] ≠ cs) → ∃ q, own_probe f ds cs n r = some q ∧ own_R q ∧ q.toNatClampNeg = (r.toNatClampNeg + e) % 32
  | e, 0, _, _, h, _, _ => absurd h (Nat.not_lt_zero e)
  | 0, n + 1, r, hr, _, hs, _ => by
    have hn := (own_R_nat hr).2
    have e0 : (r.toNatClampNeg + 0) % 32 = r.toNatClampNeg := by omega
    rw [e0] at hs
    refine ⟨r, ?_, hr, by omega⟩
    have hF := own_F_le I r.toNatClampNeg
    have h3 := own_small (Nat.le_trans hF.1 I.2.2.1)
    unfold own_probe own_at
    rw [hF.2]
    by_cases h0 : own_F f r.toNatClampNeg = 0
    · rw [if_pos (h3.2.1.mpr h0)]
    · rw [if_neg (fun z => h0 (h3.2.1.mp z)), h3.2.2 (by omega)]
      rcases hs with hs | hs
      · exact absurd hs h0
      · rw [if_pos hs]
  | e + 1, n + 1, r, hr, hlt, hs, hb => by
    have hn := (own_R_nat hr).2
    obtain ⟨hr', hn'⟩ := own_nx_nat hr
    have hF := own_F_le I r.toNatClampNeg
    have h3 := own_small (Nat.le_trans hF.1 I.2.2.1)
    have e0 : (r.toNatClampNeg + 0) % 32 = r.toNatClampNeg := by omega
    have hb0 := hb 0 (by omega)
    rw [e0] at hb0
    have key : ∀ z, ((own_nx r).toNatClampNeg + z) % 32 = (r.toNatClampNeg + (z + 1)) % 32 := fun z => by rw [hn']; omega
    obtain ⟨q, h1, h2, h4⟩ := own_probe_end I e n (own_nx r) hr' (by omega) (by rw [key]; exact hs) (fun e' he => by rw [key]; exact hb (e' + 1) (by omega))
    refine ⟨q, ?_, h2, by rw [h4, key]⟩
    unfold own_probe
    rw [show own_at f r = Int32.ofNat (own_F f r.toNatClampNeg) from hF.2, if_neg (fun z => hb0.1 (h3.2.1.mp z)), h3.2.2 (by omega), if_neg hb0.2]
    exact h1
theorem own_getD {α : Type} {l : List α} {i : Nat} {d : α} (h : i < l.length) : l.getD i d = l[i] := by simp [List.getD_eq_getElem?_getD, h]
theorem own_nd {α : Type} {l : List α} (h : l.Nodup) {i j : Nat} (hi : i < l.length) (hj : j < l.length) (e : l[i] = l[j]) : i = j := by
  have q := List.pairwise_iff_getElem.mp h
  rcases Nat.lt_trichotomy i j with z | z | z
  · exact absurd e (q i j hi hj z)
  · exact z
  · exact absurd e.symm (q j i hj hi z)
theorem own_found {f : List Int32} {ds : List (List Int32)} {i : Nat} (I : own_Inv f ds) (hi : i < ds.length) : ∃ q, own_probe f ds ds[i] 4 (own_H ds[i]) = some q ∧ own_R q ∧ own_at f q = Int32.ofNat (i + 1) := by
  obtain ⟨e, he, hF, hb⟩ := I.2.2.2.2.2 i hi
  have hH := own_Hn_lt ds[i]
  obtain ⟨q, h1, h2, h3⟩ := own_probe_end (cs := ds[i]) I e 4 (own_H ds[i]) (own_HR _) (by omega) (Or.inr (by rw [show (own_H ds[i]).toNatClampNeg = own_Hn ds[i] from rfl, hF]; exact own_getD hi)) (fun e' hlt => by
    have hz := hb e' hlt
    refine ⟨hz, fun z => ?_⟩
    have hle := (own_F_le I ((own_Hn ds[i] + e') % 32)).1
    have hlt2 : own_F f ((own_Hn ds[i] + e') % 32) - 1 < ds.length := by omega
    have z' : ds.getD (own_F f ((own_Hn ds[i] + e') % 32) - 1) [] = ds[i] := z
    rw [own_getD hlt2] at z'
    have hij := own_nd I.2.2.2.1 hlt2 hi z'
    have := I.2.2.2.2.1 _ _ (Nat.mod_lt _ (by decide)) (Nat.mod_lt _ (by decide)) hz (show own_F f ((own_Hn ds[i] + e') % 32) = own_F f ((own_Hn ds[i] + e) % 32) by rw [hF]; omega)
    omega)
  refine ⟨q, h1, h2, ?_⟩
  unfold own_at
  rw [h3, (own_F_le I _).2, show (own_H ds[i]).toNatClampNeg = own_Hn ds[i] from rfl, hF]
theorem own_free {f : List Int32} {ds : List (List Int32)} (I : own_Inv f ds) (b : Nat) (hb : b < 32) : ∃ e, e ≤ ds.length ∧ own_F f ((b + e) % 32) = 0 ∧ ∀ e', e' < e → own_F f ((b + e') % 32) ≠ 0 := by
  have L := fun j => (own_F_le I j).1
  have J := fun j j' => I.2.2.2.2.1 j j'
  have L0 := L ((b + 0) % 32)
  have L1 := L ((b + 1) % 32)
  have L2 := L ((b + 2) % 32)
  have L3 := L ((b + 3) % 32)
  have h3 := I.2.2.1
  have J' : ∀ x y, x < 4 → y < 4 → own_F f ((b + x) % 32) ≠ 0 → own_F f ((b + x) % 32) = own_F f ((b + y) % 32) → x = y := fun x y hx hy h1 h2 => by
    have := J _ _ (Nat.mod_lt _ (by decide)) (Nat.mod_lt _ (by decide)) h1 h2
    omega
  have J01 := J' 0 1 (by omega) (by omega)
  have J02 := J' 0 2 (by omega) (by omega)
  have J03 := J' 0 3 (by omega) (by omega)
  have J12 := J' 1 2 (by omega) (by omega)
  have J13 := J' 1 3 (by omega) (by omega)
  have J23 := J' 2 3 (by omega) (by omega)
  by_cases z0 : own_F f ((b + 0) % 32) = 0
  · exact ⟨0, by omega, z0, fun e' h => absurd h (Nat.not_lt_zero e')⟩
  by_cases z1 : own_F f ((b + 1) % 32) = 0
  · exact ⟨1, by omega, z1, fun e' h => by obtain rfl : e' = 0 := by omega
                                           exact z0⟩
  by_cases z2 : own_F f ((b + 2) % 32) = 0
  · exact ⟨2, by omega, z2, fun e' h => by rcases (show e' = 0 ∨ e' = 1 by omega) with rfl | rfl <;> assumption⟩
  by_cases z3 : own_F f ((b + 3) % 32) = 0
  · exact ⟨3, by omega, z3, fun e' h => by rcases (show e' = 0 ∨ e' = 1 ∨ e' = 2 by omega) with rfl | rfl | rfl <;> assumption⟩
  · exfalso; omega
theorem own_miss {f : List Int32} {ds : List (List Int32)} {cs : List Int32} (I : own_Inv f ds) (hc : cs ∉ ds) : ∃ q, own_probe f ds cs 4 (own_H cs) = some q ∧ own_R q ∧ own_at f q = 0 ∧ (ds.length ≤ 2 → own_Inv (f.set q.toNatClampNeg (Int32.ofNat (ds.length + 1))) (ds ++ [cs])) := by
  obtain ⟨e, he, hz, hb⟩ := own_free I (own_Hn cs) (own_Hn_lt cs)
  have h3 := I.2.2.1
  obtain ⟨q, h1, h2, hq⟩ := own_probe_end (cs := cs) I e 4 (own_H cs) (own_HR _) (by omega) (Or.inl hz) (fun e' hlt => by
    refine ⟨hb e' hlt, fun z => hc ?_⟩
    have hle := (own_F_le I ((own_Hn cs + e') % 32)).1
    have h0 := hb e' hlt
    have hlt2 : own_F f ((own_Hn cs + e') % 32) - 1 < ds.length := by omega
    have z' : ds.getD (own_F f ((own_Hn cs + e') % 32) - 1) [] = cs := z
    rw [own_getD hlt2] at z'
    rw [← z']; exact List.getElem_mem hlt2)
  have hqn : q.toNatClampNeg = (own_Hn cs + e) % 32 := hq
  refine ⟨q, h1, h2, ?_, fun hk => ?_⟩
  · unfold own_at; rw [hqn, (own_F_le I _).2, hz]; rfl
  · have hs := (own_small (n := ds.length + 1) (by omega)).1
    have hlen := I.1
    have hlt : (own_Hn cs + e) % 32 < 32 := Nat.mod_lt _ (by decide)
    have hg : ∀ j, (f.set q.toNatClampNeg (Int32.ofNat (ds.length + 1))).getD j 0 = if j = (own_Hn cs + e) % 32 then Int32.ofNat (ds.length + 1) else f.getD j 0 := fun j => by
      rw [hqn]; simp only [List.getD_eq_getElem?_getD, List.getElem?_set]
      by_cases hj : j = (own_Hn cs + e) % 32
      · subst hj; simp [hlen, hlt]
      · simp [hj, Ne.symm hj]
    have hF : ∀ j, own_F (f.set q.toNatClampNeg (Int32.ofNat (ds.length + 1))) j = if j = (own_Hn cs + e) % 32 then ds.length + 1 else own_F f j := fun j => by
      unfold own_F; rw [hg]; split
      · exact hs
      · rfl
    refine ⟨by simp [hlen], fun j => ?_, by simp; omega, ?_, fun j j' hj hj' h0 h4 => ?_, fun i hi => ?_⟩
    · rw [hg]; split
      · exact ⟨ds.length + 1, by simp, rfl⟩
      · obtain ⟨n, q1, q2⟩ := I.2.1 j; exact ⟨n, by simp; omega, q2⟩
    · rw [List.nodup_append]; exact ⟨I.2.2.2.1, by simp, fun a ha b hb => by simp only [List.mem_singleton] at hb; rw [hb]; exact fun z => hc (z ▸ ha)⟩
    · rw [hF] at h0; rw [hF, hF] at h4
      have l1 := (own_F_le I j).1
      have l2 := (own_F_le I j').1
      split at h4
      · split at h4
        · omega
        · omega
      · rename_i hn
        rw [if_neg hn] at h0
        split at h4
        · omega
        · exact I.2.2.2.2.1 j j' hj hj' h0 h4
    · by_cases hi' : i < ds.length
      · obtain ⟨e1, q1, q2, q3⟩ := I.2.2.2.2.2 i hi'
        have ed : (ds ++ [cs])[i] = ds[i] := List.getElem_append_left hi'
        rw [ed]
        refine ⟨e1, q1, ?_, fun e' he' => ?_⟩
        · rw [hF, if_neg, q2]; intro z; rw [z] at q2; rw [hz] at q2; omega
        · rw [hF]; split
          · omega
          · exact q3 e' he'
      · have hl : i = ds.length := by simp at hi; omega
        subst hl
        have ed : (ds ++ [cs])[ds.length] = cs := by simp
        rw [ed]
        refine ⟨e, by omega, by rw [hF, if_pos rfl], fun e' he' => ?_⟩
        rw [hF]; split
        · omega
        · exact hb e' he'
theorem own_inv0 : own_Inv (List.replicate 32 0) [] := by
  have hg : ∀ j, (List.replicate 32 (0 : Int32)).getD j 0 = 0 := fun j => by
    simp only [List.getD_eq_getElem?_getD, List.getElem?_replicate]; split <;> rfl
  exact ⟨rfl, fun j => ⟨0, by simp, hg j⟩, by simp, by simp, fun j j' _ _ h => absurd (by unfold own_F; rw [hg]; rfl) h, fun i hi => absurd hi (by simp)⟩
theorem own_bd {f : List Int32} {ds : List (List Int32)} (I : own_Inv f ds) (r : Int32) : ∃ n, n ≤ ds.length ∧ own_at f r = Int32.ofNat n := I.2.1 _
theorem own_bd0 {f : List Int32} (I : own_Inv f []) (r : Int32) : own_at f r = 0 := by
  obtain ⟨n, h1, h2⟩ := own_bd I r
  obtain rfl : n = 0 := by simpa using h1
  exact h2
theorem own_bd1 {f : List Int32} {a : List Int32} (I : own_Inv f [a]) (r : Int32) : own_at f r = 0 ∨ own_at f r = 1 := by
  obtain ⟨n, h1, h2⟩ := own_bd I r
  have h1' : n ≤ 1 := by simpa using h1
  rcases (show n = 0 ∨ n = 1 by omega) with rfl | rfl
  · exact Or.inl h2
  · exact Or.inr h2
theorem own_bd2 {f : List Int32} {a b : List Int32} (I : own_Inv f [a, b]) (r : Int32) : own_at f r = 0 ∨ own_at f r = 1 ∨ own_at f r = 2 := by
  obtain ⟨n, h1, h2⟩ := own_bd I r
  have h1' : n ≤ 2 := by simpa using h1
  rcases (show n = 0 ∨ n = 1 ∨ n = 2 by omega) with rfl | rfl | rfl
  · exact Or.inl h2
  · exact Or.inr (Or.inl h2)
  · exact Or.inr (Or.inr h2)
theorem own_bd3 {f : List Int32} {a b c : List Int32} (I : own_Inv f [a, b, c]) (r : Int32) : own_at f r = 0 ∨ own_at f r = 1 ∨ own_at f r = 2 ∨ own_at f r = 3 := by
  obtain ⟨n, h1, h2⟩ := own_bd I r
  have h1' : n ≤ 3 := by simpa using h1
  rcases (show n = 0 ∨ n = 1 ∨ n = 2 ∨ n = 3 by omega) with rfl | rfl | rfl | rfl
  · exact Or.inl h2
  · exact Or.inr (Or.inl h2)
  · exact Or.inr (Or.inr (Or.inl h2))
  · exact Or.inr (Or.inr (Or.inr h2))
def own_txt (k : Int32) : List Int32 := if (((k.toUInt32 >>> ((24 : Int32) &&& 31).toUInt32).toInt32) &&& (3 : Int32)) = 0 then [] else if (((k.toUInt32 >>> ((24 : Int32) &&& 31).toUInt32).toInt32) &&& (3 : Int32)) = 1 then [(k &&& (255 : Int32))] else if (((k.toUInt32 >>> ((24 : Int32) &&& 31).toUInt32).toInt32) &&& (3 : Int32)) = 2 then [(k &&& (255 : Int32)), (((k.toUInt32 >>> ((8 : Int32) &&& 31).toUInt32).toInt32) &&& (255 : Int32))] else [(k &&& (255 : Int32)), (((k.toUInt32 >>> ((8 : Int32) &&& 31).toUInt32).toInt32) &&& (255 : Int32)), (((k.toUInt32 >>> ((16 : Int32) &&& 31).toUInt32).toInt32) &&& (255 : Int32))]
theorem own_tx0 {k : Int32} (h0 : (((k.toUInt32 >>> ((24 : Int32) &&& 31).toUInt32).toInt32) &&& (3 : Int32)) = 0) : own_txt k = [] := if_pos h0
theorem own_tx1 {k : Int32} (h0 : ¬ (((k.toUInt32 >>> ((24 : Int32) &&& 31).toUInt32).toInt32) &&& (3 : Int32)) = 0) (h1 : (((k.toUInt32 >>> ((24 : Int32) &&& 31).toUInt32).toInt32) &&& (3 : Int32)) = 1) : own_txt k = [(k &&& (255 : Int32))] := (if_neg h0).trans (if_pos h1)
theorem own_tx2 {k : Int32} (h0 : ¬ (((k.toUInt32 >>> ((24 : Int32) &&& 31).toUInt32).toInt32) &&& (3 : Int32)) = 0) (h1 : ¬ (((k.toUInt32 >>> ((24 : Int32) &&& 31).toUInt32).toInt32) &&& (3 : Int32)) = 1) (h2 : (((k.toUInt32 >>> ((24 : Int32) &&& 31).toUInt32).toInt32) &&& (3 : Int32)) = 2) : own_txt k = [(k &&& (255 : Int32)), (((k.toUInt32 >>> ((8 : Int32) &&& 31).toUInt32).toInt32) &&& (255 : Int32))] := (if_neg h0).trans ((if_neg h1).trans (if_pos h2))
theorem own_tx3 {k : Int32} (h0 : ¬ (((k.toUInt32 >>> ((24 : Int32) &&& 31).toUInt32).toInt32) &&& (3 : Int32)) = 0) (h1 : ¬ (((k.toUInt32 >>> ((24 : Int32) &&& 31).toUInt32).toInt32) &&& (3 : Int32)) = 1) (h2 : ¬ (((k.toUInt32 >>> ((24 : Int32) &&& 31).toUInt32).toInt32) &&& (3 : Int32)) = 2) : own_txt k = [(k &&& (255 : Int32)), (((k.toUInt32 >>> ((8 : Int32) &&& 31).toUInt32).toInt32) &&& (255 : Int32)), (((k.toUInt32 >>> ((16 : Int32) &&& 31).toUInt32).toInt32) &&& (255 : Int32))] := (if_neg h0).trans ((if_neg h1).trans (if_neg h2))
theorem own_txl (k : Int32) : (own_txt k).length ≤ 3 := by
  unfold own_txt; split
  · simp
  · split
    · simp
    · split <;> simp
theorem own_mod4 (x : Int32) : (x &&& (2147483647 : Int32)) % (4 : Int32) = 0 ∨ (x &&& (2147483647 : Int32)) % (4 : Int32) = 1 ∨ (x &&& (2147483647 : Int32)) % (4 : Int32) = 2 ∨ (x &&& (2147483647 : Int32)) % (4 : Int32) = 3 := by
  have h1 := c_and x 2147483647 (by decide)
  have h2 := (c_iremV (x &&& (2147483647 : Int32)) 4).1 h1.1 (by decide)
  have e3 : (4 : Int32).toInt = 4 := rfl
  have k0 : (0 : Int32).toInt = 0 := rfl
  have k1 : (1 : Int32).toInt = 1 := rfl
  have k2 : (2 : Int32).toInt = 2 := rfl
  have k3 : (3 : Int32).toInt = 3 := rfl
  simp only [← Int32.toInt_inj]
  omega
theorem own_Hd {cs : List Int32} : (((own_hash cs * (-1640531527 : Int32)).toUInt32 >>> ((27 : Int32) &&& 31).toUInt32).toInt32) = own_H cs := rfl
theorem own_nxd {r : Int32} : ((r + (1 : Int32)) &&& (31 : Int32)) = own_nx r := rfl
theorem own_gm (f : List Int32) (r : Int32) : (f.map Value.int).getD r.toNatClampNeg (.int 0) = .int (own_at f r) := by
  unfold own_at
  simp only [List.getD_eq_getElem?_getD, List.getElem?_map]
  cases f[r.toNatClampNeg]? <;> rfl
theorem own_ms {f : List Int32} {i : Nat} {c : Int32} : (f.set i c).map Value.int = (f.map Value.int).set i (.int c) := by rw [List.map_set]
theorem own_pz {f : List Int32} {ds : List (List Int32)} {cs : List Int32} {n : Nat} {r : Int32} (h : own_at f r = 0) : own_probe f ds cs (n + 1) r = some r := by rw [own_probe, if_pos h]
theorem own_pe {f : List Int32} {ds : List (List Int32)} {cs : List Int32} {n : Nat} {r a : Int32} (h : own_at f r = a) (ha : ¬ a = 0) (e : ds.getD (a - 1).toNatClampNeg [] = cs) : own_probe f ds cs (n + 1) r = some r := by subst h; rw [own_probe, if_neg ha, if_pos e]
theorem own_pn {f : List Int32} {ds : List (List Int32)} {cs : List Int32} {n : Nat} {r a : Int32} (h : own_at f r = a) (ha : ¬ a = 0) (e : ¬ ds.getD (a - 1).toNatClampNeg [] = cs) : own_probe f ds cs (n + 1) r = own_probe f ds cs n (own_nx r) := by subst h; rw [own_probe, if_neg ha, if_neg e]
theorem own_arne {Z : State} {h : Heap} {a b : Addr} {k1 k2 : ClassId} {t1 t2 : FieldType} {z1 z2 : Int32} {v1 v2 : List Value} {d1 d2 : Value} (A : Arv Z h a k1 t1 z1 v1 d1) (B : Arv Z h b k2 t2 z2 v2 d2) (q : t1 ≠ t2) : a ≠ b := fun e => by
  subst e
  obtain ⟨c1, A1, -⟩ := A
  obtain ⟨c2, B1, -⟩ := B
  cases A1.1.symm.trans B1.1
  obtain ⟨-, kk1, j1, comp1, j2⟩ := A1.2.1
  obtain ⟨-, kk2, l1, comp2, l2⟩ := B1.2.1
  cases j1.symm.trans l1
  rw [j2] at l2
  cases l2; exact q rfl
theorem own_nts {Z : State} {h : Heap} {x t b : Addr} {cs : List Int32} {k2 : ClassId} {C : String} {z2 : Int32} {v2 : List Value} {d2 : Value} (F : Str Z h x t cs) (B : Arv Z h b k2 (.object C) z2 v2 d2) : t ≠ b := by
  obtain ⟨kb, n, q1, q2, q3, q4, r⟩ := F
  exact own_arne q4 B (fun z => by cases z)
theorem own_insB {Z : State} {h : Heap} {t : Addr} {kb : ClassId} {n : Int32} {vs : List Value} {dv : Value} (A : Arv Z h t kb .byte n vs dv) (hk : Z.vm.findClass "[B" = some kb) : Ins Z h t "[B" true := by
  obtain ⟨c, A1, q1, -⟩ := A
  exact ⟨c, kb, A1.1, hk, by rw [A1.plain, q1]; simp [Vm.assignable_self]⟩
set_option maxRecDepth 65536 in
set_option maxHeartbeats 40000000 in
theorem rm16 (l : Launch) (Z : State) (a0 : Array Value) (hw : ∀ d ∈ tables_1, d.before a0 Z = true) (c : Int32) (h0 : Heap) (n0 : Nat) (Z0 : n0 ≤ h0.size) (hc : ¬ (255 : Int32) < c) :
    CtP l (⟨"java/lang/StringLatin1", "canEncode", "(C)Z"⟩ : MethodName) jdk_43_method_3_code 1 (some .boolean) [] ({ frames := 0, cells := 0, slots := 0, locals := 0 } : Room) Z #[(.int c)] h0 (fun v h L => v = some (.int (1 : Int32)) ∧ Fr n0 L ∧ h = h0) := by
  refine CtP.walk (Ls := #[.val (.int c)]) (plainFor_of_name own_pn0) (fun m => by first | (simp [entryFrame, mkF, argsToLocals, Value.category]; done) | rfl) ?_
  intro p e s m below meth cc_ T hx hby hml hown hnm hret hlk hZ X eT
  have N := Fr.nil n0
  have sz_h : h0.size ≤ h0.size := Nat.le_refl _
  refine giloadN (v := c) X hx 1 (hb hby own_d16_0) rfl rfl ?_
  refine gsipush X hx (255 : Int32) 4 (hb hby own_d16_1) rfl rfl ?_
  refine gicmpNo X hx 7 (hb hby own_d16_4) rfl (flt hc).2.2.1 ?_
  refine giconst X hx (1 : Int32) 8 (hb hby own_d16_7) rfl rfl ?_
  refine ggoto X hx 12 (hb hby own_d16_8) (by decide) (by decide) ?_
  exact gRetP X hx hlk hret rfl (Or.inl ⟨rfl, by simp, _, rfl⟩) (hb hby own_d16_12) eT (by decide) (by decide) ⟨rfl, N, rfl⟩
set_option maxRecDepth 65536 in
set_option maxHeartbeats 40000000 in
theorem rm17 (l : Launch) (Z : State) (a0 : Array Value) (hw : ∀ d ∈ tables_1, d.before a0 Z = true) (c : Int32) (h0 : Heap) (n0 : Nat) (Z0 : n0 ≤ h0.size) :
    CtP l (⟨"java/lang/StringLatin1", "toBytes", "(C)[B"⟩ : MethodName) jdk_43_method_46_code 1 (some (.array .byte)) [] ({ frames := 0, cells := 1, slots := 1, locals := 0 } : Room) Z #[(.int c)] h0 (fun v h L => ∃ (t : Addr), ∃ (kb : ClassId), v = some (.ref t) ∧ Fr n0 L ∧ Keep h0 h [] ∧ h0.size ≤ t ∧ Arv Z h t kb .byte (1 : Int32) [(.int (c.toInt8.toInt32))] (.int 0)) := by
  refine CtP.walk (Ls := #[.val (.int c)]) (plainFor_of_name own_pn0) (fun m => by first | (simp [entryFrame, mkF, argsToLocals, Value.category]; done) | rfl) ?_
  intro p e s m below meth cc_ T hx hby hml hown hnm hret hlk hZ X eT
  have N := Fr.nil n0
  have K0 := Keep.refl h0 []
  have sz_h : h0.size ≤ h0.size := Nat.le_refl _
  refine giconst X hx (1 : Int32) 1 (hb hby own_d17_0) rfl rfl ?_
  refine gnewP (aty := .byte) X hx hZ (own_w20 hw) eT (n := (1 : Int32)) (by decide) 1 (by decide) (by decide) 1 1 rfl rfl (by decide) (by decide) 3 (hb hby own_d17_1) rfl ?_
  clear X eT; clear T; intro T h1 b2 kc5 X eT ga E3 V4
  have le_a := Nat.le_of_eq ga.symm
  have sz_b2 : h0.size ≤ b2 := Nat.le_trans sz_h le_a
  have ge_b2 : n0 ≤ b2 := Nat.le_trans Z0 sz_b2
  clear le_a ga
  replace K0 := K0.ext E3
  replace sz_h : h0.size ≤ h1.size := Nat.le_trans sz_h E3.1
  replace V4 : Arv Z h1 b2 kc5 .byte (1 : Int32) [(.int (0 : Int32))] (.int 0) := V4.pad (pad_rep [] _ 1)
  refine gdup X hx 4 (hb hby own_d17_3) rfl rfl ?_
  refine giconst X hx (0 : Int32) 5 (hb hby own_d17_4) rfl rfl ?_
  refine giloadN (v := c) X hx 6 (hb hby own_d17_5) rfl rfl ?_
  refine gi2b X hx 7 (hb hby own_d17_6) rfl ?_
  refine gbastore X hx hZ eT V4 (by decide) (by decide) 0 rfl (Nat.le_of_ble_eq_true rfl) N ge_b2 8 (hb hby own_d17_7) rfl ?_
  clear X eT N; clear T; intro T h7 L X eT N W6 V8
  replace K0 := K0.wr W6 (Or.inr sz_b2)
  replace sz_h : h0.size ≤ h7.size := by rw [Wr.size W6]; exact sz_h
  replace V8 : Arv Z h7 b2 kc5 .byte (1 : Int32) [(.int (c.toInt8.toInt32))] (.int 0) := by have z := V8; rw [own_narb] at z; exact z
  exact gRetP X hx hlk hret rfl (Or.inr (Or.inr (Or.inr (Or.inr ⟨rfl, rfl, rfl⟩)))) (hb hby own_d17_8) eT (by decide) (by decide) ⟨b2, kc5, rfl, N, K0, sz_b2, V8⟩
set_option maxRecDepth 65536 in
set_option maxHeartbeats 40000000 in
theorem rm18 (l : Launch) (Z : State) (a0 : Array Value) (hw : ∀ d ∈ tables_1, d.before a0 Z = true) (x : Addr) (t : Addr) (v0 : Value) (c0 : Value) (h0 : Heap) (n0 : Nat) (Z0 : n0 ≤ h0.size) (ge_x : n0 ≤ x) (P0_Exa : Exa Z h0 x "java/lang/String") (P1_Fld : Fld Z h0 x "java/lang/String" "value" "[B" v0) (P2_Fld : Fld Z h0 x "java/lang/String" "coder" "B" c0) (P3_Fld : Fld Z h0 x "java/lang/String" "hash" "I" (.int (0 : Int32))) (P4_Fld : Fld Z h0 x "java/lang/String" "hashIsZero" "Z" (.int (0 : Int32))) :
    CtP l (⟨"java/lang/String", "<init>", "([BB)V"⟩ : MethodName) jdk_42_method_151_code 3 none [] ({ frames := 1, cells := 0, slots := 0, locals := 12 } : Room) Z #[(.ref x), (.ref t), (.int (0 : Int32))] h0 (fun v h L => v = none ∧ Fr n0 L ∧ Keep h0 h [x] ∧ Fld Z h x "java/lang/String" "value" "[B" (.ref t) ∧ Fld Z h x "java/lang/String" "coder" "B" (.int 0) ∧ Fld Z h x "java/lang/String" "hash" "I" (.int (0 : Int32)) ∧ Fld Z h x "java/lang/String" "hashIsZero" "Z" (.int (0 : Int32))) := by
  refine CtP.walk (Ls := #[.val (.ref x), .val (.ref t), .val (.int (0 : Int32))]) own_pn1 (fun m => by first | (simp [entryFrame, mkF, argsToLocals, Value.category]; done) | rfl) ?_
  intro p e s m below meth cc_ T hx hby hml hown hnm hret hlk hZ X eT
  have N := Fr.nil n0
  have K0 := Keep.refl h0 [x]
  have sz_h : h0.size ≤ h0.size := Nat.le_refl _
  refine galoadN (v := (.ref x)) X hx 1 (hb hby own_d18_0) rfl rfl rfl ?_
  refine ginitO X hx hZ hown (own_w16 hw) (own_w17 hw) (own_w18 hw) eT (by rw [hml]; rfl) (by decide) 0 (Nat.le_of_eq rfl) (by decide) 4 (hb hby own_d18_1) rfl ?_
  clear X eT; clear T; intro T X eT
  refine galoadN (v := (.ref x)) X hx 5 (hb hby own_d18_4) rfl rfl rfl ?_
  refine galoadN (v := (.ref t)) X hx 6 (hb hby own_d18_5) rfl rfl rfl ?_
  refine gputF X hx hZ (host := "") hown (Or.inl (own_w25 hw)) Via.refl eT P1_Fld P0_Exa (Or.inr ⟨(own_w21 hw), rfl, hnm⟩) (own_w6 hw) (ty := (.array .byte)) own_pf0 rfl rfl N ge_x 9 (hb hby own_d18_6) rfl ?_
  clear X eT N; clear T; intro T h1 L X eT N W2
  replace P0_Exa := P0_Exa.wr W2
  replace P1_Fld := P1_Fld.same W2
  replace P2_Fld := P2_Fld.other W2 (Or.inr (slot_ne (Or.inr (own_w22 hw)) (Or.inr (own_w21 hw)) (by decide) own_pf1 own_pf0))
  replace P3_Fld := P3_Fld.other W2 (Or.inr (slot_ne (Or.inl (own_w63 hw)) (Or.inr (own_w21 hw)) (by decide) own_pf2 own_pf0))
  replace P4_Fld := P4_Fld.other W2 (Or.inr (slot_ne (Or.inl (own_w65 hw)) (Or.inr (own_w21 hw)) (by decide) own_pf3 own_pf0))
  replace K0 := K0.wr W2 (Or.inl (List.mem_of_getElem? (i := 0) rfl))
  replace sz_h : h0.size ≤ h1.size := by rw [Wr.size W2]; exact sz_h
  refine galoadN (v := (.ref x)) X hx 10 (hb hby own_d18_9) rfl rfl rfl ?_
  refine giloadN (v := (0 : Int32)) X hx 11 (hb hby own_d18_10) rfl rfl ?_
  refine gputF X hx hZ (host := "") hown (Or.inl (own_w26 hw)) Via.refl eT P2_Fld P0_Exa (Or.inr ⟨(own_w22 hw), rfl, hnm⟩) (own_w6 hw) (ty := .byte) own_pf1 rfl rfl N ge_x 14 (hb hby own_d18_11) rfl ?_
  clear X eT N; clear T; intro T h3 L X eT N W4
  replace P0_Exa := P0_Exa.wr W4
  replace P1_Fld := P1_Fld.other W4 (Or.inr (slot_ne (Or.inr (own_w21 hw)) (Or.inr (own_w22 hw)) (by decide) own_pf0 own_pf1))
  replace P2_Fld := P2_Fld.same W4
  replace P3_Fld := P3_Fld.other W4 (Or.inr (slot_ne (Or.inl (own_w63 hw)) (Or.inr (own_w22 hw)) (by decide) own_pf2 own_pf1))
  replace P4_Fld := P4_Fld.other W4 (Or.inr (slot_ne (Or.inl (own_w65 hw)) (Or.inr (own_w22 hw)) (by decide) own_pf3 own_pf1))
  replace K0 := K0.wr W4 (Or.inl (List.mem_of_getElem? (i := 0) rfl))
  replace sz_h : h0.size ≤ h3.size := by rw [Wr.size W4]; exact sz_h
  exact gRetP0 X hx hlk hret (hb hby own_d18_14) eT (by decide) (by decide) ⟨rfl, N, K0, P1_Fld, P2_Fld, P3_Fld, P4_Fld⟩
set_option maxRecDepth 65536 in
set_option maxHeartbeats 40000000 in
theorem rm15 (l : Launch) (Z : State) (a0 : Array Value) (hw : ∀ d ∈ tables_1, d.before a0 Z = true) (c : Int32) (G1 : Int32) (h0 : Heap) (n0 : Nat) (Z0 : n0 ≤ h0.size) (P0_Old : Old Z n0 h0) (hc : ¬ (255 : Int32) < c) (O2 : Sta Z Z.heap "java/lang/String" "COMPACT_STRINGS" "Z" (.int G1)) (P5 : ¬ G1 = (0 : Int32)) :
    CtP l (⟨"java/lang/String", "valueOf", "(C)Ljava/lang/String;"⟩ : MethodName) jdk_42_method_139_code 1 (some (.object "java/lang/String")) [] ({ frames := 2, cells := 2, slots := 5, locals := 27 } : Room) Z #[(.int c)] h0 (fun v h L => ∃ (x : Addr), ∃ (t : Addr), ∃ (kb : ClassId), v = some (.ref x) ∧ Fr n0 L ∧ Keep h0 h [] ∧ h0.size ≤ x ∧ h0.size ≤ t ∧ Exa Z h x "java/lang/String" ∧ Fld Z h x "java/lang/String" "coder" "B" (.int 0) ∧ Fld Z h x "java/lang/String" "value" "[B" (.ref t) ∧ Arv Z h t kb .byte (1 : Int32) [(.int (c.toInt8.toInt32))] (.int 0) ∧ Fld Z h x "java/lang/String" "hash" "I" (.int (0 : Int32)) ∧ Fld Z h x "java/lang/String" "hashIsZero" "Z" (.int (0 : Int32)) ∧ x ≠ t) := by
  refine CtP.walk (Ls := #[.val (.int c)]) own_pn2 (fun m => by first | (simp [entryFrame, mkF, argsToLocals, Value.category]; done) | rfl) ?_
  intro p e s m below meth cc_ T hx hby hml hown hnm hret hlk hZ X eT
  have N := Fr.nil n0
  have K0 := Keep.refl h0 []
  have sz_h : h0.size ≤ h0.size := Nat.le_refl _
  refine ggetS X hx hZ (host := "") hown (Or.inl (own_w71 hw)) Via.refl eT (O2.ext P0_Old.2) 3 (hb hby own_d15_0) rfl ?_
  clear X eT; clear T; intro T X eT
  refine gifNo X hx 6 (hb hby own_d15_3) rfl ((if0 _ _).trans (feq P5).1) ?_
  refine giloadN (v := c) X hx 7 (hb hby own_d15_6) rfl rfl ?_
  refine gstatic (y := (⟨"java/lang/StringLatin1", "canEncode", "(C)Z"⟩ : MethodName)) (argsL := [(.int c)]) (st := []) X hx hZ hown (own_w97 hw) (own_w98 hw) (own_w74 hw) (own_w99 hw) (by decide) (payP (W := 0) (rm16 l Z a0 hw (c) h0 n0 (Nat.le_trans Z0 sz_h) (hc)) hZ (own_w99 hw) (own_w74 hw) (by decide) (by decide)) eT (by rw [hml]; rfl) (lenOf own_pd0 rfl) rfl (Nat.le_of_eq rfl) 0 0 rfl rfl (by decide) (by decide) 10 (hb hby own_d15_7) rfl ?_
  clear X eT; clear T; intro v T h1 L2 Lc X eT hL hQ2
  obtain ⟨rfl, Nq, hh⟩ := hQ2
  replace N : Fr n0 L2 := by rw [hL]; exact Fr.app N Nq
  clear Nq hL
  replace hh := hh.symm; subst hh
  show Go p e below _ T (mkF m 10 #[.val (.int c)] [(.int (1 : Int32))])
  refine gifNo X hx 13 (hb hby own_d15_10) rfl (by decide) ?_
  refine gnewO X hx hZ hown (own_w84 hw) (own_w6 hw) (own_w7 hw) eT 1 4 rfl rfl (by decide) (by decide) 16 (hb hby own_d15_13) rfl ?_
  clear X eT; clear T; intro T h5 b6 X eT ga E7 A8 D9
  have le_a := Nat.le_of_eq ga.symm
  have sz_b6 : h0.size ≤ b6 := Nat.le_trans sz_h le_a
  have ge_b6 : n0 ≤ b6 := Nat.le_trans Z0 sz_b6
  clear le_a ga
  replace P0_Old := P0_Old.ext E7
  replace K0 := K0.ext E7
  replace sz_h : h0.size ≤ h5.size := Nat.le_trans sz_h E7.1
  have F_value_b6 : Fld Z h5 b6 "java/lang/String" "value" "[B" .null := D9 (Or.inr (own_w21 hw)) (ty := (.array .byte)) own_pf0
  have F_coder_b6 : Fld Z h5 b6 "java/lang/String" "coder" "B" (.int (0 : Int32)) := D9 (Or.inr (own_w22 hw)) (ty := .byte) own_pf1
  have F_hash_b6 : Fld Z h5 b6 "java/lang/String" "hash" "I" (.int (0 : Int32)) := D9 (Or.inl (own_w63 hw)) (ty := .int) own_pf2
  have F_hashIsZero_b6 : Fld Z h5 b6 "java/lang/String" "hashIsZero" "Z" (.int (0 : Int32)) := D9 (Or.inl (own_w65 hw)) (ty := .boolean) own_pf3
  clear D9
  refine gdup X hx 17 (hb hby own_d15_16) rfl rfl ?_
  refine giloadN (v := c) X hx 18 (hb hby own_d15_17) rfl rfl ?_
  refine gstatic (y := (⟨"java/lang/StringLatin1", "toBytes", "(C)[B"⟩ : MethodName)) (argsL := [(.int c)]) (st := [(.ref b6), (.ref b6)]) X hx hZ hown (own_w100 hw) (own_w101 hw) (own_w74 hw) (own_w102 hw) (by decide) (payP (W := 2) (rm17 l Z a0 hw (c) h5 n0 (Nat.le_trans Z0 sz_h)) hZ (own_w102 hw) (own_w74 hw) (by decide) (by decide)) eT (by rw [hml]; rfl) (lenOf own_pd1 rfl) rfl (Nat.le_of_eq rfl) 2 5 rfl rfl (by decide) (by decide) 21 (hb hby own_d15_18) rfl ?_
  clear X eT; clear T; intro v T h10 L2 Lc X eT hL hQ11
  obtain ⟨t_12, kb_13, rfl, Nq, K14, zz_t_12, G16⟩ := hQ11
  replace N : Fr n0 L2 := by rw [hL]; exact Fr.app N Nq
  clear Nq hL
  have ne_b6_t_12 : b6 ≠ t_12 := Nat.ne_of_lt (Nat.lt_of_lt_of_le A8.lt zz_t_12)
  have ne_t_12_b6 : t_12 ≠ b6 := Ne.symm ne_b6_t_12
  have sz_t_12 : h0.size ≤ t_12 := Nat.le_trans sz_h zz_t_12
  have ge_t_12 : n0 ≤ t_12 := Nat.le_trans Z0 sz_t_12
  replace P0_Old := P0_Old.keep K14 all0
  replace A8 := A8.keep K14
  replace F_value_b6 := F_value_b6.keep K14 nin0
  replace F_coder_b6 := F_coder_b6.keep K14 nin0
  replace F_hash_b6 := F_hash_b6.keep K14 nin0
  replace F_hashIsZero_b6 := F_hashIsZero_b6.keep K14 nin0
  replace K0 := K0.trans K14 all0
  replace sz_h : h0.size ≤ h10.size := Nat.le_trans sz_h K14.1
  show Go p e below _ T (mkF m 21 #[.val (.int c)] [(.ref t_12), (.ref b6), (.ref b6)])
  refine giconst X hx (0 : Int32) 22 (hb hby own_d15_21) rfl rfl ?_
  refine gspecial (y := (⟨"java/lang/String", "<init>", "([BB)V"⟩ : MethodName)) (a := b6) (argsL := [(.ref t_12), (.int (0 : Int32))]) (st := [(.ref b6)]) X hx hZ hown rfl (own_w103 hw) (own_w104 hw) (own_w105 hw) (by decide) (payP (W := 1) (rm18 l Z a0 hw (b6) (t_12) (.null) ((.int (0 : Int32))) h10 n0 (Nat.le_trans Z0 sz_h) ge_b6 A8 F_value_b6 F_coder_b6 F_hash_b6 F_hashIsZero_b6) hZ (own_w105 hw) (own_w7 hw) (by decide) (by decide)) eT (by rw [hml]; rfl) (lenOf own_pd2 rfl) rfl (Nat.le_of_eq rfl) 2 5 rfl rfl (by decide) (by decide) 25 (hb hby own_d15_22) rfl ?_
  clear X eT; clear T; intro v T h17 L2 Lc X eT hL hQ18
  obtain ⟨rfl, Nq, K19, G21, G22, G23, G24⟩ := hQ18
  replace N : Fr n0 L2 := by rw [hL]; exact Fr.app N Nq
  clear Nq hL
  replace P0_Old := P0_Old.keep K19 (allS ge_b6 all0)
  replace A8 := A8.keep K19
  replace G16 := G16.keep K19 (ninS ne_t_12_b6 nin0)
  replace K0 := K0.trans K19 (allS (Or.inr sz_b6) all0)
  replace sz_h : h0.size ≤ h17.size := Nat.le_trans sz_h K19.1
  show Go p e below _ T (mkF m 25 #[.val (.int c)] [(.ref b6)])
  exact gRetP X hx hlk hret rfl (Or.inr (Or.inr (Or.inr (Or.inr ⟨rfl, rfl, rfl⟩)))) (hb hby own_d15_25) eT (by decide) (by decide) ⟨b6, t_12, kb_13, rfl, N, K0, sz_b6, sz_t_12, A8, G22, G21, G16, G23, G24, ne_b6_t_12⟩
set_option maxRecDepth 65536 in
set_option maxHeartbeats 40000000 in
theorem rmE4 (l : Launch) (Z : State) (a0 : Array Value) (hw : ∀ d ∈ tables_1, d.before a0 Z = true) (x : Addr) (b : Addr) (v0 : Value) (c0 : Value) (h0 : Heap) (n0 : Nat) (Z0 : n0 ≤ h0.size) (ge_x : n0 ≤ x) (P0_Exa : Exa Z h0 x "java/lang/String") (P1_Fld : Fld Z h0 x "java/lang/String" "value" "[B" v0) (P2_Fld : Fld Z h0 x "java/lang/String" "coder" "B" c0) (P4_Fld : Fld Z h0 x "java/lang/String" "hash" "I" (.int (0 : Int32))) (P5_Fld : Fld Z h0 x "java/lang/String" "hashIsZero" "Z" (.int (0 : Int32))) :
    CtS l (⟨"java/lang/String", "<init>", "([CIILjava/lang/Void;)V"⟩ : MethodName) jdk_42_method_149_code 6 none [] ({ frames := 1, cells := 4, slots := 8, locals := 12 } : Room) Z own_EL [x] #[(.ref x), (.ref b), (.int (0 : Int32)), (.int (0 : Int32)), .null] h0 (fun v h L => ∃ (t : Addr), ∃ (kb : ClassId), v = none ∧ Fr n0 L ∧ Keep h0 h [x] ∧ Fld Z h x "java/lang/String" "value" "[B" (.ref t) ∧ Fld Z h x "java/lang/String" "coder" "B" (.int 0) ∧ Arv Z h t kb .byte (0 : Int32) [] (.int 0) ∧ Fld Z h x "java/lang/String" "hash" "I" (.int (0 : Int32)) ∧ Fld Z h x "java/lang/String" "hashIsZero" "Z" (.int (0 : Int32))) := by
  refine CtS.walk (Ls := #[.val (.ref x), .val (.ref b), .val (.int (0 : Int32)), .val (.int (0 : Int32)), .val .null, .unset]) own_pn3 (fun m => by first | (simp [entryFrame, mkF, argsToLocals, Value.category]; done) | rfl) ?_
  intro p e s m below meth cc_ T vm k0 hx hby hml hown hnm hret hlk hZ X eT hS hk C hSL
  have P3_Safe := hSL x (List.mem_of_getElem? (i := 0) rfl)
  have N := Fr.nil n0
  have K0 := Keep.refl h0 [x]
  have sz_h : h0.size ≤ h0.size := Nat.le_refl _
  refine galoadN (v := (.ref x)) X hx 1 (hb hby own_d3_0) rfl rfl rfl ?_
  refine ginitO X hx hZ hown (own_w16 hw) (own_w17 hw) (own_w18 hw) eT (by rw [hml]; rfl) (by decide) 0 (Nat.le_of_eq rfl) (by decide) 4 (hb hby own_d3_1) rfl ?_
  clear X eT; clear T; intro T X eT
  refine giloadN (v := (0 : Int32)) X hx 5 (hb hby own_d3_4) rfl rfl ?_
  refine gifNo X hx 8 (hb hby own_d3_5) rfl (by decide) ?_
  refine galoadN (v := (.ref x)) X hx 9 (hb hby own_d3_8) rfl rfl rfl ?_
  have lt_x := P0_Exa.lt
  refine gldcV X hx hZ hown (own_w19 hw) (own_wS hw) eT hS hk (own_EW hw) own_mem19 C.1 [] (0 : Int32) (by decide +kernel) (by decide) rfl 0 (by decide) (by decide) 2 4 rfl rfl (by decide) (by decide) 11 (hb hby own_d3_9) rfl ?_
  clear X eT hS hk hZ hown; clear T k0; intro c2 T h1 vm k0 t10 kb11 X eT E3 hS hk hZ hown CR4 Li5 A6 F7 F8 V9 ns12
  replace P0_Exa := P0_Exa.ext E3
  replace P1_Fld := P1_Fld.ext E3
  replace P2_Fld := P2_Fld.ext E3
  replace P3_Safe := CHr.safe CR4 lt_x P3_Safe
  replace P4_Fld := P4_Fld.ext E3
  replace P5_Fld := P5_Fld.ext E3
  replace K0 := K0.ext E3
  replace C := C.trans CR4
  replace sz_h : h0.size ≤ h1.size := Nat.le_trans sz_h E3.1
  have ne_x_c2 := (ns12 _ P3_Safe).1
  have ne_c2_x := Ne.symm ne_x_c2
  have ne_x_t10 := (ns12 _ P3_Safe).2
  have ne_t10_x := Ne.symm ne_x_t10
  show Go p e below _ T (mkF m 11 #[.val (.ref x), .val (.ref b), .val (.int (0 : Int32)), .val (.int (0 : Int32)), .val .null, .unset] [(.ref c2), (.ref x)])
  refine ggetF X hx hZ (host := "") hown (Or.inl (own_w25 hw)) Via.refl eT F8 14 (hb hby own_d3_11) rfl ?_
  clear X eT; clear T; intro T X eT
  refine gputF X hx hZ (host := "") hown (Or.inl (own_w25 hw)) Via.refl eT P1_Fld P0_Exa (Or.inr ⟨(own_w21 hw), rfl, hnm⟩) (own_w6 hw) (ty := (.array .byte)) own_pf0 rfl rfl N ge_x 17 (hb hby own_d3_14) rfl ?_
  clear X eT N; clear T; intro T h13 L X eT N W14
  have sfw := P3_Safe
  replace P0_Exa := P0_Exa.wr W14
  replace P1_Fld := P1_Fld.same W14
  replace P2_Fld := P2_Fld.other W14 (Or.inr (slot_ne (Or.inr (own_w22 hw)) (Or.inr (own_w21 hw)) (by decide) own_pf1 own_pf0))
  replace P3_Safe := Safe.wr W14 sfw C.1 P3_Safe
  replace P4_Fld := P4_Fld.other W14 (Or.inr (slot_ne (Or.inl (own_w63 hw)) (Or.inr (own_w21 hw)) (by decide) own_pf2 own_pf0))
  replace P5_Fld := P5_Fld.other W14 (Or.inr (slot_ne (Or.inl (own_w65 hw)) (Or.inr (own_w21 hw)) (by decide) own_pf3 own_pf0))
  replace A6 := A6.wr W14
  replace F7 := F7.other W14 (Or.inl ne_c2_x)
  replace F8 := F8.other W14 (Or.inl ne_c2_x)
  replace V9 := V9.other W14 ne_t10_x
  replace K0 := K0.wr W14 (Or.inl (List.mem_of_getElem? (i := 0) rfl))
  replace C := C.trans (CHr.wr W14 sfw C.1)
  replace hk : k0 ≤ h13.size := by rw [Wr.size W14]; exact hk
  replace sz_h : h0.size ≤ h13.size := by rw [Wr.size W14]; exact sz_h
  refine galoadN (v := (.ref x)) X hx 18 (hb hby own_d3_17) rfl rfl rfl ?_
  have lt_x := P0_Exa.lt
  refine gldcV X hx hZ hown (own_w19 hw) (own_wS hw) eT hS hk (own_EW hw) own_mem19 C.1 [] (0 : Int32) (by decide +kernel) (by decide) rfl 0 (by decide) (by decide) 4 8 rfl rfl (by decide) (by decide) 20 (hb hby own_d3_18) rfl ?_
  clear X eT hS hk hZ hown; clear T k0; intro c16 T h15 vm k0 t24 kb25 X eT E17 hS hk hZ hown CR18 Li19 A20 F21 F22 V23 ns26
  replace P0_Exa := P0_Exa.ext E17
  replace P1_Fld := P1_Fld.ext E17
  replace P2_Fld := P2_Fld.ext E17
  replace P3_Safe := CHr.safe CR18 lt_x P3_Safe
  replace P4_Fld := P4_Fld.ext E17
  replace P5_Fld := P5_Fld.ext E17
  replace A6 := A6.ext E17
  replace F7 := F7.ext E17
  replace F8 := F8.ext E17
  replace V9 := V9.ext E17
  replace K0 := K0.ext E17
  replace C := C.trans CR18
  replace sz_h : h0.size ≤ h15.size := Nat.le_trans sz_h E17.1
  have ne_x_c16 := (ns26 _ P3_Safe).1
  have ne_c16_x := Ne.symm ne_x_c16
  have ne_x_t24 := (ns26 _ P3_Safe).2
  have ne_t24_x := Ne.symm ne_x_t24
  show Go p e below _ T (mkF m 20 #[.val (.ref x), .val (.ref b), .val (.int (0 : Int32)), .val (.int (0 : Int32)), .val .null, .unset] [(.ref c16), (.ref x)])
  refine ggetF X hx hZ (host := "") hown (Or.inl (own_w26 hw)) Via.refl eT F21 23 (hb hby own_d3_20) rfl ?_
  clear X eT; clear T; intro T X eT
  refine gputF X hx hZ (host := "") hown (Or.inl (own_w26 hw)) Via.refl eT P2_Fld P0_Exa (Or.inr ⟨(own_w22 hw), rfl, hnm⟩) (own_w6 hw) (ty := .byte) own_pf1 rfl rfl N ge_x 26 (hb hby own_d3_23) rfl ?_
  clear X eT N; clear T; intro T h27 L X eT N W28
  have sfw := P3_Safe
  replace P0_Exa := P0_Exa.wr W28
  replace P1_Fld := P1_Fld.other W28 (Or.inr (slot_ne (Or.inr (own_w21 hw)) (Or.inr (own_w22 hw)) (by decide) own_pf0 own_pf1))
  replace P2_Fld := P2_Fld.same W28
  replace P3_Safe := Safe.wr W28 sfw C.1 P3_Safe
  replace P4_Fld := P4_Fld.other W28 (Or.inr (slot_ne (Or.inl (own_w63 hw)) (Or.inr (own_w22 hw)) (by decide) own_pf2 own_pf1))
  replace P5_Fld := P5_Fld.other W28 (Or.inr (slot_ne (Or.inl (own_w65 hw)) (Or.inr (own_w22 hw)) (by decide) own_pf3 own_pf1))
  replace A6 := A6.wr W28
  replace F7 := F7.other W28 (Or.inl ne_c2_x)
  replace F8 := F8.other W28 (Or.inl ne_c2_x)
  replace V9 := V9.other W28 ne_t10_x
  replace A20 := A20.wr W28
  replace F21 := F21.other W28 (Or.inl ne_c16_x)
  replace F22 := F22.other W28 (Or.inl ne_c16_x)
  replace V23 := V23.other W28 ne_t24_x
  replace K0 := K0.wr W28 (Or.inl (List.mem_of_getElem? (i := 0) rfl))
  replace C := C.trans (CHr.wr W28 sfw C.1)
  replace hk : k0 ≤ h27.size := by rw [Wr.size W28]; exact hk
  replace sz_h : h0.size ≤ h27.size := by rw [Wr.size W28]; exact sz_h
  exact gRetS0 X hx hlk hret (hb hby own_d3_26) eT hS hk hZ (own_EW hw) C (by decide) (by decide) ⟨t10, kb11, rfl, N, K0, P1_Fld, P2_Fld, V9, P4_Fld, P5_Fld⟩
set_option maxRecDepth 65536 in
set_option maxHeartbeats 40000000 in
theorem rmE1 (l : Launch) (Z : State) (a0 : Array Value) (hw : ∀ d ∈ tables_1, d.before a0 Z = true) (x : Addr) (b : Addr) (v0 : Value) (c0 : Value) (kc : ClassId) (h0 : Heap) (n0 : Nat) (Z0 : n0 ≤ h0.size) (ge_x : n0 ≤ x) (P0_Exa : Exa Z h0 x "java/lang/String") (P1_Fld : Fld Z h0 x "java/lang/String" "value" "[B" v0) (P2_Fld : Fld Z h0 x "java/lang/String" "coder" "B" c0) (P4_Arv : Arv Z h0 b kc .char (0 : Int32) [] (.int 0)) (P5_Fld : Fld Z h0 x "java/lang/String" "hash" "I" (.int (0 : Int32))) (P6_Fld : Fld Z h0 x "java/lang/String" "hashIsZero" "Z" (.int (0 : Int32))) :
    CtS l (⟨"java/lang/String", "<init>", "([C)V"⟩ : MethodName) jdk_42_method_3_code 2 none [] ({ frames := 2, cells := 4, slots := 8, locals := 29 } : Room) Z own_EL [x] #[(.ref x), (.ref b)] h0 (fun v h L => ∃ (t : Addr), ∃ (kb : ClassId), v = none ∧ Fr n0 L ∧ Keep h0 h [x] ∧ Fld Z h x "java/lang/String" "value" "[B" (.ref t) ∧ Fld Z h x "java/lang/String" "coder" "B" (.int 0) ∧ Arv Z h t kb .byte (0 : Int32) [] (.int 0) ∧ Fld Z h x "java/lang/String" "hash" "I" (.int (0 : Int32)) ∧ Fld Z h x "java/lang/String" "hashIsZero" "Z" (.int (0 : Int32))) := by
  refine CtS.walk (Ls := #[.val (.ref x), .val (.ref b)]) own_pn4 (fun m => by first | (simp [entryFrame, mkF, argsToLocals, Value.category]; done) | rfl) ?_
  intro p e s m below meth cc_ T vm k0 hx hby hml hown hnm hret hlk hZ X eT hS hk C hSL
  have P3_Safe := hSL x (List.mem_of_getElem? (i := 0) rfl)
  have N := Fr.nil n0
  have K0 := Keep.refl h0 [x]
  have sz_h : h0.size ≤ h0.size := Nat.le_refl _
  refine galoadN (v := (.ref x)) X hx 1 (hb hby own_d2_0) rfl rfl rfl ?_
  refine galoadN (v := (.ref b)) X hx 2 (hb hby own_d2_1) rfl rfl rfl ?_
  refine giconst X hx (0 : Int32) 3 (hb hby own_d2_2) rfl rfl ?_
  refine galoadN (v := (.ref b)) X hx 4 (hb hby own_d2_3) rfl rfl rfl ?_
  refine garrlen X hx hZ eT P4_Arv 5 (hb hby own_d2_4) rfl ?_
  refine gaconstNull X hx 6 (hb hby own_d2_5) rfl ?_
  refine gspecialS (y := (⟨"java/lang/String", "<init>", "([CIILjava/lang/Void;)V"⟩ : MethodName)) (a := x) (argsL := [(.ref b), (.int (0 : Int32)), (.int (0 : Int32)), .null]) (st := []) X hx hZ hown rfl (own_w12 hw) (own_w13 hw) (own_w15 hw) (by decide) hS hk (payS (W := 0) (rmE4 l Z a0 hw (x) (b) (v0) (c0) h0 n0 (Nat.le_trans Z0 sz_h) ge_x P0_Exa P1_Fld P2_Fld P5_Fld P6_Fld) hZ (own_w15 hw) (own_w7 hw) (by decide) (by decide) (own_EW hw) C.1 (allS ⟨P0_Exa.lt, P3_Safe⟩ all0)) eT (by rw [hml]; rfl) (lenOf own_pd3 rfl) rfl (Nat.le_of_eq rfl) 4 8 rfl rfl (by decide) (by decide) 9 (hb hby own_d2_6) rfl ?_
  have lt_x := P0_Exa.lt
  clear X eT hS hk hZ hown; clear T k0; intro v T h1 L2 Lc vm k0 X eT hL hS hk hZ hown CR6 hQ2
  obtain ⟨t_3, kb_4, rfl, Nq, K5, G7, G8, G9, G10, G11⟩ := hQ2
  replace N : Fr n0 L2 := by rw [hL]; exact Fr.app N Nq
  clear Nq hL
  have ne_b_x : b ≠ x := Ne.symm (Exa.neArv P0_Exa P4_Arv (own_w6 hw))
  replace P0_Exa := P0_Exa.keep K5
  replace P3_Safe := CHr.safe CR6 lt_x P3_Safe
  replace P4_Arv := P4_Arv.keep K5 (ninS ne_b_x nin0)
  replace K0 := K0.trans K5 (allS (Or.inl (List.mem_of_getElem? (i := 0) rfl)) all0)
  replace C := C.trans CR6
  replace sz_h : h0.size ≤ h1.size := Nat.le_trans sz_h K5.1
  show Go p e below _ T (mkF m 9 #[.val (.ref x), .val (.ref b)] [])
  exact gRetS0 X hx hlk hret (hb hby own_d2_9) eT hS hk hZ (own_EW hw) C (by decide) (by decide) ⟨t_3, kb_4, rfl, N, K0, G7, G8, G9, G10, G11⟩
set_option maxRecDepth 65536 in
set_option maxHeartbeats 40000000 in
theorem rm10 (l : Launch) (Z : State) (a0 : Array Value) (hw : ∀ d ∈ tables_1, d.before a0 Z = true) (x : Addr) (G1 : Int32) (h0 : Heap) (n0 : Nat) (Z0 : n0 ≤ h0.size) (P0_Old : Old Z n0 h0) (P1_Fld : Fld Z h0 x "java/lang/String" "coder" "B" (.int (0 : Int32))) (O2 : Sta Z Z.heap "java/lang/String" "COMPACT_STRINGS" "Z" (.int G1)) (P5 : ¬ G1 = (0 : Int32)) :
    CtP l (⟨"java/lang/String", "isLatin1", "()Z"⟩ : MethodName) jdk_42_method_154_code 1 (some .boolean) [] ({ frames := 0, cells := 0, slots := 0, locals := 0 } : Room) Z #[(.ref x)] h0 (fun v h L => v = some (.int (1 : Int32)) ∧ Fr n0 L ∧ h = h0) := by
  refine CtP.walk (Ls := #[.val (.ref x)]) own_pn5 (fun m => by first | (simp [entryFrame, mkF, argsToLocals, Value.category]; done) | rfl) ?_
  intro p e s m below meth cc_ T hx hby hml hown hnm hret hlk hZ X eT
  have N := Fr.nil n0
  have sz_h : h0.size ≤ h0.size := Nat.le_refl _
  refine ggetS X hx hZ (host := "") hown (Or.inl (own_w71 hw)) Via.refl eT (O2.ext P0_Old.2) 3 (hb hby own_d10_0) rfl ?_
  clear X eT; clear T; intro T X eT
  refine gifNo X hx 6 (hb hby own_d10_3) rfl ((if0 _ _).trans (feq P5).1) ?_
  refine galoadN (v := (.ref x)) X hx 7 (hb hby own_d10_6) rfl rfl rfl ?_
  refine ggetF X hx hZ (host := "") hown (Or.inl (own_w26 hw)) Via.refl eT P1_Fld 10 (hb hby own_d10_7) rfl ?_
  clear X eT; clear T; intro T X eT
  refine gifNo X hx 13 (hb hby own_d10_10) rfl (by decide) ?_
  refine giconst X hx (1 : Int32) 14 (hb hby own_d10_13) rfl rfl ?_
  refine ggoto X hx 18 (hb hby own_d10_14) (by decide) (by decide) ?_
  exact gRetP X hx hlk hret rfl (Or.inl ⟨rfl, by simp, _, rfl⟩) (hb hby own_d10_18) eT (by decide) (by decide) ⟨rfl, N, rfl⟩
set_option maxRecDepth 65536 in
set_option maxHeartbeats 40000000 in
theorem rmLH0 (l : Launch) (Z : State) (a0 : Array Value) (hw : ∀ d ∈ tables_1, d.before a0 Z = true) (t : Addr) (kb : ClassId) (h0 : Heap) (n0 : Nat) (Z0 : n0 ≤ h0.size) (P0_Arv : Arv Z h0 t kb .byte (0 : Int32) [] (.int 0)) :
    CtP l (⟨"java/lang/StringLatin1", "hashCode", "([B)I"⟩ : MethodName) jdk_43_method_21_code 1 (some .int) [] ({ frames := 0, cells := 0, slots := 0, locals := 0 } : Room) Z #[(.ref t)] h0 (fun v h L => v = some (.int (0 : Int32)) ∧ Fr n0 L ∧ h = h0) := by
  refine CtP.walk (Ls := #[.val (.ref t)]) (plainFor_of_name own_pn0) (fun m => by first | (simp [entryFrame, mkF, argsToLocals, Value.category]; done) | rfl) ?_
  intro p e s m below meth cc_ T hx hby hml hown hnm hret hlk hZ X eT
  have N := Fr.nil n0
  have sz_h : h0.size ≤ h0.size := Nat.le_refl _
  refine galoadN (v := (.ref t)) X hx 1 (hb hby own_d11_0) rfl rfl rfl ?_
  refine garrlen X hx hZ eT P0_Arv 2 (hb hby own_d11_1) rfl ?_
  refine glswHit X hx 28 (hb hby own_d11_2) (by decide) (by rfl) (by decide) (by decide) ?_
  refine giconst X hx (0 : Int32) 29 (hb hby own_d11_28) rfl rfl ?_
  refine ggoto X hx 51 (hb hby own_d11_29) (by decide) (by decide) ?_
  exact gRetP X hx hlk hret rfl (Or.inl ⟨rfl, by simp, _, rfl⟩) (hb hby own_d11_51) eT (by decide) (by decide) ⟨rfl, N, rfl⟩
set_option maxRecDepth 65536 in
set_option maxHeartbeats 40000000 in
theorem rmHC0 (l : Launch) (Z : State) (a0 : Array Value) (hw : ∀ d ∈ tables_1, d.before a0 Z = true) (x : Addr) (t : Addr) (kb : ClassId) (G1 : Int32) (h0 : Heap) (n0 : Nat) (Z0 : n0 ≤ h0.size) (ge_x : n0 ≤ x) (P0_Old : Old Z n0 h0) (P1_Exa : Exa Z h0 x "java/lang/String") (P2_Fld : Fld Z h0 x "java/lang/String" "coder" "B" (.int (0 : Int32))) (P3_Fld : Fld Z h0 x "java/lang/String" "value" "[B" (.ref t)) (P4_Fld : Fld Z h0 x "java/lang/String" "hash" "I" (.int (0 : Int32))) (P5_Fld : Fld Z h0 x "java/lang/String" "hashIsZero" "Z" (.int (0 : Int32))) (P6_Arv : Arv Z h0 t kb .byte (0 : Int32) [] (.int 0)) (O2 : Sta Z Z.heap "java/lang/String" "COMPACT_STRINGS" "Z" (.int G1)) (P5 : ¬ G1 = (0 : Int32)) :
    CtP l (⟨"java/lang/String", "hashCode", "()I"⟩ : MethodName) jdk_42_method_78_code 2 (some .int) [] ({ frames := 1, cells := 0, slots := 0, locals := 12 } : Room) Z #[(.ref x)] h0 (fun v h L => v = some (.int (0 : Int32)) ∧ Fr n0 L ∧ Keep h0 h [x] ∧ Fld Z h x "java/lang/String" "coder" "B" (.int (0 : Int32)) ∧ Fld Z h x "java/lang/String" "value" "[B" (.ref t)) := by
  refine CtP.walk (Ls := #[.val (.ref x), .unset]) own_pn6 (fun m => by first | (simp [entryFrame, mkF, argsToLocals, Value.category]; done) | rfl) ?_
  intro p e s m below meth cc_ T hx hby hml hown hnm hret hlk hZ X eT
  have N := Fr.nil n0
  have K0 := Keep.refl h0 [x]
  have sz_h : h0.size ≤ h0.size := Nat.le_refl _
  refine galoadN (v := (.ref x)) X hx 1 (hb hby own_d9_0) rfl rfl rfl ?_
  refine ggetF X hx hZ (host := "") hown (Or.inl (own_w62 hw)) Via.refl eT P4_Fld 4 (hb hby own_d9_1) rfl ?_
  clear X eT; clear T; intro T X eT
  refine gistoreN X hx #[.val (.ref x), .val (.int (0 : Int32))] 5 (hb hby own_d9_4) rfl rfl ?_
  refine giloadN (v := (0 : Int32)) X hx 6 (hb hby own_d9_5) rfl rfl ?_
  refine gifNo X hx 9 (hb hby own_d9_6) rfl (by decide) ?_
  refine galoadN (v := (.ref x)) X hx 10 (hb hby own_d9_9) rfl rfl rfl ?_
  refine ggetF X hx hZ (host := "") hown (Or.inl (own_w64 hw)) Via.refl eT P5_Fld 13 (hb hby own_d9_10) rfl ?_
  clear X eT; clear T; intro T X eT
  refine gifNo X hx 16 (hb hby own_d9_13) rfl (by decide) ?_
  refine galoadN (v := (.ref x)) X hx 17 (hb hby own_d9_16) rfl rfl rfl ?_
  refine gvirtual (y := (⟨"java/lang/String", "isLatin1", "()Z"⟩ : MethodName)) (z := (⟨"java/lang/String", "isLatin1", "()Z"⟩ : MethodName)) (a := x) (argsL := []) (st := []) X hx hZ hown (own_w66 hw) (own_w67 hw) (notFace_of_selects (args := #[]) (mvT hZ (own_w69 hw))) (own_w69 hw) (own_w68 hw) (by decide) P1_Exa (payP (W := 0) (rm10 l Z a0 hw (x) (G1) h0 n0 (Nat.le_trans Z0 sz_h) P0_Old P2_Fld (O2) (P5)) hZ (own_w70 hw) (own_w7 hw) (by decide) (by decide)) eT (by rw [hml]; rfl) (lenOf own_pd4 rfl) rfl (Nat.le_of_eq rfl) 0 0 rfl rfl (by decide) (by decide) 20 (hb hby own_d9_17) rfl ?_
  clear X eT; clear T; intro v T h1 L2 Lc X eT hL hQ2
  obtain ⟨rfl, Nq, hh⟩ := hQ2
  replace N : Fr n0 L2 := by rw [hL]; exact Fr.app N Nq
  clear Nq hL
  replace hh := hh.symm; subst hh
  show Go p e below _ T (mkF m 20 #[.val (.ref x), .val (.int (0 : Int32))] [(.int (1 : Int32))])
  refine gifNo X hx 23 (hb hby own_d9_20) rfl (by decide) ?_
  refine galoadN (v := (.ref x)) X hx 24 (hb hby own_d9_23) rfl rfl rfl ?_
  refine ggetF X hx hZ (host := "") hown (Or.inl (own_w25 hw)) Via.refl eT P3_Fld 27 (hb hby own_d9_24) rfl ?_
  clear X eT; clear T; intro T X eT
  refine gstatic (y := (⟨"java/lang/StringLatin1", "hashCode", "([B)I"⟩ : MethodName)) (argsL := [(.ref t)]) (st := []) X hx hZ hown (own_w72 hw) (own_w73 hw) (own_w74 hw) (own_w75 hw) (by decide) (payP (W := 0) (rmLH0 l Z a0 hw (t) (kb) h0 n0 (Nat.le_trans Z0 sz_h) P6_Arv) hZ (own_w75 hw) (own_w74 hw) (by decide) (by decide)) eT (by rw [hml]; rfl) (lenOf own_pd5 rfl) rfl (Nat.le_of_eq rfl) 0 0 rfl rfl (by decide) (by decide) 30 (hb hby own_d9_27) rfl ?_
  clear X eT; clear T; intro v T h5 L2 Lc X eT hL hQ6
  obtain ⟨rfl, Nq, hh⟩ := hQ6
  replace N : Fr n0 L2 := by rw [hL]; exact Fr.app N Nq
  clear Nq hL
  replace hh := hh.symm; subst hh
  show Go p e below _ T (mkF m 30 #[.val (.ref x), .val (.int (0 : Int32))] [(.int (0 : Int32))])
  refine ggoto X hx 40 (hb hby own_d9_30) (by decide) (by decide) ?_
  refine gistoreN X hx #[.val (.ref x), .val (.int (0 : Int32))] 41 (hb hby own_d9_40) rfl rfl ?_
  refine giloadN (v := (0 : Int32)) X hx 42 (hb hby own_d9_41) rfl rfl ?_
  refine gifNo X hx 45 (hb hby own_d9_42) rfl (by decide) ?_
  refine galoadN (v := (.ref x)) X hx 46 (hb hby own_d9_45) rfl rfl rfl ?_
  refine giconst X hx (1 : Int32) 47 (hb hby own_d9_46) rfl rfl ?_
  refine gputF X hx hZ (host := "") hown (Or.inl (own_w64 hw)) Via.refl eT P5_Fld P1_Exa (Or.inl (own_w65 hw)) (own_w6 hw) (ty := .boolean) own_pf3 rfl rfl N ge_x 50 (hb hby own_d9_47) rfl ?_
  clear X eT N; clear T; intro T h9 L X eT N W10
  have ne_t_x : t ≠ x := Ne.symm (Exa.neArv P1_Exa P6_Arv (own_w6 hw))
  replace P0_Old := P0_Old.wr W10 ge_x
  replace P1_Exa := P1_Exa.wr W10
  replace P2_Fld := P2_Fld.other W10 (Or.inr (slot_ne (Or.inr (own_w22 hw)) (Or.inl (own_w65 hw)) (by decide) own_pf1 own_pf3))
  replace P3_Fld := P3_Fld.other W10 (Or.inr (slot_ne (Or.inr (own_w21 hw)) (Or.inl (own_w65 hw)) (by decide) own_pf0 own_pf3))
  replace P4_Fld := P4_Fld.other W10 (Or.inr (slot_ne (Or.inl (own_w63 hw)) (Or.inl (own_w65 hw)) (by decide) own_pf2 own_pf3))
  replace P5_Fld := P5_Fld.same W10
  replace P6_Arv := P6_Arv.other W10 ne_t_x
  replace K0 := K0.wr W10 (Or.inl (List.mem_of_getElem? (i := 0) rfl))
  replace sz_h : h0.size ≤ h9.size := by rw [Wr.size W10]; exact sz_h
  refine ggoto X hx 58 (hb hby own_d9_50) (by decide) (by decide) ?_
  refine giloadN (v := (0 : Int32)) X hx 59 (hb hby own_d9_58) rfl rfl ?_
  exact gRetP X hx hlk hret rfl (Or.inl ⟨rfl, by simp, _, rfl⟩) (hb hby own_d9_59) eT (by decide) (by decide) ⟨rfl, N, K0, P2_Fld, P3_Fld⟩
set_option maxRecDepth 65536 in
set_option maxHeartbeats 40000000 in
theorem rmLH1 (l : Launch) (Z : State) (a0 : Array Value) (hw : ∀ d ∈ tables_1, d.before a0 Z = true) (t : Addr) (kb : ClassId) (c0 : Int32) (h0 : Heap) (n0 : Nat) (Z0 : n0 ≤ h0.size) (P0_Arv : Arv Z h0 t kb .byte (1 : Int32) [(.int (c0.toInt8.toInt32))] (.int 0)) :
    CtP l (⟨"java/lang/StringLatin1", "hashCode", "([B)I"⟩ : MethodName) jdk_43_method_21_code 1 (some .int) [] ({ frames := 0, cells := 0, slots := 0, locals := 0 } : Room) Z #[(.ref t)] h0 (fun v h L => v = some (.int ((c0.toInt8.toInt32) &&& (255 : Int32))) ∧ Fr n0 L ∧ h = h0) := by
  refine CtP.walk (Ls := #[.val (.ref t)]) (plainFor_of_name own_pn0) (fun m => by first | (simp [entryFrame, mkF, argsToLocals, Value.category]; done) | rfl) ?_
  intro p e s m below meth cc_ T hx hby hml hown hnm hret hlk hZ X eT
  have N := Fr.nil n0
  have sz_h : h0.size ≤ h0.size := Nat.le_refl _
  refine galoadN (v := (.ref t)) X hx 1 (hb hby own_d11_0) rfl rfl rfl ?_
  refine garrlen X hx hZ eT P0_Arv 2 (hb hby own_d11_1) rfl ?_
  refine glswHit X hx 32 (hb hby own_d11_2) (by decide) (by rfl) (by decide) (by decide) ?_
  refine galoadN (v := (.ref t)) X hx 33 (hb hby own_d11_32) rfl rfl rfl ?_
  refine giconst X hx (0 : Int32) 34 (hb hby own_d11_33) rfl rfl ?_
  refine gbaload X hx hZ eT P0_Arv (.int (c0.toInt8.toInt32)) (by decide) (by decide) rfl 35 (hb hby own_d11_34) rfl ?_
  refine gsipush X hx (255 : Int32) 38 (hb hby own_d11_35) rfl rfl ?_
  refine giand X hx 39 (hb hby own_d11_38) rfl ?_
  refine ggoto X hx 51 (hb hby own_d11_39) (by decide) (by decide) ?_
  exact gRetP X hx hlk hret rfl (Or.inl ⟨rfl, by simp, _, rfl⟩) (hb hby own_d11_51) eT (by decide) (by decide) ⟨rfl, N, rfl⟩
set_option maxRecDepth 65536 in
set_option maxHeartbeats 40000000 in
theorem rmHC1 (l : Launch) (Z : State) (a0 : Array Value) (hw : ∀ d ∈ tables_1, d.before a0 Z = true) (x : Addr) (t : Addr) (kb : ClassId) (G1 : Int32) (c0 : Int32) (h0 : Heap) (n0 : Nat) (Z0 : n0 ≤ h0.size) (ge_x : n0 ≤ x) (P0_Old : Old Z n0 h0) (P1_Exa : Exa Z h0 x "java/lang/String") (P2_Fld : Fld Z h0 x "java/lang/String" "coder" "B" (.int (0 : Int32))) (P3_Fld : Fld Z h0 x "java/lang/String" "value" "[B" (.ref t)) (P4_Fld : Fld Z h0 x "java/lang/String" "hash" "I" (.int (0 : Int32))) (P5_Fld : Fld Z h0 x "java/lang/String" "hashIsZero" "Z" (.int (0 : Int32))) (P6_Arv : Arv Z h0 t kb .byte (1 : Int32) [(.int (c0.toInt8.toInt32))] (.int 0)) (O2 : Sta Z Z.heap "java/lang/String" "COMPACT_STRINGS" "Z" (.int G1)) (P5 : ¬ G1 = (0 : Int32)) :
    CtP l (⟨"java/lang/String", "hashCode", "()I"⟩ : MethodName) jdk_42_method_78_code 2 (some .int) [] ({ frames := 1, cells := 0, slots := 0, locals := 12 } : Room) Z #[(.ref x)] h0 (fun v h L => v = some (.int ((c0.toInt8.toInt32) &&& (255 : Int32))) ∧ Fr n0 L ∧ Keep h0 h [x] ∧ Fld Z h x "java/lang/String" "coder" "B" (.int (0 : Int32)) ∧ Fld Z h x "java/lang/String" "value" "[B" (.ref t)) := by
  refine CtP.walk (Ls := #[.val (.ref x), .unset]) own_pn6 (fun m => by first | (simp [entryFrame, mkF, argsToLocals, Value.category]; done) | rfl) ?_
  intro p e s m below meth cc_ T hx hby hml hown hnm hret hlk hZ X eT
  have N := Fr.nil n0
  have K0 := Keep.refl h0 [x]
  have sz_h : h0.size ≤ h0.size := Nat.le_refl _
  refine galoadN (v := (.ref x)) X hx 1 (hb hby own_d9_0) rfl rfl rfl ?_
  refine ggetF X hx hZ (host := "") hown (Or.inl (own_w62 hw)) Via.refl eT P4_Fld 4 (hb hby own_d9_1) rfl ?_
  clear X eT; clear T; intro T X eT
  refine gistoreN X hx #[.val (.ref x), .val (.int (0 : Int32))] 5 (hb hby own_d9_4) rfl rfl ?_
  refine giloadN (v := (0 : Int32)) X hx 6 (hb hby own_d9_5) rfl rfl ?_
  refine gifNo X hx 9 (hb hby own_d9_6) rfl (by decide) ?_
  refine galoadN (v := (.ref x)) X hx 10 (hb hby own_d9_9) rfl rfl rfl ?_
  refine ggetF X hx hZ (host := "") hown (Or.inl (own_w64 hw)) Via.refl eT P5_Fld 13 (hb hby own_d9_10) rfl ?_
  clear X eT; clear T; intro T X eT
  refine gifNo X hx 16 (hb hby own_d9_13) rfl (by decide) ?_
  refine galoadN (v := (.ref x)) X hx 17 (hb hby own_d9_16) rfl rfl rfl ?_
  refine gvirtual (y := (⟨"java/lang/String", "isLatin1", "()Z"⟩ : MethodName)) (z := (⟨"java/lang/String", "isLatin1", "()Z"⟩ : MethodName)) (a := x) (argsL := []) (st := []) X hx hZ hown (own_w66 hw) (own_w67 hw) (notFace_of_selects (args := #[]) (mvT hZ (own_w69 hw))) (own_w69 hw) (own_w68 hw) (by decide) P1_Exa (payP (W := 0) (rm10 l Z a0 hw (x) (G1) h0 n0 (Nat.le_trans Z0 sz_h) P0_Old P2_Fld (O2) (P5)) hZ (own_w70 hw) (own_w7 hw) (by decide) (by decide)) eT (by rw [hml]; rfl) (lenOf own_pd4 rfl) rfl (Nat.le_of_eq rfl) 0 0 rfl rfl (by decide) (by decide) 20 (hb hby own_d9_17) rfl ?_
  clear X eT; clear T; intro v T h1 L2 Lc X eT hL hQ2
  obtain ⟨rfl, Nq, hh⟩ := hQ2
  replace N : Fr n0 L2 := by rw [hL]; exact Fr.app N Nq
  clear Nq hL
  replace hh := hh.symm; subst hh
  show Go p e below _ T (mkF m 20 #[.val (.ref x), .val (.int (0 : Int32))] [(.int (1 : Int32))])
  refine gifNo X hx 23 (hb hby own_d9_20) rfl (by decide) ?_
  refine galoadN (v := (.ref x)) X hx 24 (hb hby own_d9_23) rfl rfl rfl ?_
  refine ggetF X hx hZ (host := "") hown (Or.inl (own_w25 hw)) Via.refl eT P3_Fld 27 (hb hby own_d9_24) rfl ?_
  clear X eT; clear T; intro T X eT
  refine gstatic (y := (⟨"java/lang/StringLatin1", "hashCode", "([B)I"⟩ : MethodName)) (argsL := [(.ref t)]) (st := []) X hx hZ hown (own_w72 hw) (own_w73 hw) (own_w74 hw) (own_w75 hw) (by decide) (payP (W := 0) (rmLH1 l Z a0 hw (t) (kb) _ h0 n0 (Nat.le_trans Z0 sz_h) P6_Arv) hZ (own_w75 hw) (own_w74 hw) (by decide) (by decide)) eT (by rw [hml]; rfl) (lenOf own_pd5 rfl) rfl (Nat.le_of_eq rfl) 0 0 rfl rfl (by decide) (by decide) 30 (hb hby own_d9_27) rfl ?_
  clear X eT; clear T; intro v T h5 L2 Lc X eT hL hQ6
  obtain ⟨rfl, Nq, hh⟩ := hQ6
  replace N : Fr n0 L2 := by rw [hL]; exact Fr.app N Nq
  clear Nq hL
  replace hh := hh.symm; subst hh
  show Go p e below _ T (mkF m 30 #[.val (.ref x), .val (.int (0 : Int32))] [(.int ((c0.toInt8.toInt32) &&& (255 : Int32)))])
  refine ggoto X hx 40 (hb hby own_d9_30) (by decide) (by decide) ?_
  refine gistoreN X hx #[.val (.ref x), .val (.int ((c0.toInt8.toInt32) &&& (255 : Int32)))] 41 (hb hby own_d9_40) rfl rfl ?_
  refine giloadN (v := ((c0.toInt8.toInt32) &&& (255 : Int32))) X hx 42 (hb hby own_d9_41) rfl rfl ?_
  rcases Decidable.em (((c0.toInt8.toInt32) &&& (255 : Int32)) = (0 : Int32)) with hz42 | hz42
  · refine gifNo X hx 45 (hb hby own_d9_42) rfl ((if0 _ _).trans (teq hz42).2) ?_
    refine galoadN (v := (.ref x)) X hx 46 (hb hby own_d9_45) rfl rfl rfl ?_
    refine giconst X hx (1 : Int32) 47 (hb hby own_d9_46) rfl rfl ?_
    refine gputF X hx hZ (host := "") hown (Or.inl (own_w64 hw)) Via.refl eT P5_Fld P1_Exa (Or.inl (own_w65 hw)) (own_w6 hw) (ty := .boolean) own_pf3 rfl rfl N ge_x 50 (hb hby own_d9_47) rfl ?_
    clear X eT N; clear T; intro T h9 L X eT N W10
    have ne_t_x : t ≠ x := Ne.symm (Exa.neArv P1_Exa P6_Arv (own_w6 hw))
    replace P0_Old := P0_Old.wr W10 ge_x
    replace P1_Exa := P1_Exa.wr W10
    replace P2_Fld := P2_Fld.other W10 (Or.inr (slot_ne (Or.inr (own_w22 hw)) (Or.inl (own_w65 hw)) (by decide) own_pf1 own_pf3))
    replace P3_Fld := P3_Fld.other W10 (Or.inr (slot_ne (Or.inr (own_w21 hw)) (Or.inl (own_w65 hw)) (by decide) own_pf0 own_pf3))
    replace P4_Fld := P4_Fld.other W10 (Or.inr (slot_ne (Or.inl (own_w63 hw)) (Or.inl (own_w65 hw)) (by decide) own_pf2 own_pf3))
    replace P5_Fld := P5_Fld.same W10
    replace P6_Arv := P6_Arv.other W10 ne_t_x
    replace K0 := K0.wr W10 (Or.inl (List.mem_of_getElem? (i := 0) rfl))
    replace sz_h : h0.size ≤ h9.size := by rw [Wr.size W10]; exact sz_h
    refine ggoto X hx 58 (hb hby own_d9_50) (by decide) (by decide) ?_
    refine giloadN (v := ((c0.toInt8.toInt32) &&& (255 : Int32))) X hx 59 (hb hby own_d9_58) rfl rfl ?_
    exact gRetP X hx hlk hret rfl (Or.inl ⟨rfl, by simp, _, rfl⟩) (hb hby own_d9_59) eT (by decide) (by decide) ⟨rfl, N, K0, P2_Fld, P3_Fld⟩
  · refine gifYes X hx 53 (hb hby own_d9_42) ((if0 _ _).trans (feq hz42).2) (by decide) (by decide) ?_
    refine galoadN (v := (.ref x)) X hx 54 (hb hby own_d9_53) rfl rfl rfl ?_
    refine giloadN (v := ((c0.toInt8.toInt32) &&& (255 : Int32))) X hx 55 (hb hby own_d9_54) rfl rfl ?_
    refine gputF X hx hZ (host := "") hown (Or.inl (own_w62 hw)) Via.refl eT P4_Fld P1_Exa (Or.inl (own_w63 hw)) (own_w6 hw) (ty := .int) own_pf2 rfl rfl N ge_x 58 (hb hby own_d9_55) rfl ?_
    clear X eT N; clear T; intro T h11 L X eT N W12
    have ne_t_x : t ≠ x := Ne.symm (Exa.neArv P1_Exa P6_Arv (own_w6 hw))
    replace P0_Old := P0_Old.wr W12 ge_x
    replace P1_Exa := P1_Exa.wr W12
    replace P2_Fld := P2_Fld.other W12 (Or.inr (slot_ne (Or.inr (own_w22 hw)) (Or.inl (own_w63 hw)) (by decide) own_pf1 own_pf2))
    replace P3_Fld := P3_Fld.other W12 (Or.inr (slot_ne (Or.inr (own_w21 hw)) (Or.inl (own_w63 hw)) (by decide) own_pf0 own_pf2))
    replace P4_Fld := P4_Fld.same W12
    replace P5_Fld := P5_Fld.other W12 (Or.inr (slot_ne (Or.inl (own_w65 hw)) (Or.inl (own_w63 hw)) (by decide) own_pf3 own_pf2))
    replace P6_Arv := P6_Arv.other W12 ne_t_x
    replace K0 := K0.wr W12 (Or.inl (List.mem_of_getElem? (i := 0) rfl))
    replace sz_h : h0.size ≤ h11.size := by rw [Wr.size W12]; exact sz_h
    refine giloadN (v := ((c0.toInt8.toInt32) &&& (255 : Int32))) X hx 59 (hb hby own_d9_58) rfl rfl ?_
    exact gRetP X hx hlk hret rfl (Or.inl ⟨rfl, by simp, _, rfl⟩) (hb hby own_d9_59) eT (by decide) (by decide) ⟨rfl, N, K0, P2_Fld, P3_Fld⟩
set_option maxRecDepth 65536 in
set_option maxHeartbeats 40000000 in
theorem rmSH2 (l : Launch) (Z : State) (a0 : Array Value) (hw : ∀ d ∈ tables_1, d.before a0 Z = true) (t : Addr) (kb : ClassId) (c0 : Int32) (c1 : Int32) (h0 : Heap) (n0 : Nat) (Z0 : n0 ≤ h0.size) (P0_Arv : Arv Z h0 t kb .byte (2 : Int32) [(.int (c0.toInt8.toInt32)), (.int (c1.toInt8.toInt32))] (.int 0)) :
    CtP l (⟨"jdk/internal/util/ArraysSupport", "signedHashCode", "(I[BII)I"⟩ : MethodName) jdk_48_method_5_code 6 (some .int) [] ({ frames := 0, cells := 0, slots := 0, locals := 0 } : Room) Z #[(.int (0 : Int32)), (.ref t), (.int (0 : Int32)), (.int (2 : Int32))] h0 (fun v h L => v = some (.int (((31 : Int32) * ((0 : Int32) + ((c0.toInt8.toInt32) &&& (255 : Int32)))) + ((c1.toInt8.toInt32) &&& (255 : Int32)))) ∧ Fr n0 L ∧ h = h0) := by
  refine CtP.walk (Ls := #[.val (.int (0 : Int32)), .val (.ref t), .val (.int (0 : Int32)), .val (.int (2 : Int32)), .unset, .unset]) (plainFor_of_name own_pn7) (fun m => by first | (simp [entryFrame, mkF, argsToLocals, Value.category]; done) | rfl) ?_
  intro p e s m below meth cc_ T hx hby hml hown hnm hret hlk hZ X eT
  have N := Fr.nil n0
  have sz_h : h0.size ≤ h0.size := Nat.le_refl _
  refine giloadN (v := (0 : Int32)) X hx 1 (hb hby own_d23_0) rfl rfl ?_
  refine giloadN (v := (2 : Int32)) X hx 2 (hb hby own_d23_1) rfl rfl ?_
  refine giadd X hx 3 (hb hby own_d23_2) rfl ?_
  rw [show ((0 : Int32) + (2 : Int32)) = (2 : Int32) from by decide]
  refine gistore X hx #[.val (.int (0 : Int32)), .val (.ref t), .val (.int (0 : Int32)), .val (.int (2 : Int32)), .val (.int (2 : Int32)), .unset] 5 (hb hby own_d23_3) rfl rfl ?_
  refine giloadN (v := (0 : Int32)) X hx 6 (hb hby own_d23_5) rfl rfl ?_
  refine gistore X hx #[.val (.int (0 : Int32)), .val (.ref t), .val (.int (0 : Int32)), .val (.int (2 : Int32)), .val (.int (2 : Int32)), .val (.int (0 : Int32))] 8 (hb hby own_d23_6) rfl rfl ?_
  refine giload (v := (0 : Int32)) X hx 10 (hb hby own_d23_8) rfl rfl ?_
  refine giload (v := (2 : Int32)) X hx 12 (hb hby own_d23_10) rfl rfl ?_
  refine gicmpNo X hx 15 (hb hby own_d23_12) rfl (by decide) ?_
  refine gbipush X hx (31 : Int32) 17 (hb hby own_d23_15) rfl rfl ?_
  refine giloadN (v := (0 : Int32)) X hx 18 (hb hby own_d23_17) rfl rfl ?_
  refine gimul X hx 19 (hb hby own_d23_18) rfl ?_
  rw [show ((31 : Int32) * (0 : Int32)) = (0 : Int32) from by decide]
  refine galoadN (v := (.ref t)) X hx 20 (hb hby own_d23_19) rfl rfl rfl ?_
  refine giload (v := (0 : Int32)) X hx 22 (hb hby own_d23_20) rfl rfl ?_
  refine gbaload X hx hZ eT P0_Arv (.int (c0.toInt8.toInt32)) (by decide) (by decide) rfl 23 (hb hby own_d23_22) rfl ?_
  refine gsipush X hx (255 : Int32) 26 (hb hby own_d23_23) rfl rfl ?_
  refine giand X hx 27 (hb hby own_d23_26) rfl ?_
  refine giadd X hx 28 (hb hby own_d23_27) rfl ?_
  refine gistoreN X hx #[.val (.int ((0 : Int32) + ((c0.toInt8.toInt32) &&& (255 : Int32)))), .val (.ref t), .val (.int (0 : Int32)), .val (.int (2 : Int32)), .val (.int (2 : Int32)), .val (.int (0 : Int32))] 29 (hb hby own_d23_28) rfl rfl ?_
  refine giinc X hx #[.val (.int ((0 : Int32) + ((c0.toInt8.toInt32) &&& (255 : Int32)))), .val (.ref t), .val (.int (0 : Int32)), .val (.int (2 : Int32)), .val (.int (2 : Int32)), .val (.int (1 : Int32))] 32 (hb hby own_d23_29) rfl rfl rfl ?_
  refine ggoto X hx 8 (hb hby own_d23_32) (by decide) (by decide) ?_
  refine giload (v := (1 : Int32)) X hx 10 (hb hby own_d23_8) rfl rfl ?_
  refine giload (v := (2 : Int32)) X hx 12 (hb hby own_d23_10) rfl rfl ?_
  refine gicmpNo X hx 15 (hb hby own_d23_12) rfl (by decide) ?_
  refine gbipush X hx (31 : Int32) 17 (hb hby own_d23_15) rfl rfl ?_
  refine giloadN (v := ((0 : Int32) + ((c0.toInt8.toInt32) &&& (255 : Int32)))) X hx 18 (hb hby own_d23_17) rfl rfl ?_
  refine gimul X hx 19 (hb hby own_d23_18) rfl ?_
  refine galoadN (v := (.ref t)) X hx 20 (hb hby own_d23_19) rfl rfl rfl ?_
  refine giload (v := (1 : Int32)) X hx 22 (hb hby own_d23_20) rfl rfl ?_
  refine gbaload X hx hZ eT P0_Arv (.int (c1.toInt8.toInt32)) (by decide) (by decide) rfl 23 (hb hby own_d23_22) rfl ?_
  refine gsipush X hx (255 : Int32) 26 (hb hby own_d23_23) rfl rfl ?_
  refine giand X hx 27 (hb hby own_d23_26) rfl ?_
  refine giadd X hx 28 (hb hby own_d23_27) rfl ?_
  refine gistoreN X hx #[.val (.int (((31 : Int32) * ((0 : Int32) + ((c0.toInt8.toInt32) &&& (255 : Int32)))) + ((c1.toInt8.toInt32) &&& (255 : Int32)))), .val (.ref t), .val (.int (0 : Int32)), .val (.int (2 : Int32)), .val (.int (2 : Int32)), .val (.int (1 : Int32))] 29 (hb hby own_d23_28) rfl rfl ?_
  refine giinc X hx #[.val (.int (((31 : Int32) * ((0 : Int32) + ((c0.toInt8.toInt32) &&& (255 : Int32)))) + ((c1.toInt8.toInt32) &&& (255 : Int32)))), .val (.ref t), .val (.int (0 : Int32)), .val (.int (2 : Int32)), .val (.int (2 : Int32)), .val (.int (2 : Int32))] 32 (hb hby own_d23_29) rfl rfl rfl ?_
  refine ggoto X hx 8 (hb hby own_d23_32) (by decide) (by decide) ?_
  refine giload (v := (2 : Int32)) X hx 10 (hb hby own_d23_8) rfl rfl ?_
  refine giload (v := (2 : Int32)) X hx 12 (hb hby own_d23_10) rfl rfl ?_
  refine gicmpYes X hx 35 (hb hby own_d23_12) (by decide) (by decide) (by decide) ?_
  refine giloadN (v := (((31 : Int32) * ((0 : Int32) + ((c0.toInt8.toInt32) &&& (255 : Int32)))) + ((c1.toInt8.toInt32) &&& (255 : Int32)))) X hx 36 (hb hby own_d23_35) rfl rfl ?_
  exact gRetP X hx hlk hret rfl (Or.inl ⟨rfl, by simp, _, rfl⟩) (hb hby own_d23_36) eT (by decide) (by decide) ⟨rfl, N, rfl⟩
set_option maxRecDepth 65536 in
set_option maxHeartbeats 40000000 in
theorem rmVH2 (l : Launch) (Z : State) (a0 : Array Value) (hw : ∀ d ∈ tables_1, d.before a0 Z = true) (t : Addr) (kb : ClassId) (c0 : Int32) (c1 : Int32) (h0 : Heap) (n0 : Nat) (Z0 : n0 ≤ h0.size) (P0_Arv : Arv Z h0 t kb .byte (2 : Int32) [(.int (c0.toInt8.toInt32)), (.int (c1.toInt8.toInt32))] (.int 0)) (hkb : Z.vm.findClass "[B" = some kb) :
    CtP l (⟨"jdk/internal/util/ArraysSupport", "vectorizedHashCode", "(Ljava/lang/Object;IIII)I"⟩ : MethodName) jdk_48_method_4_code 5 (some .int) [] ({ frames := 1, cells := 0, slots := 0, locals := 17 } : Room) Z #[(.ref t), (.int (0 : Int32)), (.int (2 : Int32)), (.int (0 : Int32)), (.int (4 : Int32))] h0 (fun v h L => v = some (.int (((31 : Int32) * ((0 : Int32) + ((c0.toInt8.toInt32) &&& (255 : Int32)))) + ((c1.toInt8.toInt32) &&& (255 : Int32)))) ∧ Fr n0 L ∧ h = h0) := by
  refine CtP.walk (Ls := #[.val (.ref t), .val (.int (0 : Int32)), .val (.int (2 : Int32)), .val (.int (0 : Int32)), .val (.int (4 : Int32))]) (plainFor_of_name own_pn7) (fun m => by first | (simp [entryFrame, mkF, argsToLocals, Value.category]; done) | rfl) ?_
  intro p e s m below meth cc_ T hx hby hml hown hnm hret hlk hZ X eT
  have N := Fr.nil n0
  have sz_h : h0.size ≤ h0.size := Nat.le_refl _
  refine giload (v := (4 : Int32)) X hx 2 (hb hby own_d22_0) rfl rfl ?_
  refine gtswIn X hx 44 (hb hby own_d22_2) (by decide) rfl (by decide) (by decide) ?_
  refine giloadN (v := (0 : Int32)) X hx 45 (hb hby own_d22_44) rfl rfl ?_
  refine galoadN (v := (.ref t)) X hx 46 (hb hby own_d22_45) rfl rfl rfl ?_
  refine gcast X hx hZ hown (own_w120 hw) eT (own_insB P0_Arv hkb) 49 (hb hby own_d22_46) rfl ?_
  clear X eT; clear T; intro T X eT
  refine giloadN (v := (0 : Int32)) X hx 50 (hb hby own_d22_49) rfl rfl ?_
  refine giloadN (v := (2 : Int32)) X hx 51 (hb hby own_d22_50) rfl rfl ?_
  refine gstatic (y := (⟨"jdk/internal/util/ArraysSupport", "signedHashCode", "(I[BII)I"⟩ : MethodName)) (argsL := [(.int (0 : Int32)), (.ref t), (.int (0 : Int32)), (.int (2 : Int32))]) (st := []) X hx hZ hown (own_w122 hw) (own_w123 hw) (own_w118 hw) (own_w124 hw) (by decide) (payP (W := 0) (rmSH2 l Z a0 hw (t) (kb) _ _ h0 n0 (Nat.le_trans Z0 sz_h) P0_Arv) hZ (own_w124 hw) (own_w118 hw) (by decide) (by decide)) eT (by rw [hml]; rfl) (lenOf own_pd6 rfl) rfl (Nat.le_of_eq rfl) 0 0 rfl rfl (by decide) (by decide) 54 (hb hby own_d22_51) rfl ?_
  clear X eT; clear T; intro v T h1 L2 Lc X eT hL hQ2
  obtain ⟨rfl, Nq, hh⟩ := hQ2
  replace N : Fr n0 L2 := by rw [hL]; exact Fr.app N Nq
  clear Nq hL
  replace hh := hh.symm; subst hh
  show Go p e below _ T (mkF m 54 #[.val (.ref t), .val (.int (0 : Int32)), .val (.int (2 : Int32)), .val (.int (0 : Int32)), .val (.int (4 : Int32))] [(.int (((31 : Int32) * ((0 : Int32) + ((c0.toInt8.toInt32) &&& (255 : Int32)))) + ((c1.toInt8.toInt32) &&& (255 : Int32))))])
  refine ggoto X hx 157 (hb hby own_d22_54) (by decide) (by decide) ?_
  exact gRetP X hx hlk hret rfl (Or.inl ⟨rfl, by simp, _, rfl⟩) (hb hby own_d22_157) eT (by decide) (by decide) ⟨rfl, N, rfl⟩
set_option maxRecDepth 65536 in
set_option maxHeartbeats 40000000 in
theorem rmLH2 (l : Launch) (Z : State) (a0 : Array Value) (hw : ∀ d ∈ tables_1, d.before a0 Z = true) (t : Addr) (kb : ClassId) (c0 : Int32) (c1 : Int32) (h0 : Heap) (n0 : Nat) (Z0 : n0 ≤ h0.size) (P0_Arv : Arv Z h0 t kb .byte (2 : Int32) [(.int (c0.toInt8.toInt32)), (.int (c1.toInt8.toInt32))] (.int 0)) (hkb : Z.vm.findClass "[B" = some kb) :
    CtP l (⟨"java/lang/StringLatin1", "hashCode", "([B)I"⟩ : MethodName) jdk_43_method_21_code 1 (some .int) [] ({ frames := 2, cells := 0, slots := 0, locals := 33 } : Room) Z #[(.ref t)] h0 (fun v h L => v = some (.int (((31 : Int32) * ((0 : Int32) + ((c0.toInt8.toInt32) &&& (255 : Int32)))) + ((c1.toInt8.toInt32) &&& (255 : Int32)))) ∧ Fr n0 L ∧ h = h0) := by
  refine CtP.walk (Ls := #[.val (.ref t)]) (plainFor_of_name own_pn0) (fun m => by first | (simp [entryFrame, mkF, argsToLocals, Value.category]; done) | rfl) ?_
  intro p e s m below meth cc_ T hx hby hml hown hnm hret hlk hZ X eT
  have N := Fr.nil n0
  have sz_h : h0.size ≤ h0.size := Nat.le_refl _
  refine galoadN (v := (.ref t)) X hx 1 (hb hby own_d11_0) rfl rfl rfl ?_
  refine garrlen X hx hZ eT P0_Arv 2 (hb hby own_d11_1) rfl ?_
  refine glswMiss X hx 42 (hb hby own_d11_2) (by decide) (by rfl) (by decide) (by decide) ?_
  refine galoadN (v := (.ref t)) X hx 43 (hb hby own_d11_42) rfl rfl rfl ?_
  refine giconst X hx (0 : Int32) 44 (hb hby own_d11_43) rfl rfl ?_
  refine galoadN (v := (.ref t)) X hx 45 (hb hby own_d11_44) rfl rfl rfl ?_
  refine garrlen X hx hZ eT P0_Arv 46 (hb hby own_d11_45) rfl ?_
  refine giconst X hx (0 : Int32) 47 (hb hby own_d11_46) rfl rfl ?_
  refine giconst X hx (4 : Int32) 48 (hb hby own_d11_47) rfl rfl ?_
  refine gstatic (y := (⟨"jdk/internal/util/ArraysSupport", "vectorizedHashCode", "(Ljava/lang/Object;IIII)I"⟩ : MethodName)) (argsL := [(.ref t), (.int (0 : Int32)), (.int (2 : Int32)), (.int (0 : Int32)), (.int (4 : Int32))]) (st := []) X hx hZ hown (own_w116 hw) (own_w117 hw) (own_w118 hw) (own_w119 hw) (by decide) (payP (W := 0) (rmVH2 l Z a0 hw (t) (kb) _ _ h0 n0 (Nat.le_trans Z0 sz_h) P0_Arv (hkb)) hZ (own_w119 hw) (own_w118 hw) (by decide) (by decide)) eT (by rw [hml]; rfl) (lenOf own_pd7 rfl) rfl (Nat.le_of_eq rfl) 0 0 rfl rfl (by decide) (by decide) 51 (hb hby own_d11_48) rfl ?_
  clear X eT; clear T; intro v T h1 L2 Lc X eT hL hQ2
  obtain ⟨rfl, Nq, hh⟩ := hQ2
  replace N : Fr n0 L2 := by rw [hL]; exact Fr.app N Nq
  clear Nq hL
  replace hh := hh.symm; subst hh
  show Go p e below _ T (mkF m 51 #[.val (.ref t)] [(.int (((31 : Int32) * ((0 : Int32) + ((c0.toInt8.toInt32) &&& (255 : Int32)))) + ((c1.toInt8.toInt32) &&& (255 : Int32))))])
  exact gRetP X hx hlk hret rfl (Or.inl ⟨rfl, by simp, _, rfl⟩) (hb hby own_d11_51) eT (by decide) (by decide) ⟨rfl, N, rfl⟩
set_option maxRecDepth 65536 in
set_option maxHeartbeats 40000000 in
theorem rmHC2 (l : Launch) (Z : State) (a0 : Array Value) (hw : ∀ d ∈ tables_1, d.before a0 Z = true) (x : Addr) (t : Addr) (kb : ClassId) (G1 : Int32) (c0 : Int32) (c1 : Int32) (h0 : Heap) (n0 : Nat) (Z0 : n0 ≤ h0.size) (ge_x : n0 ≤ x) (P0_Old : Old Z n0 h0) (P1_Exa : Exa Z h0 x "java/lang/String") (P2_Fld : Fld Z h0 x "java/lang/String" "coder" "B" (.int (0 : Int32))) (P3_Fld : Fld Z h0 x "java/lang/String" "value" "[B" (.ref t)) (P4_Fld : Fld Z h0 x "java/lang/String" "hash" "I" (.int (0 : Int32))) (P5_Fld : Fld Z h0 x "java/lang/String" "hashIsZero" "Z" (.int (0 : Int32))) (P6_Arv : Arv Z h0 t kb .byte (2 : Int32) [(.int (c0.toInt8.toInt32)), (.int (c1.toInt8.toInt32))] (.int 0)) (O2 : Sta Z Z.heap "java/lang/String" "COMPACT_STRINGS" "Z" (.int G1)) (P5 : ¬ G1 = (0 : Int32)) (hkb : Z.vm.findClass "[B" = some kb) :
    CtP l (⟨"java/lang/String", "hashCode", "()I"⟩ : MethodName) jdk_42_method_78_code 2 (some .int) [] ({ frames := 3, cells := 0, slots := 0, locals := 45 } : Room) Z #[(.ref x)] h0 (fun v h L => v = some (.int (((31 : Int32) * ((0 : Int32) + ((c0.toInt8.toInt32) &&& (255 : Int32)))) + ((c1.toInt8.toInt32) &&& (255 : Int32)))) ∧ Fr n0 L ∧ Keep h0 h [x] ∧ Fld Z h x "java/lang/String" "coder" "B" (.int (0 : Int32)) ∧ Fld Z h x "java/lang/String" "value" "[B" (.ref t)) := by
  refine CtP.walk (Ls := #[.val (.ref x), .unset]) own_pn6 (fun m => by first | (simp [entryFrame, mkF, argsToLocals, Value.category]; done) | rfl) ?_
  intro p e s m below meth cc_ T hx hby hml hown hnm hret hlk hZ X eT
  have N := Fr.nil n0
  have K0 := Keep.refl h0 [x]
  have sz_h : h0.size ≤ h0.size := Nat.le_refl _
  refine galoadN (v := (.ref x)) X hx 1 (hb hby own_d9_0) rfl rfl rfl ?_
  refine ggetF X hx hZ (host := "") hown (Or.inl (own_w62 hw)) Via.refl eT P4_Fld 4 (hb hby own_d9_1) rfl ?_
  clear X eT; clear T; intro T X eT
  refine gistoreN X hx #[.val (.ref x), .val (.int (0 : Int32))] 5 (hb hby own_d9_4) rfl rfl ?_
  refine giloadN (v := (0 : Int32)) X hx 6 (hb hby own_d9_5) rfl rfl ?_
  refine gifNo X hx 9 (hb hby own_d9_6) rfl (by decide) ?_
  refine galoadN (v := (.ref x)) X hx 10 (hb hby own_d9_9) rfl rfl rfl ?_
  refine ggetF X hx hZ (host := "") hown (Or.inl (own_w64 hw)) Via.refl eT P5_Fld 13 (hb hby own_d9_10) rfl ?_
  clear X eT; clear T; intro T X eT
  refine gifNo X hx 16 (hb hby own_d9_13) rfl (by decide) ?_
  refine galoadN (v := (.ref x)) X hx 17 (hb hby own_d9_16) rfl rfl rfl ?_
  refine gvirtual (y := (⟨"java/lang/String", "isLatin1", "()Z"⟩ : MethodName)) (z := (⟨"java/lang/String", "isLatin1", "()Z"⟩ : MethodName)) (a := x) (argsL := []) (st := []) X hx hZ hown (own_w66 hw) (own_w67 hw) (notFace_of_selects (args := #[]) (mvT hZ (own_w69 hw))) (own_w69 hw) (own_w68 hw) (by decide) P1_Exa (payP (W := 0) (rm10 l Z a0 hw (x) (G1) h0 n0 (Nat.le_trans Z0 sz_h) P0_Old P2_Fld (O2) (P5)) hZ (own_w70 hw) (own_w7 hw) (by decide) (by decide)) eT (by rw [hml]; rfl) (lenOf own_pd4 rfl) rfl (Nat.le_of_eq rfl) 0 0 rfl rfl (by decide) (by decide) 20 (hb hby own_d9_17) rfl ?_
  clear X eT; clear T; intro v T h1 L2 Lc X eT hL hQ2
  obtain ⟨rfl, Nq, hh⟩ := hQ2
  replace N : Fr n0 L2 := by rw [hL]; exact Fr.app N Nq
  clear Nq hL
  replace hh := hh.symm; subst hh
  show Go p e below _ T (mkF m 20 #[.val (.ref x), .val (.int (0 : Int32))] [(.int (1 : Int32))])
  refine gifNo X hx 23 (hb hby own_d9_20) rfl (by decide) ?_
  refine galoadN (v := (.ref x)) X hx 24 (hb hby own_d9_23) rfl rfl rfl ?_
  refine ggetF X hx hZ (host := "") hown (Or.inl (own_w25 hw)) Via.refl eT P3_Fld 27 (hb hby own_d9_24) rfl ?_
  clear X eT; clear T; intro T X eT
  refine gstatic (y := (⟨"java/lang/StringLatin1", "hashCode", "([B)I"⟩ : MethodName)) (argsL := [(.ref t)]) (st := []) X hx hZ hown (own_w72 hw) (own_w73 hw) (own_w74 hw) (own_w75 hw) (by decide) (payP (W := 0) (rmLH2 l Z a0 hw (t) (kb) _ _ h0 n0 (Nat.le_trans Z0 sz_h) P6_Arv (hkb)) hZ (own_w75 hw) (own_w74 hw) (by decide) (by decide)) eT (by rw [hml]; rfl) (lenOf own_pd5 rfl) rfl (Nat.le_of_eq rfl) 0 0 rfl rfl (by decide) (by decide) 30 (hb hby own_d9_27) rfl ?_
  clear X eT; clear T; intro v T h5 L2 Lc X eT hL hQ6
  obtain ⟨rfl, Nq, hh⟩ := hQ6
  replace N : Fr n0 L2 := by rw [hL]; exact Fr.app N Nq
  clear Nq hL
  replace hh := hh.symm; subst hh
  show Go p e below _ T (mkF m 30 #[.val (.ref x), .val (.int (0 : Int32))] [(.int (((31 : Int32) * ((0 : Int32) + ((c0.toInt8.toInt32) &&& (255 : Int32)))) + ((c1.toInt8.toInt32) &&& (255 : Int32))))])
  refine ggoto X hx 40 (hb hby own_d9_30) (by decide) (by decide) ?_
  refine gistoreN X hx #[.val (.ref x), .val (.int (((31 : Int32) * ((0 : Int32) + ((c0.toInt8.toInt32) &&& (255 : Int32)))) + ((c1.toInt8.toInt32) &&& (255 : Int32))))] 41 (hb hby own_d9_40) rfl rfl ?_
  refine giloadN (v := (((31 : Int32) * ((0 : Int32) + ((c0.toInt8.toInt32) &&& (255 : Int32)))) + ((c1.toInt8.toInt32) &&& (255 : Int32)))) X hx 42 (hb hby own_d9_41) rfl rfl ?_
  rcases Decidable.em ((((31 : Int32) * ((0 : Int32) + ((c0.toInt8.toInt32) &&& (255 : Int32)))) + ((c1.toInt8.toInt32) &&& (255 : Int32))) = (0 : Int32)) with hz42 | hz42
  · refine gifNo X hx 45 (hb hby own_d9_42) rfl ((if0 _ _).trans (teq hz42).2) ?_
    refine galoadN (v := (.ref x)) X hx 46 (hb hby own_d9_45) rfl rfl rfl ?_
    refine giconst X hx (1 : Int32) 47 (hb hby own_d9_46) rfl rfl ?_
    refine gputF X hx hZ (host := "") hown (Or.inl (own_w64 hw)) Via.refl eT P5_Fld P1_Exa (Or.inl (own_w65 hw)) (own_w6 hw) (ty := .boolean) own_pf3 rfl rfl N ge_x 50 (hb hby own_d9_47) rfl ?_
    clear X eT N; clear T; intro T h9 L X eT N W10
    have ne_t_x : t ≠ x := Ne.symm (Exa.neArv P1_Exa P6_Arv (own_w6 hw))
    replace P0_Old := P0_Old.wr W10 ge_x
    replace P1_Exa := P1_Exa.wr W10
    replace P2_Fld := P2_Fld.other W10 (Or.inr (slot_ne (Or.inr (own_w22 hw)) (Or.inl (own_w65 hw)) (by decide) own_pf1 own_pf3))
    replace P3_Fld := P3_Fld.other W10 (Or.inr (slot_ne (Or.inr (own_w21 hw)) (Or.inl (own_w65 hw)) (by decide) own_pf0 own_pf3))
    replace P4_Fld := P4_Fld.other W10 (Or.inr (slot_ne (Or.inl (own_w63 hw)) (Or.inl (own_w65 hw)) (by decide) own_pf2 own_pf3))
    replace P5_Fld := P5_Fld.same W10
    replace P6_Arv := P6_Arv.other W10 ne_t_x
    replace K0 := K0.wr W10 (Or.inl (List.mem_of_getElem? (i := 0) rfl))
    replace sz_h : h0.size ≤ h9.size := by rw [Wr.size W10]; exact sz_h
    refine ggoto X hx 58 (hb hby own_d9_50) (by decide) (by decide) ?_
    refine giloadN (v := (((31 : Int32) * ((0 : Int32) + ((c0.toInt8.toInt32) &&& (255 : Int32)))) + ((c1.toInt8.toInt32) &&& (255 : Int32)))) X hx 59 (hb hby own_d9_58) rfl rfl ?_
    exact gRetP X hx hlk hret rfl (Or.inl ⟨rfl, by simp, _, rfl⟩) (hb hby own_d9_59) eT (by decide) (by decide) ⟨rfl, N, K0, P2_Fld, P3_Fld⟩
  · refine gifYes X hx 53 (hb hby own_d9_42) ((if0 _ _).trans (feq hz42).2) (by decide) (by decide) ?_
    refine galoadN (v := (.ref x)) X hx 54 (hb hby own_d9_53) rfl rfl rfl ?_
    refine giloadN (v := (((31 : Int32) * ((0 : Int32) + ((c0.toInt8.toInt32) &&& (255 : Int32)))) + ((c1.toInt8.toInt32) &&& (255 : Int32)))) X hx 55 (hb hby own_d9_54) rfl rfl ?_
    refine gputF X hx hZ (host := "") hown (Or.inl (own_w62 hw)) Via.refl eT P4_Fld P1_Exa (Or.inl (own_w63 hw)) (own_w6 hw) (ty := .int) own_pf2 rfl rfl N ge_x 58 (hb hby own_d9_55) rfl ?_
    clear X eT N; clear T; intro T h11 L X eT N W12
    have ne_t_x : t ≠ x := Ne.symm (Exa.neArv P1_Exa P6_Arv (own_w6 hw))
    replace P0_Old := P0_Old.wr W12 ge_x
    replace P1_Exa := P1_Exa.wr W12
    replace P2_Fld := P2_Fld.other W12 (Or.inr (slot_ne (Or.inr (own_w22 hw)) (Or.inl (own_w63 hw)) (by decide) own_pf1 own_pf2))
    replace P3_Fld := P3_Fld.other W12 (Or.inr (slot_ne (Or.inr (own_w21 hw)) (Or.inl (own_w63 hw)) (by decide) own_pf0 own_pf2))
    replace P4_Fld := P4_Fld.same W12
    replace P5_Fld := P5_Fld.other W12 (Or.inr (slot_ne (Or.inl (own_w65 hw)) (Or.inl (own_w63 hw)) (by decide) own_pf3 own_pf2))
    replace P6_Arv := P6_Arv.other W12 ne_t_x
    replace K0 := K0.wr W12 (Or.inl (List.mem_of_getElem? (i := 0) rfl))
    replace sz_h : h0.size ≤ h11.size := by rw [Wr.size W12]; exact sz_h
    refine giloadN (v := (((31 : Int32) * ((0 : Int32) + ((c0.toInt8.toInt32) &&& (255 : Int32)))) + ((c1.toInt8.toInt32) &&& (255 : Int32)))) X hx 59 (hb hby own_d9_58) rfl rfl ?_
    exact gRetP X hx hlk hret rfl (Or.inl ⟨rfl, by simp, _, rfl⟩) (hb hby own_d9_59) eT (by decide) (by decide) ⟨rfl, N, K0, P2_Fld, P3_Fld⟩
set_option maxRecDepth 65536 in
set_option maxHeartbeats 40000000 in
theorem rmSH3 (l : Launch) (Z : State) (a0 : Array Value) (hw : ∀ d ∈ tables_1, d.before a0 Z = true) (t : Addr) (kb : ClassId) (c0 : Int32) (c1 : Int32) (c2 : Int32) (h0 : Heap) (n0 : Nat) (Z0 : n0 ≤ h0.size) (P0_Arv : Arv Z h0 t kb .byte (3 : Int32) [(.int (c0.toInt8.toInt32)), (.int (c1.toInt8.toInt32)), (.int (c2.toInt8.toInt32))] (.int 0)) :
    CtP l (⟨"jdk/internal/util/ArraysSupport", "signedHashCode", "(I[BII)I"⟩ : MethodName) jdk_48_method_5_code 6 (some .int) [] ({ frames := 0, cells := 0, slots := 0, locals := 0 } : Room) Z #[(.int (0 : Int32)), (.ref t), (.int (0 : Int32)), (.int (3 : Int32))] h0 (fun v h L => v = some (.int (((31 : Int32) * (((31 : Int32) * ((0 : Int32) + ((c0.toInt8.toInt32) &&& (255 : Int32)))) + ((c1.toInt8.toInt32) &&& (255 : Int32)))) + ((c2.toInt8.toInt32) &&& (255 : Int32)))) ∧ Fr n0 L ∧ h = h0) := by
  refine CtP.walk (Ls := #[.val (.int (0 : Int32)), .val (.ref t), .val (.int (0 : Int32)), .val (.int (3 : Int32)), .unset, .unset]) (plainFor_of_name own_pn7) (fun m => by first | (simp [entryFrame, mkF, argsToLocals, Value.category]; done) | rfl) ?_
  intro p e s m below meth cc_ T hx hby hml hown hnm hret hlk hZ X eT
  have N := Fr.nil n0
  have sz_h : h0.size ≤ h0.size := Nat.le_refl _
  refine giloadN (v := (0 : Int32)) X hx 1 (hb hby own_d23_0) rfl rfl ?_
  refine giloadN (v := (3 : Int32)) X hx 2 (hb hby own_d23_1) rfl rfl ?_
  refine giadd X hx 3 (hb hby own_d23_2) rfl ?_
  rw [show ((0 : Int32) + (3 : Int32)) = (3 : Int32) from by decide]
  refine gistore X hx #[.val (.int (0 : Int32)), .val (.ref t), .val (.int (0 : Int32)), .val (.int (3 : Int32)), .val (.int (3 : Int32)), .unset] 5 (hb hby own_d23_3) rfl rfl ?_
  refine giloadN (v := (0 : Int32)) X hx 6 (hb hby own_d23_5) rfl rfl ?_
  refine gistore X hx #[.val (.int (0 : Int32)), .val (.ref t), .val (.int (0 : Int32)), .val (.int (3 : Int32)), .val (.int (3 : Int32)), .val (.int (0 : Int32))] 8 (hb hby own_d23_6) rfl rfl ?_
  refine giload (v := (0 : Int32)) X hx 10 (hb hby own_d23_8) rfl rfl ?_
  refine giload (v := (3 : Int32)) X hx 12 (hb hby own_d23_10) rfl rfl ?_
  refine gicmpNo X hx 15 (hb hby own_d23_12) rfl (by decide) ?_
  refine gbipush X hx (31 : Int32) 17 (hb hby own_d23_15) rfl rfl ?_
  refine giloadN (v := (0 : Int32)) X hx 18 (hb hby own_d23_17) rfl rfl ?_
  refine gimul X hx 19 (hb hby own_d23_18) rfl ?_
  rw [show ((31 : Int32) * (0 : Int32)) = (0 : Int32) from by decide]
  refine galoadN (v := (.ref t)) X hx 20 (hb hby own_d23_19) rfl rfl rfl ?_
  refine giload (v := (0 : Int32)) X hx 22 (hb hby own_d23_20) rfl rfl ?_
  refine gbaload X hx hZ eT P0_Arv (.int (c0.toInt8.toInt32)) (by decide) (by decide) rfl 23 (hb hby own_d23_22) rfl ?_
  refine gsipush X hx (255 : Int32) 26 (hb hby own_d23_23) rfl rfl ?_
  refine giand X hx 27 (hb hby own_d23_26) rfl ?_
  refine giadd X hx 28 (hb hby own_d23_27) rfl ?_
  refine gistoreN X hx #[.val (.int ((0 : Int32) + ((c0.toInt8.toInt32) &&& (255 : Int32)))), .val (.ref t), .val (.int (0 : Int32)), .val (.int (3 : Int32)), .val (.int (3 : Int32)), .val (.int (0 : Int32))] 29 (hb hby own_d23_28) rfl rfl ?_
  refine giinc X hx #[.val (.int ((0 : Int32) + ((c0.toInt8.toInt32) &&& (255 : Int32)))), .val (.ref t), .val (.int (0 : Int32)), .val (.int (3 : Int32)), .val (.int (3 : Int32)), .val (.int (1 : Int32))] 32 (hb hby own_d23_29) rfl rfl rfl ?_
  refine ggoto X hx 8 (hb hby own_d23_32) (by decide) (by decide) ?_
  refine giload (v := (1 : Int32)) X hx 10 (hb hby own_d23_8) rfl rfl ?_
  refine giload (v := (3 : Int32)) X hx 12 (hb hby own_d23_10) rfl rfl ?_
  refine gicmpNo X hx 15 (hb hby own_d23_12) rfl (by decide) ?_
  refine gbipush X hx (31 : Int32) 17 (hb hby own_d23_15) rfl rfl ?_
  refine giloadN (v := ((0 : Int32) + ((c0.toInt8.toInt32) &&& (255 : Int32)))) X hx 18 (hb hby own_d23_17) rfl rfl ?_
  refine gimul X hx 19 (hb hby own_d23_18) rfl ?_
  refine galoadN (v := (.ref t)) X hx 20 (hb hby own_d23_19) rfl rfl rfl ?_
  refine giload (v := (1 : Int32)) X hx 22 (hb hby own_d23_20) rfl rfl ?_
  refine gbaload X hx hZ eT P0_Arv (.int (c1.toInt8.toInt32)) (by decide) (by decide) rfl 23 (hb hby own_d23_22) rfl ?_
  refine gsipush X hx (255 : Int32) 26 (hb hby own_d23_23) rfl rfl ?_
  refine giand X hx 27 (hb hby own_d23_26) rfl ?_
  refine giadd X hx 28 (hb hby own_d23_27) rfl ?_
  refine gistoreN X hx #[.val (.int (((31 : Int32) * ((0 : Int32) + ((c0.toInt8.toInt32) &&& (255 : Int32)))) + ((c1.toInt8.toInt32) &&& (255 : Int32)))), .val (.ref t), .val (.int (0 : Int32)), .val (.int (3 : Int32)), .val (.int (3 : Int32)), .val (.int (1 : Int32))] 29 (hb hby own_d23_28) rfl rfl ?_
  refine giinc X hx #[.val (.int (((31 : Int32) * ((0 : Int32) + ((c0.toInt8.toInt32) &&& (255 : Int32)))) + ((c1.toInt8.toInt32) &&& (255 : Int32)))), .val (.ref t), .val (.int (0 : Int32)), .val (.int (3 : Int32)), .val (.int (3 : Int32)), .val (.int (2 : Int32))] 32 (hb hby own_d23_29) rfl rfl rfl ?_
  refine ggoto X hx 8 (hb hby own_d23_32) (by decide) (by decide) ?_
  refine giload (v := (2 : Int32)) X hx 10 (hb hby own_d23_8) rfl rfl ?_
  refine giload (v := (3 : Int32)) X hx 12 (hb hby own_d23_10) rfl rfl ?_
  refine gicmpNo X hx 15 (hb hby own_d23_12) rfl (by decide) ?_
  refine gbipush X hx (31 : Int32) 17 (hb hby own_d23_15) rfl rfl ?_
  refine giloadN (v := (((31 : Int32) * ((0 : Int32) + ((c0.toInt8.toInt32) &&& (255 : Int32)))) + ((c1.toInt8.toInt32) &&& (255 : Int32)))) X hx 18 (hb hby own_d23_17) rfl rfl ?_
  refine gimul X hx 19 (hb hby own_d23_18) rfl ?_
  refine galoadN (v := (.ref t)) X hx 20 (hb hby own_d23_19) rfl rfl rfl ?_
  refine giload (v := (2 : Int32)) X hx 22 (hb hby own_d23_20) rfl rfl ?_
  refine gbaload X hx hZ eT P0_Arv (.int (c2.toInt8.toInt32)) (by decide) (by decide) rfl 23 (hb hby own_d23_22) rfl ?_
  refine gsipush X hx (255 : Int32) 26 (hb hby own_d23_23) rfl rfl ?_
  refine giand X hx 27 (hb hby own_d23_26) rfl ?_
  refine giadd X hx 28 (hb hby own_d23_27) rfl ?_
  refine gistoreN X hx #[.val (.int (((31 : Int32) * (((31 : Int32) * ((0 : Int32) + ((c0.toInt8.toInt32) &&& (255 : Int32)))) + ((c1.toInt8.toInt32) &&& (255 : Int32)))) + ((c2.toInt8.toInt32) &&& (255 : Int32)))), .val (.ref t), .val (.int (0 : Int32)), .val (.int (3 : Int32)), .val (.int (3 : Int32)), .val (.int (2 : Int32))] 29 (hb hby own_d23_28) rfl rfl ?_
  refine giinc X hx #[.val (.int (((31 : Int32) * (((31 : Int32) * ((0 : Int32) + ((c0.toInt8.toInt32) &&& (255 : Int32)))) + ((c1.toInt8.toInt32) &&& (255 : Int32)))) + ((c2.toInt8.toInt32) &&& (255 : Int32)))), .val (.ref t), .val (.int (0 : Int32)), .val (.int (3 : Int32)), .val (.int (3 : Int32)), .val (.int (3 : Int32))] 32 (hb hby own_d23_29) rfl rfl rfl ?_
  refine ggoto X hx 8 (hb hby own_d23_32) (by decide) (by decide) ?_
  refine giload (v := (3 : Int32)) X hx 10 (hb hby own_d23_8) rfl rfl ?_
  refine giload (v := (3 : Int32)) X hx 12 (hb hby own_d23_10) rfl rfl ?_
  refine gicmpYes X hx 35 (hb hby own_d23_12) (by decide) (by decide) (by decide) ?_
  refine giloadN (v := (((31 : Int32) * (((31 : Int32) * ((0 : Int32) + ((c0.toInt8.toInt32) &&& (255 : Int32)))) + ((c1.toInt8.toInt32) &&& (255 : Int32)))) + ((c2.toInt8.toInt32) &&& (255 : Int32)))) X hx 36 (hb hby own_d23_35) rfl rfl ?_
  exact gRetP X hx hlk hret rfl (Or.inl ⟨rfl, by simp, _, rfl⟩) (hb hby own_d23_36) eT (by decide) (by decide) ⟨rfl, N, rfl⟩
set_option maxRecDepth 65536 in
set_option maxHeartbeats 40000000 in
theorem rmVH3 (l : Launch) (Z : State) (a0 : Array Value) (hw : ∀ d ∈ tables_1, d.before a0 Z = true) (t : Addr) (kb : ClassId) (c0 : Int32) (c1 : Int32) (c2 : Int32) (h0 : Heap) (n0 : Nat) (Z0 : n0 ≤ h0.size) (P0_Arv : Arv Z h0 t kb .byte (3 : Int32) [(.int (c0.toInt8.toInt32)), (.int (c1.toInt8.toInt32)), (.int (c2.toInt8.toInt32))] (.int 0)) (hkb : Z.vm.findClass "[B" = some kb) :
    CtP l (⟨"jdk/internal/util/ArraysSupport", "vectorizedHashCode", "(Ljava/lang/Object;IIII)I"⟩ : MethodName) jdk_48_method_4_code 5 (some .int) [] ({ frames := 1, cells := 0, slots := 0, locals := 17 } : Room) Z #[(.ref t), (.int (0 : Int32)), (.int (3 : Int32)), (.int (0 : Int32)), (.int (4 : Int32))] h0 (fun v h L => v = some (.int (((31 : Int32) * (((31 : Int32) * ((0 : Int32) + ((c0.toInt8.toInt32) &&& (255 : Int32)))) + ((c1.toInt8.toInt32) &&& (255 : Int32)))) + ((c2.toInt8.toInt32) &&& (255 : Int32)))) ∧ Fr n0 L ∧ h = h0) := by
  refine CtP.walk (Ls := #[.val (.ref t), .val (.int (0 : Int32)), .val (.int (3 : Int32)), .val (.int (0 : Int32)), .val (.int (4 : Int32))]) (plainFor_of_name own_pn7) (fun m => by first | (simp [entryFrame, mkF, argsToLocals, Value.category]; done) | rfl) ?_
  intro p e s m below meth cc_ T hx hby hml hown hnm hret hlk hZ X eT
  have N := Fr.nil n0
  have sz_h : h0.size ≤ h0.size := Nat.le_refl _
  refine giload (v := (4 : Int32)) X hx 2 (hb hby own_d22_0) rfl rfl ?_
  refine gtswIn X hx 44 (hb hby own_d22_2) (by decide) rfl (by decide) (by decide) ?_
  refine giloadN (v := (0 : Int32)) X hx 45 (hb hby own_d22_44) rfl rfl ?_
  refine galoadN (v := (.ref t)) X hx 46 (hb hby own_d22_45) rfl rfl rfl ?_
  refine gcast X hx hZ hown (own_w120 hw) eT (own_insB P0_Arv hkb) 49 (hb hby own_d22_46) rfl ?_
  clear X eT; clear T; intro T X eT
  refine giloadN (v := (0 : Int32)) X hx 50 (hb hby own_d22_49) rfl rfl ?_
  refine giloadN (v := (3 : Int32)) X hx 51 (hb hby own_d22_50) rfl rfl ?_
  refine gstatic (y := (⟨"jdk/internal/util/ArraysSupport", "signedHashCode", "(I[BII)I"⟩ : MethodName)) (argsL := [(.int (0 : Int32)), (.ref t), (.int (0 : Int32)), (.int (3 : Int32))]) (st := []) X hx hZ hown (own_w122 hw) (own_w123 hw) (own_w118 hw) (own_w124 hw) (by decide) (payP (W := 0) (rmSH3 l Z a0 hw (t) (kb) _ _ _ h0 n0 (Nat.le_trans Z0 sz_h) P0_Arv) hZ (own_w124 hw) (own_w118 hw) (by decide) (by decide)) eT (by rw [hml]; rfl) (lenOf own_pd6 rfl) rfl (Nat.le_of_eq rfl) 0 0 rfl rfl (by decide) (by decide) 54 (hb hby own_d22_51) rfl ?_
  clear X eT; clear T; intro v T h1 L2 Lc X eT hL hQ2
  obtain ⟨rfl, Nq, hh⟩ := hQ2
  replace N : Fr n0 L2 := by rw [hL]; exact Fr.app N Nq
  clear Nq hL
  replace hh := hh.symm; subst hh
  show Go p e below _ T (mkF m 54 #[.val (.ref t), .val (.int (0 : Int32)), .val (.int (3 : Int32)), .val (.int (0 : Int32)), .val (.int (4 : Int32))] [(.int (((31 : Int32) * (((31 : Int32) * ((0 : Int32) + ((c0.toInt8.toInt32) &&& (255 : Int32)))) + ((c1.toInt8.toInt32) &&& (255 : Int32)))) + ((c2.toInt8.toInt32) &&& (255 : Int32))))])
  refine ggoto X hx 157 (hb hby own_d22_54) (by decide) (by decide) ?_
  exact gRetP X hx hlk hret rfl (Or.inl ⟨rfl, by simp, _, rfl⟩) (hb hby own_d22_157) eT (by decide) (by decide) ⟨rfl, N, rfl⟩
set_option maxRecDepth 65536 in
set_option maxHeartbeats 40000000 in
theorem rmLH3 (l : Launch) (Z : State) (a0 : Array Value) (hw : ∀ d ∈ tables_1, d.before a0 Z = true) (t : Addr) (kb : ClassId) (c0 : Int32) (c1 : Int32) (c2 : Int32) (h0 : Heap) (n0 : Nat) (Z0 : n0 ≤ h0.size) (P0_Arv : Arv Z h0 t kb .byte (3 : Int32) [(.int (c0.toInt8.toInt32)), (.int (c1.toInt8.toInt32)), (.int (c2.toInt8.toInt32))] (.int 0)) (hkb : Z.vm.findClass "[B" = some kb) :
    CtP l (⟨"java/lang/StringLatin1", "hashCode", "([B)I"⟩ : MethodName) jdk_43_method_21_code 1 (some .int) [] ({ frames := 2, cells := 0, slots := 0, locals := 33 } : Room) Z #[(.ref t)] h0 (fun v h L => v = some (.int (((31 : Int32) * (((31 : Int32) * ((0 : Int32) + ((c0.toInt8.toInt32) &&& (255 : Int32)))) + ((c1.toInt8.toInt32) &&& (255 : Int32)))) + ((c2.toInt8.toInt32) &&& (255 : Int32)))) ∧ Fr n0 L ∧ h = h0) := by
  refine CtP.walk (Ls := #[.val (.ref t)]) (plainFor_of_name own_pn0) (fun m => by first | (simp [entryFrame, mkF, argsToLocals, Value.category]; done) | rfl) ?_
  intro p e s m below meth cc_ T hx hby hml hown hnm hret hlk hZ X eT
  have N := Fr.nil n0
  have sz_h : h0.size ≤ h0.size := Nat.le_refl _
  refine galoadN (v := (.ref t)) X hx 1 (hb hby own_d11_0) rfl rfl rfl ?_
  refine garrlen X hx hZ eT P0_Arv 2 (hb hby own_d11_1) rfl ?_
  refine glswMiss X hx 42 (hb hby own_d11_2) (by decide) (by rfl) (by decide) (by decide) ?_
  refine galoadN (v := (.ref t)) X hx 43 (hb hby own_d11_42) rfl rfl rfl ?_
  refine giconst X hx (0 : Int32) 44 (hb hby own_d11_43) rfl rfl ?_
  refine galoadN (v := (.ref t)) X hx 45 (hb hby own_d11_44) rfl rfl rfl ?_
  refine garrlen X hx hZ eT P0_Arv 46 (hb hby own_d11_45) rfl ?_
  refine giconst X hx (0 : Int32) 47 (hb hby own_d11_46) rfl rfl ?_
  refine giconst X hx (4 : Int32) 48 (hb hby own_d11_47) rfl rfl ?_
  refine gstatic (y := (⟨"jdk/internal/util/ArraysSupport", "vectorizedHashCode", "(Ljava/lang/Object;IIII)I"⟩ : MethodName)) (argsL := [(.ref t), (.int (0 : Int32)), (.int (3 : Int32)), (.int (0 : Int32)), (.int (4 : Int32))]) (st := []) X hx hZ hown (own_w116 hw) (own_w117 hw) (own_w118 hw) (own_w119 hw) (by decide) (payP (W := 0) (rmVH3 l Z a0 hw (t) (kb) _ _ _ h0 n0 (Nat.le_trans Z0 sz_h) P0_Arv (hkb)) hZ (own_w119 hw) (own_w118 hw) (by decide) (by decide)) eT (by rw [hml]; rfl) (lenOf own_pd7 rfl) rfl (Nat.le_of_eq rfl) 0 0 rfl rfl (by decide) (by decide) 51 (hb hby own_d11_48) rfl ?_
  clear X eT; clear T; intro v T h1 L2 Lc X eT hL hQ2
  obtain ⟨rfl, Nq, hh⟩ := hQ2
  replace N : Fr n0 L2 := by rw [hL]; exact Fr.app N Nq
  clear Nq hL
  replace hh := hh.symm; subst hh
  show Go p e below _ T (mkF m 51 #[.val (.ref t)] [(.int (((31 : Int32) * (((31 : Int32) * ((0 : Int32) + ((c0.toInt8.toInt32) &&& (255 : Int32)))) + ((c1.toInt8.toInt32) &&& (255 : Int32)))) + ((c2.toInt8.toInt32) &&& (255 : Int32))))])
  exact gRetP X hx hlk hret rfl (Or.inl ⟨rfl, by simp, _, rfl⟩) (hb hby own_d11_51) eT (by decide) (by decide) ⟨rfl, N, rfl⟩
set_option maxRecDepth 65536 in
set_option maxHeartbeats 40000000 in
theorem rmHC3 (l : Launch) (Z : State) (a0 : Array Value) (hw : ∀ d ∈ tables_1, d.before a0 Z = true) (x : Addr) (t : Addr) (kb : ClassId) (G1 : Int32) (c0 : Int32) (c1 : Int32) (c2 : Int32) (h0 : Heap) (n0 : Nat) (Z0 : n0 ≤ h0.size) (ge_x : n0 ≤ x) (P0_Old : Old Z n0 h0) (P1_Exa : Exa Z h0 x "java/lang/String") (P2_Fld : Fld Z h0 x "java/lang/String" "coder" "B" (.int (0 : Int32))) (P3_Fld : Fld Z h0 x "java/lang/String" "value" "[B" (.ref t)) (P4_Fld : Fld Z h0 x "java/lang/String" "hash" "I" (.int (0 : Int32))) (P5_Fld : Fld Z h0 x "java/lang/String" "hashIsZero" "Z" (.int (0 : Int32))) (P6_Arv : Arv Z h0 t kb .byte (3 : Int32) [(.int (c0.toInt8.toInt32)), (.int (c1.toInt8.toInt32)), (.int (c2.toInt8.toInt32))] (.int 0)) (O2 : Sta Z Z.heap "java/lang/String" "COMPACT_STRINGS" "Z" (.int G1)) (P5 : ¬ G1 = (0 : Int32)) (hkb : Z.vm.findClass "[B" = some kb) :
    CtP l (⟨"java/lang/String", "hashCode", "()I"⟩ : MethodName) jdk_42_method_78_code 2 (some .int) [] ({ frames := 3, cells := 0, slots := 0, locals := 45 } : Room) Z #[(.ref x)] h0 (fun v h L => v = some (.int (((31 : Int32) * (((31 : Int32) * ((0 : Int32) + ((c0.toInt8.toInt32) &&& (255 : Int32)))) + ((c1.toInt8.toInt32) &&& (255 : Int32)))) + ((c2.toInt8.toInt32) &&& (255 : Int32)))) ∧ Fr n0 L ∧ Keep h0 h [x] ∧ Fld Z h x "java/lang/String" "coder" "B" (.int (0 : Int32)) ∧ Fld Z h x "java/lang/String" "value" "[B" (.ref t)) := by
  refine CtP.walk (Ls := #[.val (.ref x), .unset]) own_pn6 (fun m => by first | (simp [entryFrame, mkF, argsToLocals, Value.category]; done) | rfl) ?_
  intro p e s m below meth cc_ T hx hby hml hown hnm hret hlk hZ X eT
  have N := Fr.nil n0
  have K0 := Keep.refl h0 [x]
  have sz_h : h0.size ≤ h0.size := Nat.le_refl _
  refine galoadN (v := (.ref x)) X hx 1 (hb hby own_d9_0) rfl rfl rfl ?_
  refine ggetF X hx hZ (host := "") hown (Or.inl (own_w62 hw)) Via.refl eT P4_Fld 4 (hb hby own_d9_1) rfl ?_
  clear X eT; clear T; intro T X eT
  refine gistoreN X hx #[.val (.ref x), .val (.int (0 : Int32))] 5 (hb hby own_d9_4) rfl rfl ?_
  refine giloadN (v := (0 : Int32)) X hx 6 (hb hby own_d9_5) rfl rfl ?_
  refine gifNo X hx 9 (hb hby own_d9_6) rfl (by decide) ?_
  refine galoadN (v := (.ref x)) X hx 10 (hb hby own_d9_9) rfl rfl rfl ?_
  refine ggetF X hx hZ (host := "") hown (Or.inl (own_w64 hw)) Via.refl eT P5_Fld 13 (hb hby own_d9_10) rfl ?_
  clear X eT; clear T; intro T X eT
  refine gifNo X hx 16 (hb hby own_d9_13) rfl (by decide) ?_
  refine galoadN (v := (.ref x)) X hx 17 (hb hby own_d9_16) rfl rfl rfl ?_
  refine gvirtual (y := (⟨"java/lang/String", "isLatin1", "()Z"⟩ : MethodName)) (z := (⟨"java/lang/String", "isLatin1", "()Z"⟩ : MethodName)) (a := x) (argsL := []) (st := []) X hx hZ hown (own_w66 hw) (own_w67 hw) (notFace_of_selects (args := #[]) (mvT hZ (own_w69 hw))) (own_w69 hw) (own_w68 hw) (by decide) P1_Exa (payP (W := 0) (rm10 l Z a0 hw (x) (G1) h0 n0 (Nat.le_trans Z0 sz_h) P0_Old P2_Fld (O2) (P5)) hZ (own_w70 hw) (own_w7 hw) (by decide) (by decide)) eT (by rw [hml]; rfl) (lenOf own_pd4 rfl) rfl (Nat.le_of_eq rfl) 0 0 rfl rfl (by decide) (by decide) 20 (hb hby own_d9_17) rfl ?_
  clear X eT; clear T; intro v T h1 L2 Lc X eT hL hQ2
  obtain ⟨rfl, Nq, hh⟩ := hQ2
  replace N : Fr n0 L2 := by rw [hL]; exact Fr.app N Nq
  clear Nq hL
  replace hh := hh.symm; subst hh
  show Go p e below _ T (mkF m 20 #[.val (.ref x), .val (.int (0 : Int32))] [(.int (1 : Int32))])
  refine gifNo X hx 23 (hb hby own_d9_20) rfl (by decide) ?_
  refine galoadN (v := (.ref x)) X hx 24 (hb hby own_d9_23) rfl rfl rfl ?_
  refine ggetF X hx hZ (host := "") hown (Or.inl (own_w25 hw)) Via.refl eT P3_Fld 27 (hb hby own_d9_24) rfl ?_
  clear X eT; clear T; intro T X eT
  refine gstatic (y := (⟨"java/lang/StringLatin1", "hashCode", "([B)I"⟩ : MethodName)) (argsL := [(.ref t)]) (st := []) X hx hZ hown (own_w72 hw) (own_w73 hw) (own_w74 hw) (own_w75 hw) (by decide) (payP (W := 0) (rmLH3 l Z a0 hw (t) (kb) _ _ _ h0 n0 (Nat.le_trans Z0 sz_h) P6_Arv (hkb)) hZ (own_w75 hw) (own_w74 hw) (by decide) (by decide)) eT (by rw [hml]; rfl) (lenOf own_pd5 rfl) rfl (Nat.le_of_eq rfl) 0 0 rfl rfl (by decide) (by decide) 30 (hb hby own_d9_27) rfl ?_
  clear X eT; clear T; intro v T h5 L2 Lc X eT hL hQ6
  obtain ⟨rfl, Nq, hh⟩ := hQ6
  replace N : Fr n0 L2 := by rw [hL]; exact Fr.app N Nq
  clear Nq hL
  replace hh := hh.symm; subst hh
  show Go p e below _ T (mkF m 30 #[.val (.ref x), .val (.int (0 : Int32))] [(.int (((31 : Int32) * (((31 : Int32) * ((0 : Int32) + ((c0.toInt8.toInt32) &&& (255 : Int32)))) + ((c1.toInt8.toInt32) &&& (255 : Int32)))) + ((c2.toInt8.toInt32) &&& (255 : Int32))))])
  refine ggoto X hx 40 (hb hby own_d9_30) (by decide) (by decide) ?_
  refine gistoreN X hx #[.val (.ref x), .val (.int (((31 : Int32) * (((31 : Int32) * ((0 : Int32) + ((c0.toInt8.toInt32) &&& (255 : Int32)))) + ((c1.toInt8.toInt32) &&& (255 : Int32)))) + ((c2.toInt8.toInt32) &&& (255 : Int32))))] 41 (hb hby own_d9_40) rfl rfl ?_
  refine giloadN (v := (((31 : Int32) * (((31 : Int32) * ((0 : Int32) + ((c0.toInt8.toInt32) &&& (255 : Int32)))) + ((c1.toInt8.toInt32) &&& (255 : Int32)))) + ((c2.toInt8.toInt32) &&& (255 : Int32)))) X hx 42 (hb hby own_d9_41) rfl rfl ?_
  rcases Decidable.em ((((31 : Int32) * (((31 : Int32) * ((0 : Int32) + ((c0.toInt8.toInt32) &&& (255 : Int32)))) + ((c1.toInt8.toInt32) &&& (255 : Int32)))) + ((c2.toInt8.toInt32) &&& (255 : Int32))) = (0 : Int32)) with hz42 | hz42
  · refine gifNo X hx 45 (hb hby own_d9_42) rfl ((if0 _ _).trans (teq hz42).2) ?_
    refine galoadN (v := (.ref x)) X hx 46 (hb hby own_d9_45) rfl rfl rfl ?_
    refine giconst X hx (1 : Int32) 47 (hb hby own_d9_46) rfl rfl ?_
    refine gputF X hx hZ (host := "") hown (Or.inl (own_w64 hw)) Via.refl eT P5_Fld P1_Exa (Or.inl (own_w65 hw)) (own_w6 hw) (ty := .boolean) own_pf3 rfl rfl N ge_x 50 (hb hby own_d9_47) rfl ?_
    clear X eT N; clear T; intro T h9 L X eT N W10
    have ne_t_x : t ≠ x := Ne.symm (Exa.neArv P1_Exa P6_Arv (own_w6 hw))
    replace P0_Old := P0_Old.wr W10 ge_x
    replace P1_Exa := P1_Exa.wr W10
    replace P2_Fld := P2_Fld.other W10 (Or.inr (slot_ne (Or.inr (own_w22 hw)) (Or.inl (own_w65 hw)) (by decide) own_pf1 own_pf3))
    replace P3_Fld := P3_Fld.other W10 (Or.inr (slot_ne (Or.inr (own_w21 hw)) (Or.inl (own_w65 hw)) (by decide) own_pf0 own_pf3))
    replace P4_Fld := P4_Fld.other W10 (Or.inr (slot_ne (Or.inl (own_w63 hw)) (Or.inl (own_w65 hw)) (by decide) own_pf2 own_pf3))
    replace P5_Fld := P5_Fld.same W10
    replace P6_Arv := P6_Arv.other W10 ne_t_x
    replace K0 := K0.wr W10 (Or.inl (List.mem_of_getElem? (i := 0) rfl))
    replace sz_h : h0.size ≤ h9.size := by rw [Wr.size W10]; exact sz_h
    refine ggoto X hx 58 (hb hby own_d9_50) (by decide) (by decide) ?_
    refine giloadN (v := (((31 : Int32) * (((31 : Int32) * ((0 : Int32) + ((c0.toInt8.toInt32) &&& (255 : Int32)))) + ((c1.toInt8.toInt32) &&& (255 : Int32)))) + ((c2.toInt8.toInt32) &&& (255 : Int32)))) X hx 59 (hb hby own_d9_58) rfl rfl ?_
    exact gRetP X hx hlk hret rfl (Or.inl ⟨rfl, by simp, _, rfl⟩) (hb hby own_d9_59) eT (by decide) (by decide) ⟨rfl, N, K0, P2_Fld, P3_Fld⟩
  · refine gifYes X hx 53 (hb hby own_d9_42) ((if0 _ _).trans (feq hz42).2) (by decide) (by decide) ?_
    refine galoadN (v := (.ref x)) X hx 54 (hb hby own_d9_53) rfl rfl rfl ?_
    refine giloadN (v := (((31 : Int32) * (((31 : Int32) * ((0 : Int32) + ((c0.toInt8.toInt32) &&& (255 : Int32)))) + ((c1.toInt8.toInt32) &&& (255 : Int32)))) + ((c2.toInt8.toInt32) &&& (255 : Int32)))) X hx 55 (hb hby own_d9_54) rfl rfl ?_
    refine gputF X hx hZ (host := "") hown (Or.inl (own_w62 hw)) Via.refl eT P4_Fld P1_Exa (Or.inl (own_w63 hw)) (own_w6 hw) (ty := .int) own_pf2 rfl rfl N ge_x 58 (hb hby own_d9_55) rfl ?_
    clear X eT N; clear T; intro T h11 L X eT N W12
    have ne_t_x : t ≠ x := Ne.symm (Exa.neArv P1_Exa P6_Arv (own_w6 hw))
    replace P0_Old := P0_Old.wr W12 ge_x
    replace P1_Exa := P1_Exa.wr W12
    replace P2_Fld := P2_Fld.other W12 (Or.inr (slot_ne (Or.inr (own_w22 hw)) (Or.inl (own_w63 hw)) (by decide) own_pf1 own_pf2))
    replace P3_Fld := P3_Fld.other W12 (Or.inr (slot_ne (Or.inr (own_w21 hw)) (Or.inl (own_w63 hw)) (by decide) own_pf0 own_pf2))
    replace P4_Fld := P4_Fld.same W12
    replace P5_Fld := P5_Fld.other W12 (Or.inr (slot_ne (Or.inl (own_w65 hw)) (Or.inl (own_w63 hw)) (by decide) own_pf3 own_pf2))
    replace P6_Arv := P6_Arv.other W12 ne_t_x
    replace K0 := K0.wr W12 (Or.inl (List.mem_of_getElem? (i := 0) rfl))
    replace sz_h : h0.size ≤ h11.size := by rw [Wr.size W12]; exact sz_h
    refine giloadN (v := (((31 : Int32) * (((31 : Int32) * ((0 : Int32) + ((c0.toInt8.toInt32) &&& (255 : Int32)))) + ((c1.toInt8.toInt32) &&& (255 : Int32)))) + ((c2.toInt8.toInt32) &&& (255 : Int32)))) X hx 59 (hb hby own_d9_58) rfl rfl ?_
    exact gRetP X hx hlk hret rfl (Or.inl ⟨rfl, by simp, _, rfl⟩) (hb hby own_d9_59) eT (by decide) (by decide) ⟨rfl, N, K0, P2_Fld, P3_Fld⟩
theorem payHash {p : Program} {l : Launch} {e : Env} {R : Room} {s : State} {args : Array Value} {below : List Frame} {len W : Nat} {Z : State} {a0 : Array Value} {h : Heap} {x t : Addr} {cs : List Int32} {G1 : Int32} {n0 : Nat} (hZ : Z.Warmed39 s.vm) (hw : ∀ d ∈ tables_1, d.before a0 Z = true) (hx0 : n0 ≤ x) (hh0 : n0 ≤ h.size) (F : Str Z h x t cs) (Hh : Fld Z h x "java/lang/String" "hash" "I" (.int 0)) (Hz : Fld Z h x "java/lang/String" "hashIsZero" "Z" (.int 0)) (O : Old Z n0 h) (O2 : Sta Z Z.heap "java/lang/String" "COMPACT_STRINGS" "Z" (.int G1)) (P5 : ¬ G1 = (0 : Int32)) (hl3 : cs.length ≤ 3) (hfr : 4 ≤ R.frames) (hlo : W + 58 ≤ R.locals) :
    Pays l R p e below s args (⟨"java/lang/String", "hashCode", "()I"⟩ : MethodName) len W #[.ref x] h 0 0 (fun v h' L => v = some (.int (own_hash cs)) ∧ Fr n0 L ∧ Keep h h' [x] ∧ Str Z h' x t cs) := by
  obtain ⟨kb, n, q1, q2, q3, q4, hn, hp, hl, hB⟩ := F
  have tx : x ≠ t := Exa.neArv q1 q4 (own_w6 hw)
  match cs, hl3, hn, q4 with
  | [], _, hn, q4 =>
    subst hn
    intro m meth c A g ig mk a r1 r2 r3 r4 r5 r6 r7
    obtain ⟨v, B, X, ⟨L, ⟨g1, g2, g3, g4, g5⟩, r⟩, st⟩ := payP (W := W) (R := R) (l := l) (p := p) (e := e) (s := s) (len := len) (args := args) (below := below) (rmHC0 l Z a0 hw x t kb G1 h n0 hh0 hx0 O q1 q2 q3 Hh Hz q4 O2 P5) hZ (own_w61 hw) (own_w7 hw) (Nat.le_trans (by decide) hfr) (Nat.le_trans (by show W + (2 + 11) + 12 ≤ W + 58; omega) hlo) m meth c A g ig mk a r1 r2 r3 r4 r5 r6 r7
    exact ⟨v, B, X, ⟨L, ⟨g1, g2, g3, kb, _, q1.keep g3, g4, g5, q4.keep g3 (ninS (Ne.symm tx) nin0), rfl, hp, hl, hB⟩, r⟩, st⟩
  | [c0], _, hn, q4 =>
    subst hn
    intro m meth c A g ig mk a r1 r2 r3 r4 r5 r6 r7
    obtain ⟨v, B, X, ⟨L, ⟨g1, g2, g3, g4, g5⟩, r⟩, st⟩ := payP (W := W) (R := R) (l := l) (p := p) (e := e) (s := s) (len := len) (args := args) (below := below) (rmHC1 l Z a0 hw x t kb G1 c0 h n0 hh0 hx0 O q1 q2 q3 Hh Hz q4 O2 P5) hZ (own_w61 hw) (own_w7 hw) (Nat.le_trans (by decide) hfr) (Nat.le_trans (by show W + (2 + 11) + 12 ≤ W + 58; omega) hlo) m meth c A g ig mk a r1 r2 r3 r4 r5 r6 r7
    exact ⟨v, B, X, ⟨L, ⟨g1, g2, g3, kb, _, q1.keep g3, g4, g5, q4.keep g3 (ninS (Ne.symm tx) nin0), rfl, hp, hl, hB⟩, r⟩, st⟩
  | [c0, c1], _, hn, q4 =>
    subst hn
    intro m meth c A g ig mk a r1 r2 r3 r4 r5 r6 r7
    obtain ⟨v, B, X, ⟨L, ⟨g1, g2, g3, g4, g5⟩, r⟩, st⟩ := payP (W := W) (R := R) (l := l) (p := p) (e := e) (s := s) (len := len) (args := args) (below := below) (rmHC2 l Z a0 hw x t kb G1 c0 c1 h n0 hh0 hx0 O q1 q2 q3 Hh Hz q4 O2 P5 (hB (by simp))) hZ (own_w61 hw) (own_w7 hw) (Nat.le_trans (by decide) hfr) (Nat.le_trans (by show W + (2 + 11) + 45 ≤ W + 58; omega) hlo) m meth c A g ig mk a r1 r2 r3 r4 r5 r6 r7
    exact ⟨v, B, X, ⟨L, ⟨g1, g2, g3, kb, _, q1.keep g3, g4, g5, q4.keep g3 (ninS (Ne.symm tx) nin0), rfl, hp, hl, hB⟩, r⟩, st⟩
  | [c0, c1, c2], _, hn, q4 =>
    subst hn
    intro m meth c A g ig mk a r1 r2 r3 r4 r5 r6 r7
    obtain ⟨v, B, X, ⟨L, ⟨g1, g2, g3, g4, g5⟩, r⟩, st⟩ := payP (W := W) (R := R) (l := l) (p := p) (e := e) (s := s) (len := len) (args := args) (below := below) (rmHC3 l Z a0 hw x t kb G1 c0 c1 c2 h n0 hh0 hx0 O q1 q2 q3 Hh Hz q4 O2 P5 (hB (by simp))) hZ (own_w61 hw) (own_w7 hw) (Nat.le_trans (by decide) hfr) (Nat.le_trans (by show W + (2 + 11) + 45 ≤ W + 58; omega) hlo) m meth c A g ig mk a r1 r2 r3 r4 r5 r6 r7
    exact ⟨v, B, X, ⟨L, ⟨g1, g2, g3, kb, _, q1.keep g3, g4, g5, q4.keep g3 (ninS (Ne.symm tx) nin0), rfl, hp, hl, hB⟩, r⟩, st⟩
  | _ :: _ :: _ :: _ :: _, hl3, _, _ => exact absurd hl3 (by simp)
set_option maxRecDepth 65536 in
set_option maxHeartbeats 40000000 in
theorem rm1 (l : Launch) (Z : State) (a0 : Array Value) (hw : ∀ d ∈ tables_1, d.before a0 Z = true) (k : Int32) (G1 : Int32) (h0 : Heap) (n0 : Nat) (Z0 : n0 ≤ h0.size) (P0_Old : Old Z n0 h0) (O2 : Sta Z Z.heap "java/lang/String" "COMPACT_STRINGS" "Z" (.int G1)) (P5 : ¬ G1 = (0 : Int32)) :
    CtS l (⟨"tabulon/StringIndexNumberOfPinLaw", "str", "(I)Ljava/lang/String;"⟩ : MethodName) method_2_code 5 (some (.object "java/lang/String")) [] ({ frames := 4, cells := 6, slots := 12, locals := 66 } : Room) Z own_EL [] #[(.int k)] h0 (fun v h L => ∃ (x : Addr), ∃ (t : Addr), v = some (.ref x) ∧ Fr n0 L ∧ Keep h0 h [] ∧ h0.size ≤ x ∧ Str Z h x t (own_txt k) ∧ Fld Z h x "java/lang/String" "hash" "I" (.int (0 : Int32)) ∧ Fld Z h x "java/lang/String" "hashIsZero" "Z" (.int (0 : Int32))) := by
  refine CtS.walk (Ls := #[.val (.int k), .unset, .unset, .unset, .unset]) (plainFor_of_name own_pn8) (fun m => by first | (simp [entryFrame, mkF, argsToLocals, Value.category]; done) | rfl) ?_
  intro p e s m below meth cc_ T vm k0 hx hby hml hown hnm hret hlk hZ X eT hS hk C hSL
  have N := Fr.nil n0
  have K0 := Keep.refl h0 []
  have sz_h : h0.size ≤ h0.size := Nat.le_refl _
  refine giloadN (v := k) X hx 1 (hb hby own_d1_0) rfl rfl ?_
  refine gbipush X hx (24 : Int32) 3 (hb hby own_d1_1) rfl rfl ?_
  refine giushr X hx 4 (hb hby own_d1_3) rfl ?_
  refine giconst X hx (3 : Int32) 5 (hb hby own_d1_4) rfl rfl ?_
  refine giand X hx 6 (hb hby own_d1_5) rfl ?_
  refine gistoreN X hx #[.val (.int k), .val (.int (((k.toUInt32 >>> ((24 : Int32) &&& 31).toUInt32).toInt32) &&& (3 : Int32))), .unset, .unset, .unset] 7 (hb hby own_d1_6) rfl rfl ?_
  refine giloadN (v := k) X hx 8 (hb hby own_d1_7) rfl rfl ?_
  refine gsipush X hx (255 : Int32) 11 (hb hby own_d1_8) rfl rfl ?_
  refine giand X hx 12 (hb hby own_d1_11) rfl ?_
  refine gi2c X hx 13 (hb hby own_d1_12) rfl ?_
  rw [own_i2c8]
  refine gistoreN X hx #[.val (.int k), .val (.int (((k.toUInt32 >>> ((24 : Int32) &&& 31).toUInt32).toInt32) &&& (3 : Int32))), .val (.int (k &&& (255 : Int32))), .unset, .unset] 14 (hb hby own_d1_13) rfl rfl ?_
  refine giloadN (v := k) X hx 15 (hb hby own_d1_14) rfl rfl ?_
  refine gbipush X hx (8 : Int32) 17 (hb hby own_d1_15) rfl rfl ?_
  refine giushr X hx 18 (hb hby own_d1_17) rfl ?_
  refine gsipush X hx (255 : Int32) 21 (hb hby own_d1_18) rfl rfl ?_
  refine giand X hx 22 (hb hby own_d1_21) rfl ?_
  refine gi2c X hx 23 (hb hby own_d1_22) rfl ?_
  rw [own_i2c8]
  refine gistoreN X hx #[.val (.int k), .val (.int (((k.toUInt32 >>> ((24 : Int32) &&& 31).toUInt32).toInt32) &&& (3 : Int32))), .val (.int (k &&& (255 : Int32))), .val (.int (((k.toUInt32 >>> ((8 : Int32) &&& 31).toUInt32).toInt32) &&& (255 : Int32))), .unset] 24 (hb hby own_d1_23) rfl rfl ?_
  refine giloadN (v := k) X hx 25 (hb hby own_d1_24) rfl rfl ?_
  refine gbipush X hx (16 : Int32) 27 (hb hby own_d1_25) rfl rfl ?_
  refine giushr X hx 28 (hb hby own_d1_27) rfl ?_
  refine gsipush X hx (255 : Int32) 31 (hb hby own_d1_28) rfl rfl ?_
  refine giand X hx 32 (hb hby own_d1_31) rfl ?_
  refine gi2c X hx 33 (hb hby own_d1_32) rfl ?_
  rw [own_i2c8]
  refine gistore X hx #[.val (.int k), .val (.int (((k.toUInt32 >>> ((24 : Int32) &&& 31).toUInt32).toInt32) &&& (3 : Int32))), .val (.int (k &&& (255 : Int32))), .val (.int (((k.toUInt32 >>> ((8 : Int32) &&& 31).toUInt32).toInt32) &&& (255 : Int32))), .val (.int (((k.toUInt32 >>> ((16 : Int32) &&& 31).toUInt32).toInt32) &&& (255 : Int32)))] 35 (hb hby own_d1_33) rfl rfl ?_
  refine giloadN (v := (((k.toUInt32 >>> ((24 : Int32) &&& 31).toUInt32).toInt32) &&& (3 : Int32))) X hx 36 (hb hby own_d1_35) rfl rfl ?_
  rcases Decidable.em ((((k.toUInt32 >>> ((24 : Int32) &&& 31).toUInt32).toInt32) &&& (3 : Int32)) = (0 : Int32)) with g0_36 | g0_36
  · refine gifNo X hx 39 (hb hby own_d1_36) rfl ((if0 _ _).trans (teq g0_36).2) ?_
    refine gnewO X hx hZ hown (own_w5 hw) (own_w6 hw) (own_w7 hw) eT 1 4 rfl rfl (by decide) (by decide) 42 (hb hby own_d1_39) rfl ?_
    clear X eT; clear T; intro T h1 b2 X eT ga E3 A4 D5
    have le_a := Nat.le_of_eq ga.symm
    have sz_b2 : h0.size ≤ b2 := Nat.le_trans sz_h le_a
    have ge_b2 : n0 ≤ b2 := Nat.le_trans Z0 sz_b2
    have Sf_b2 := Safe.ext E3 C.1 (Safe.new le_a)
    clear le_a ga
    replace P0_Old := P0_Old.ext E3
    replace K0 := K0.ext E3
    replace C := C.trans (CHr.ext E3 C.1)
    replace hk := Nat.le_trans hk E3.1
    replace sz_h : h0.size ≤ h1.size := Nat.le_trans sz_h E3.1
    have F_value_b2 : Fld Z h1 b2 "java/lang/String" "value" "[B" .null := D5 (Or.inr (own_w21 hw)) (ty := (.array .byte)) own_pf0
    have F_coder_b2 : Fld Z h1 b2 "java/lang/String" "coder" "B" (.int (0 : Int32)) := D5 (Or.inr (own_w22 hw)) (ty := .byte) own_pf1
    have F_hash_b2 : Fld Z h1 b2 "java/lang/String" "hash" "I" (.int (0 : Int32)) := D5 (Or.inl (own_w63 hw)) (ty := .int) own_pf2
    have F_hashIsZero_b2 : Fld Z h1 b2 "java/lang/String" "hashIsZero" "Z" (.int (0 : Int32)) := D5 (Or.inl (own_w65 hw)) (ty := .boolean) own_pf3
    clear D5
    refine gdup X hx 43 (hb hby own_d1_42) rfl rfl ?_
    refine giconst X hx (0 : Int32) 44 (hb hby own_d1_43) rfl rfl ?_
    refine gnewP (aty := .char) X hx hZ (own_w8 hw) eT (n := (0 : Int32)) (by decide) 0 (by decide) (by decide) 2 4 rfl rfl (by decide) (by decide) 46 (hb hby own_d1_44) rfl ?_
    clear X eT; clear T; intro T h6 b7 kc10 X eT ga E8 V9
    have le_a := Nat.le_of_eq ga.symm
    have ne_b2_b7 : b2 ≠ b7 := Nat.ne_of_lt (Nat.lt_of_lt_of_le A4.lt le_a)
    have ne_b7_b2 : b7 ≠ b2 := Ne.symm ne_b2_b7
    have sz_b7 : h0.size ≤ b7 := Nat.le_trans sz_h le_a
    have ge_b7 : n0 ≤ b7 := Nat.le_trans Z0 sz_b7
    clear le_a ga
    replace P0_Old := P0_Old.ext E8
    replace A4 := A4.ext E8
    replace Sf_b2 := Safe.ext E8 C.1 Sf_b2
    replace F_value_b2 := F_value_b2.ext E8
    replace F_coder_b2 := F_coder_b2.ext E8
    replace F_hash_b2 := F_hash_b2.ext E8
    replace F_hashIsZero_b2 := F_hashIsZero_b2.ext E8
    replace K0 := K0.ext E8
    replace C := C.trans (CHr.ext E8 C.1)
    replace hk := Nat.le_trans hk E8.1
    replace sz_h : h0.size ≤ h6.size := Nat.le_trans sz_h E8.1
    replace V9 : Arv Z h6 b7 kc10 .char (0 : Int32) [] (.int 0) := V9.pad (pad_rep [] _ 0)
    refine gspecialS (y := (⟨"java/lang/String", "<init>", "([C)V"⟩ : MethodName)) (a := b2) (argsL := [(.ref b7)]) (st := [(.ref b2)]) X hx hZ hown rfl (own_w9 hw) (own_w10 hw) (own_w11 hw) (by decide) hS hk (payS (W := 1) (rmE1 l Z a0 hw (b2) (b7) (.null) ((.int (0 : Int32))) (kc10) h6 n0 (Nat.le_trans Z0 sz_h) ge_b2 A4 F_value_b2 F_coder_b2 V9 F_hash_b2 F_hashIsZero_b2) hZ (own_w11 hw) (own_w7 hw) (by decide) (by decide) (own_EW hw) C.1 (allS ⟨A4.lt, Sf_b2⟩ all0)) eT (by rw [hml]; rfl) (lenOf own_pd8 rfl) rfl (Nat.le_of_eq rfl) 6 12 rfl rfl (by decide) (by decide) 49 (hb hby own_d1_46) rfl ?_
    have lt_b2 := A4.lt
    clear X eT hS hk hZ hown; clear T k0; intro v T h11 L2 Lc vm k0 X eT hL hS hk hZ hown CR16 hQ12
    obtain ⟨t_13, kb_14, rfl, Nq, K15, G17, G18, G19, G20, G21⟩ := hQ12
    replace N : Fr n0 L2 := by rw [hL]; exact Fr.app N Nq
    clear Nq hL
    replace P0_Old := P0_Old.keep K15 (allS ge_b2 all0)
    replace A4 := A4.keep K15
    replace Sf_b2 := CHr.safe CR16 lt_b2 Sf_b2
    replace V9 := V9.keep K15 (ninS ne_b7_b2 nin0)
    replace K0 := K0.trans K15 (allS (Or.inr sz_b2) all0)
    replace C := C.trans CR16
    replace sz_h : h0.size ≤ h11.size := Nat.le_trans sz_h K15.1
    show Go p e below _ T (mkF m 49 #[.val (.int k), .val (.int (((k.toUInt32 >>> ((24 : Int32) &&& 31).toUInt32).toInt32) &&& (3 : Int32))), .val (.int (k &&& (255 : Int32))), .val (.int (((k.toUInt32 >>> ((8 : Int32) &&& 31).toUInt32).toInt32) &&& (255 : Int32))), .val (.int (((k.toUInt32 >>> ((16 : Int32) &&& 31).toUInt32).toInt32) &&& (255 : Int32)))] [(.ref b2)])
    have Str22 : Str Z h11 b2 t_13 ([] : List Int32) := Str.of A4 G18 G17 G19 rfl rfl own_c0 (Nat.le_of_ble_eq_true rfl) (fun z => absurd z (by simp))
    rw [show ([] : List Int32) = own_txt k from (own_tx0 g0_36).symm] at Str22
    exact gRetS X hx hlk hret rfl (Or.inr (Or.inr (Or.inr (Or.inr ⟨rfl, rfl, rfl⟩)))) (hb hby own_d1_49) eT hS hk hZ (own_EW hw) C (by decide) (by decide) ⟨b2, t_13, rfl, N, K0, sz_b2, Str22, G20, G21⟩
  · refine gifYes X hx 50 (hb hby own_d1_36) ((if0 _ _).trans (feq g0_36).2) (by decide) (by decide) ?_
    refine giloadN (v := (((k.toUInt32 >>> ((24 : Int32) &&& 31).toUInt32).toInt32) &&& (3 : Int32))) X hx 51 (hb hby own_d1_50) rfl rfl ?_
    refine giconst X hx (1 : Int32) 52 (hb hby own_d1_51) rfl rfl ?_
    rcases Decidable.em ((((k.toUInt32 >>> ((24 : Int32) &&& 31).toUInt32).toInt32) &&& (3 : Int32)) = (1 : Int32)) with g1_52 | g1_52
    · refine gicmpNo X hx 55 (hb hby own_d1_52) rfl (teq g1_52).2 ?_
      refine giloadN (v := (k &&& (255 : Int32))) X hx 56 (hb hby own_d1_55) rfl rfl ?_
      refine gstatic (y := (⟨"java/lang/String", "valueOf", "(C)Ljava/lang/String;"⟩ : MethodName)) (argsL := [(.int (k &&& (255 : Int32)))]) (st := []) X hx hZ hown (own_w94 hw) (own_w95 hw) (own_w7 hw) (own_w96 hw) (by decide) (payP (W := 0) (rm15 l Z a0 hw ((k &&& (255 : Int32))) _ h0 n0 (Nat.le_trans Z0 sz_h) P0_Old ((own_rng _).2) (O2) (P5)) hZ (own_w96 hw) (own_w7 hw) (by decide) (by decide)) eT (by rw [hml]; rfl) (lenOf own_pd9 rfl) rfl (Nat.le_of_eq rfl) 2 5 rfl rfl (by decide) (by decide) 59 (hb hby own_d1_56) rfl ?_
      clear X eT; clear T; intro v T h23 L2 Lc X eT hL hQ24
      obtain ⟨x_25, t_26, kb_27, rfl, Nq, K28, zz_x_25, zz_t_26, G30, G31, G32, G33, G34, G35, pp36⟩ := hQ24
      replace N : Fr n0 L2 := by rw [hL]; exact Fr.app N Nq
      clear Nq hL
      have sz_x_25 : h0.size ≤ x_25 := Nat.le_trans sz_h zz_x_25
      have ge_x_25 : n0 ≤ x_25 := Nat.le_trans Z0 sz_x_25
      have sz_t_26 : h0.size ≤ t_26 := Nat.le_trans sz_h zz_t_26
      have ge_t_26 : n0 ≤ t_26 := Nat.le_trans Z0 sz_t_26
      replace P0_Old := P0_Old.keep K28 all0
      replace K0 := K0.trans K28 all0
      replace C := C.trans (CHr.keep K28 sf0 C.1)
      replace hk := Nat.le_trans hk K28.1
      replace sz_h : h0.size ≤ h23.size := Nat.le_trans sz_h K28.1
      show Go p e below _ T (mkF m 59 #[.val (.int k), .val (.int (((k.toUInt32 >>> ((24 : Int32) &&& 31).toUInt32).toInt32) &&& (3 : Int32))), .val (.int (k &&& (255 : Int32))), .val (.int (((k.toUInt32 >>> ((8 : Int32) &&& 31).toUInt32).toInt32) &&& (255 : Int32))), .val (.int (((k.toUInt32 >>> ((16 : Int32) &&& 31).toUInt32).toInt32) &&& (255 : Int32)))] [(.ref x_25)])
      have Str37 : Str Z h23 x_25 t_26 ([(k &&& (255 : Int32))] : List Int32) := Str.of G30 G31 G32 G33 rfl rfl (own_cS (own_rng _) own_c0) (Nat.le_of_ble_eq_true rfl) (fun z => absurd z (by simp))
      rw [show ([(k &&& (255 : Int32))] : List Int32) = own_txt k from (own_tx1 g0_36 g1_52).symm] at Str37
      exact gRetS X hx hlk hret rfl (Or.inr (Or.inr (Or.inr (Or.inr ⟨rfl, rfl, rfl⟩)))) (hb hby own_d1_59) eT hS hk hZ (own_EW hw) C (by decide) (by decide) ⟨x_25, t_26, rfl, N, K0, sz_x_25, Str37, G34, G35⟩
    · refine gicmpYes X hx 60 (hb hby own_d1_52) (feq g1_52).2 (by decide) (by decide) ?_
      refine giloadN (v := (((k.toUInt32 >>> ((24 : Int32) &&& 31).toUInt32).toInt32) &&& (3 : Int32))) X hx 61 (hb hby own_d1_60) rfl rfl ?_
      refine giconst X hx (2 : Int32) 62 (hb hby own_d1_61) rfl rfl ?_
      rcases Decidable.em ((((k.toUInt32 >>> ((24 : Int32) &&& 31).toUInt32).toInt32) &&& (3 : Int32)) = (2 : Int32)) with g2_62 | g2_62
      · refine gicmpNo X hx 65 (hb hby own_d1_62) rfl (teq g2_62).2 ?_
        refine gnewO X hx hZ hown (own_w5 hw) (own_w6 hw) (own_w7 hw) eT 1 4 rfl rfl (by decide) (by decide) 68 (hb hby own_d1_65) rfl ?_
        clear X eT; clear T; intro T h38 b39 X eT ga E40 A41 D42
        have le_a := Nat.le_of_eq ga.symm
        have sz_b39 : h0.size ≤ b39 := Nat.le_trans sz_h le_a
        have ge_b39 : n0 ≤ b39 := Nat.le_trans Z0 sz_b39
        have Sf_b39 := Safe.ext E40 C.1 (Safe.new le_a)
        clear le_a ga
        replace P0_Old := P0_Old.ext E40
        replace K0 := K0.ext E40
        replace C := C.trans (CHr.ext E40 C.1)
        replace hk := Nat.le_trans hk E40.1
        replace sz_h : h0.size ≤ h38.size := Nat.le_trans sz_h E40.1
        have F_value_b39 : Fld Z h38 b39 "java/lang/String" "value" "[B" .null := D42 (Or.inr (own_w21 hw)) (ty := (.array .byte)) own_pf0
        have F_coder_b39 : Fld Z h38 b39 "java/lang/String" "coder" "B" (.int (0 : Int32)) := D42 (Or.inr (own_w22 hw)) (ty := .byte) own_pf1
        have F_hash_b39 : Fld Z h38 b39 "java/lang/String" "hash" "I" (.int (0 : Int32)) := D42 (Or.inl (own_w63 hw)) (ty := .int) own_pf2
        have F_hashIsZero_b39 : Fld Z h38 b39 "java/lang/String" "hashIsZero" "Z" (.int (0 : Int32)) := D42 (Or.inl (own_w65 hw)) (ty := .boolean) own_pf3
        clear D42
        refine gdup X hx 69 (hb hby own_d1_68) rfl rfl ?_
        refine giconst X hx (2 : Int32) 70 (hb hby own_d1_69) rfl rfl ?_
        refine gnewP (aty := .char) X hx hZ (own_w8 hw) eT (n := (2 : Int32)) (by decide) 2 (by decide) (by decide) 2 6 rfl rfl (by decide) (by decide) 72 (hb hby own_d1_70) rfl ?_
        clear X eT; clear T; intro T h43 b44 kc47 X eT ga E45 V46
        have le_a := Nat.le_of_eq ga.symm
        have ne_b39_b44 : b39 ≠ b44 := Nat.ne_of_lt (Nat.lt_of_lt_of_le A41.lt le_a)
        have ne_b44_b39 : b44 ≠ b39 := Ne.symm ne_b39_b44
        have sz_b44 : h0.size ≤ b44 := Nat.le_trans sz_h le_a
        have ge_b44 : n0 ≤ b44 := Nat.le_trans Z0 sz_b44
        clear le_a ga
        replace P0_Old := P0_Old.ext E45
        replace A41 := A41.ext E45
        replace Sf_b39 := Safe.ext E45 C.1 Sf_b39
        replace F_value_b39 := F_value_b39.ext E45
        replace F_coder_b39 := F_coder_b39.ext E45
        replace F_hash_b39 := F_hash_b39.ext E45
        replace F_hashIsZero_b39 := F_hashIsZero_b39.ext E45
        replace K0 := K0.ext E45
        replace C := C.trans (CHr.ext E45 C.1)
        replace hk := Nat.le_trans hk E45.1
        replace sz_h : h0.size ≤ h43.size := Nat.le_trans sz_h E45.1
        replace V46 : Arv Z h43 b44 kc47 .char (2 : Int32) [(.int (0 : Int32)), (.int (0 : Int32))] (.int 0) := V46.pad (pad_rep [] _ 2)
        refine gdup X hx 73 (hb hby own_d1_72) rfl rfl ?_
        refine giconst X hx (0 : Int32) 74 (hb hby own_d1_73) rfl rfl ?_
        refine giloadN (v := (k &&& (255 : Int32))) X hx 75 (hb hby own_d1_74) rfl rfl ?_
        refine gcastore X hx hZ eT V46 (by decide) (by decide) 0 rfl (Nat.le_of_ble_eq_true rfl) N ge_b44 76 (hb hby own_d1_75) rfl ?_
        clear X eT N; clear T; intro T h49 L X eT N W48 V50
        have sfw := (Safe.arv (EL := own_EL) (vm := vm) hZ.alike V46 (fun z => by cases z))
        replace P0_Old := P0_Old.wr W48 ge_b44
        replace A41 := A41.wr W48
        replace Sf_b39 := Safe.wr W48 sfw C.1 Sf_b39
        replace F_value_b39 := F_value_b39.other W48 (Or.inl ne_b39_b44)
        replace F_coder_b39 := F_coder_b39.other W48 (Or.inl ne_b39_b44)
        replace F_hash_b39 := F_hash_b39.other W48 (Or.inl ne_b39_b44)
        replace F_hashIsZero_b39 := F_hashIsZero_b39.other W48 (Or.inl ne_b39_b44)
        replace K0 := K0.wr W48 (Or.inr sz_b44)
        replace C := C.trans (CHr.wr W48 sfw C.1)
        replace hk : k0 ≤ h49.size := by rw [Wr.size W48]; exact hk
        replace sz_h : h0.size ≤ h49.size := by rw [Wr.size W48]; exact sz_h
        replace V50 : Arv Z h49 b44 kc47 .char (2 : Int32) [(.int (k &&& (255 : Int32))), (.int (0 : Int32))] (.int 0) := by have z := V50; rw [own_nar8] at z; exact z
        refine gdup X hx 77 (hb hby own_d1_76) rfl rfl ?_
        refine giconst X hx (1 : Int32) 78 (hb hby own_d1_77) rfl rfl ?_
        refine giloadN (v := (((k.toUInt32 >>> ((8 : Int32) &&& 31).toUInt32).toInt32) &&& (255 : Int32))) X hx 79 (hb hby own_d1_78) rfl rfl ?_
        refine gcastore X hx hZ eT V50 (by decide) (by decide) 1 rfl (Nat.le_of_ble_eq_true rfl) N ge_b44 80 (hb hby own_d1_79) rfl ?_
        clear X eT N; clear T; intro T h52 L X eT N W51 V53
        have sfw := (Safe.arv (EL := own_EL) (vm := vm) hZ.alike V50 (fun z => by cases z))
        replace P0_Old := P0_Old.wr W51 ge_b44
        replace A41 := A41.wr W51
        replace Sf_b39 := Safe.wr W51 sfw C.1 Sf_b39
        replace F_value_b39 := F_value_b39.other W51 (Or.inl ne_b39_b44)
        replace F_coder_b39 := F_coder_b39.other W51 (Or.inl ne_b39_b44)
        replace F_hash_b39 := F_hash_b39.other W51 (Or.inl ne_b39_b44)
        replace F_hashIsZero_b39 := F_hashIsZero_b39.other W51 (Or.inl ne_b39_b44)
        replace K0 := K0.wr W51 (Or.inr sz_b44)
        replace C := C.trans (CHr.wr W51 sfw C.1)
        replace hk : k0 ≤ h52.size := by rw [Wr.size W51]; exact hk
        replace sz_h : h0.size ≤ h52.size := by rw [Wr.size W51]; exact sz_h
        replace V53 : Arv Z h52 b44 kc47 .char (2 : Int32) [(.int (k &&& (255 : Int32))), (.int (((k.toUInt32 >>> ((8 : Int32) &&& 31).toUInt32).toInt32) &&& (255 : Int32)))] (.int 0) := by have z := V53; rw [own_nar8] at z; exact z
        refine gspecial (y := (⟨"java/lang/String", "<init>", "([C)V"⟩ : MethodName)) (a := b39) (argsL := [(.ref b44)]) (st := [(.ref b39)]) X hx hZ hown rfl (own_w9 hw) (own_w10 hw) (own_w11 hw) (by decide) (payNew (W := 1) (cs := ([(k &&& (255 : Int32)), (((k.toUInt32 >>> ((8 : Int32) &&& 31).toUInt32).toInt32) &&& (255 : Int32))] : List Int32)) (n := 2) (n0 := n0) hZ hw ge_b39 (Nat.le_trans Z0 sz_h) A41 F_value_b39 F_coder_b39 F_hash_b39 F_hashIsZero_b39 V53 rfl (O2.ext P0_Old.2) P5 rfl rfl (by decide) (by decide) (own_cS (own_rng _) (own_cS (own_rng _) own_c0)) (by decide) (by decide)) eT (by rw [hml]; rfl) (lenOf own_pd8 rfl) rfl (Nat.le_of_eq rfl) 3 8 rfl rfl (by decide) (by decide) 83 (hb hby own_d1_80) rfl ?_
        clear X eT; clear T; intro v T h59 L2 Lc X eT hL hQ60
        obtain ⟨rfl, Nq, K54, F57, F58, t55, zz_t55, Str56⟩ := hQ60
        replace N : Fr n0 L2 := by rw [hL]; exact Fr.app N Nq
        clear Nq hL
        have ne_b39_t55 : b39 ≠ t55 := Nat.ne_of_lt (Nat.lt_of_lt_of_le A41.lt zz_t55)
        have ne_t55_b39 : t55 ≠ b39 := Ne.symm ne_b39_t55
        have ne_b44_t55 : b44 ≠ t55 := Nat.ne_of_lt (Nat.lt_of_lt_of_le V53.lt zz_t55)
        have ne_t55_b44 : t55 ≠ b44 := Ne.symm ne_b44_t55
        have sz_t55 : h0.size ≤ t55 := Nat.le_trans sz_h zz_t55
        have ge_t55 : n0 ≤ t55 := Nat.le_trans Z0 sz_t55
        have sfs := (sfS Sf_b39 sf0)
        replace P0_Old := P0_Old.keep K54 (allS ge_b39 all0)
        replace Sf_b39 := Safe.keep K54 sfs C.1 Sf_b39
        replace V53 := V53.keep K54 (ninS ne_b44_b39 nin0)
        replace A41 := A41.keep K54
        replace K0 := K0.trans K54 (allS (Or.inr sz_b39) all0)
        replace C := C.trans (CHr.keep K54 sfs C.1)
        replace hk := Nat.le_trans hk K54.1
        replace sz_h : h0.size ≤ h59.size := Nat.le_trans sz_h K54.1
        show Go p e below _ T (mkF m 83 #[.val (.int k), .val (.int (((k.toUInt32 >>> ((24 : Int32) &&& 31).toUInt32).toInt32) &&& (3 : Int32))), .val (.int (k &&& (255 : Int32))), .val (.int (((k.toUInt32 >>> ((8 : Int32) &&& 31).toUInt32).toInt32) &&& (255 : Int32))), .val (.int (((k.toUInt32 >>> ((16 : Int32) &&& 31).toUInt32).toInt32) &&& (255 : Int32)))] [(.ref b39)])
        rw [show ([(k &&& (255 : Int32)), (((k.toUInt32 >>> ((8 : Int32) &&& 31).toUInt32).toInt32) &&& (255 : Int32))] : List Int32) = own_txt k from (own_tx2 g0_36 g1_52 g2_62).symm] at Str56
        exact gRetS X hx hlk hret rfl (Or.inr (Or.inr (Or.inr (Or.inr ⟨rfl, rfl, rfl⟩)))) (hb hby own_d1_83) eT hS hk hZ (own_EW hw) C (by decide) (by decide) ⟨b39, t55, rfl, N, K0, sz_b39, Str56, F57, F58⟩
      · refine gicmpYes X hx 84 (hb hby own_d1_62) (feq g2_62).2 (by decide) (by decide) ?_
        refine gnewO X hx hZ hown (own_w5 hw) (own_w6 hw) (own_w7 hw) eT 1 4 rfl rfl (by decide) (by decide) 87 (hb hby own_d1_84) rfl ?_
        clear X eT; clear T; intro T h61 b62 X eT ga E63 A64 D65
        have le_a := Nat.le_of_eq ga.symm
        have sz_b62 : h0.size ≤ b62 := Nat.le_trans sz_h le_a
        have ge_b62 : n0 ≤ b62 := Nat.le_trans Z0 sz_b62
        have Sf_b62 := Safe.ext E63 C.1 (Safe.new le_a)
        clear le_a ga
        replace P0_Old := P0_Old.ext E63
        replace K0 := K0.ext E63
        replace C := C.trans (CHr.ext E63 C.1)
        replace hk := Nat.le_trans hk E63.1
        replace sz_h : h0.size ≤ h61.size := Nat.le_trans sz_h E63.1
        have F_value_b62 : Fld Z h61 b62 "java/lang/String" "value" "[B" .null := D65 (Or.inr (own_w21 hw)) (ty := (.array .byte)) own_pf0
        have F_coder_b62 : Fld Z h61 b62 "java/lang/String" "coder" "B" (.int (0 : Int32)) := D65 (Or.inr (own_w22 hw)) (ty := .byte) own_pf1
        have F_hash_b62 : Fld Z h61 b62 "java/lang/String" "hash" "I" (.int (0 : Int32)) := D65 (Or.inl (own_w63 hw)) (ty := .int) own_pf2
        have F_hashIsZero_b62 : Fld Z h61 b62 "java/lang/String" "hashIsZero" "Z" (.int (0 : Int32)) := D65 (Or.inl (own_w65 hw)) (ty := .boolean) own_pf3
        clear D65
        refine gdup X hx 88 (hb hby own_d1_87) rfl rfl ?_
        refine giconst X hx (3 : Int32) 89 (hb hby own_d1_88) rfl rfl ?_
        refine gnewP (aty := .char) X hx hZ (own_w8 hw) eT (n := (3 : Int32)) (by decide) 3 (by decide) (by decide) 2 7 rfl rfl (by decide) (by decide) 91 (hb hby own_d1_89) rfl ?_
        clear X eT; clear T; intro T h66 b67 kc70 X eT ga E68 V69
        have le_a := Nat.le_of_eq ga.symm
        have ne_b62_b67 : b62 ≠ b67 := Nat.ne_of_lt (Nat.lt_of_lt_of_le A64.lt le_a)
        have ne_b67_b62 : b67 ≠ b62 := Ne.symm ne_b62_b67
        have sz_b67 : h0.size ≤ b67 := Nat.le_trans sz_h le_a
        have ge_b67 : n0 ≤ b67 := Nat.le_trans Z0 sz_b67
        clear le_a ga
        replace P0_Old := P0_Old.ext E68
        replace A64 := A64.ext E68
        replace Sf_b62 := Safe.ext E68 C.1 Sf_b62
        replace F_value_b62 := F_value_b62.ext E68
        replace F_coder_b62 := F_coder_b62.ext E68
        replace F_hash_b62 := F_hash_b62.ext E68
        replace F_hashIsZero_b62 := F_hashIsZero_b62.ext E68
        replace K0 := K0.ext E68
        replace C := C.trans (CHr.ext E68 C.1)
        replace hk := Nat.le_trans hk E68.1
        replace sz_h : h0.size ≤ h66.size := Nat.le_trans sz_h E68.1
        replace V69 : Arv Z h66 b67 kc70 .char (3 : Int32) [(.int (0 : Int32)), (.int (0 : Int32)), (.int (0 : Int32))] (.int 0) := V69.pad (pad_rep [] _ 3)
        refine gdup X hx 92 (hb hby own_d1_91) rfl rfl ?_
        refine giconst X hx (0 : Int32) 93 (hb hby own_d1_92) rfl rfl ?_
        refine giloadN (v := (k &&& (255 : Int32))) X hx 94 (hb hby own_d1_93) rfl rfl ?_
        refine gcastore X hx hZ eT V69 (by decide) (by decide) 0 rfl (Nat.le_of_ble_eq_true rfl) N ge_b67 95 (hb hby own_d1_94) rfl ?_
        clear X eT N; clear T; intro T h72 L X eT N W71 V73
        have sfw := (Safe.arv (EL := own_EL) (vm := vm) hZ.alike V69 (fun z => by cases z))
        replace P0_Old := P0_Old.wr W71 ge_b67
        replace A64 := A64.wr W71
        replace Sf_b62 := Safe.wr W71 sfw C.1 Sf_b62
        replace F_value_b62 := F_value_b62.other W71 (Or.inl ne_b62_b67)
        replace F_coder_b62 := F_coder_b62.other W71 (Or.inl ne_b62_b67)
        replace F_hash_b62 := F_hash_b62.other W71 (Or.inl ne_b62_b67)
        replace F_hashIsZero_b62 := F_hashIsZero_b62.other W71 (Or.inl ne_b62_b67)
        replace K0 := K0.wr W71 (Or.inr sz_b67)
        replace C := C.trans (CHr.wr W71 sfw C.1)
        replace hk : k0 ≤ h72.size := by rw [Wr.size W71]; exact hk
        replace sz_h : h0.size ≤ h72.size := by rw [Wr.size W71]; exact sz_h
        replace V73 : Arv Z h72 b67 kc70 .char (3 : Int32) [(.int (k &&& (255 : Int32))), (.int (0 : Int32)), (.int (0 : Int32))] (.int 0) := by have z := V73; rw [own_nar8] at z; exact z
        refine gdup X hx 96 (hb hby own_d1_95) rfl rfl ?_
        refine giconst X hx (1 : Int32) 97 (hb hby own_d1_96) rfl rfl ?_
        refine giloadN (v := (((k.toUInt32 >>> ((8 : Int32) &&& 31).toUInt32).toInt32) &&& (255 : Int32))) X hx 98 (hb hby own_d1_97) rfl rfl ?_
        refine gcastore X hx hZ eT V73 (by decide) (by decide) 1 rfl (Nat.le_of_ble_eq_true rfl) N ge_b67 99 (hb hby own_d1_98) rfl ?_
        clear X eT N; clear T; intro T h75 L X eT N W74 V76
        have sfw := (Safe.arv (EL := own_EL) (vm := vm) hZ.alike V73 (fun z => by cases z))
        replace P0_Old := P0_Old.wr W74 ge_b67
        replace A64 := A64.wr W74
        replace Sf_b62 := Safe.wr W74 sfw C.1 Sf_b62
        replace F_value_b62 := F_value_b62.other W74 (Or.inl ne_b62_b67)
        replace F_coder_b62 := F_coder_b62.other W74 (Or.inl ne_b62_b67)
        replace F_hash_b62 := F_hash_b62.other W74 (Or.inl ne_b62_b67)
        replace F_hashIsZero_b62 := F_hashIsZero_b62.other W74 (Or.inl ne_b62_b67)
        replace K0 := K0.wr W74 (Or.inr sz_b67)
        replace C := C.trans (CHr.wr W74 sfw C.1)
        replace hk : k0 ≤ h75.size := by rw [Wr.size W74]; exact hk
        replace sz_h : h0.size ≤ h75.size := by rw [Wr.size W74]; exact sz_h
        replace V76 : Arv Z h75 b67 kc70 .char (3 : Int32) [(.int (k &&& (255 : Int32))), (.int (((k.toUInt32 >>> ((8 : Int32) &&& 31).toUInt32).toInt32) &&& (255 : Int32))), (.int (0 : Int32))] (.int 0) := by have z := V76; rw [own_nar8] at z; exact z
        refine gdup X hx 100 (hb hby own_d1_99) rfl rfl ?_
        refine giconst X hx (2 : Int32) 101 (hb hby own_d1_100) rfl rfl ?_
        refine giload (v := (((k.toUInt32 >>> ((16 : Int32) &&& 31).toUInt32).toInt32) &&& (255 : Int32))) X hx 103 (hb hby own_d1_101) rfl rfl ?_
        refine gcastore X hx hZ eT V76 (by decide) (by decide) 2 rfl (Nat.le_of_ble_eq_true rfl) N ge_b67 104 (hb hby own_d1_103) rfl ?_
        clear X eT N; clear T; intro T h78 L X eT N W77 V79
        have sfw := (Safe.arv (EL := own_EL) (vm := vm) hZ.alike V76 (fun z => by cases z))
        replace P0_Old := P0_Old.wr W77 ge_b67
        replace A64 := A64.wr W77
        replace Sf_b62 := Safe.wr W77 sfw C.1 Sf_b62
        replace F_value_b62 := F_value_b62.other W77 (Or.inl ne_b62_b67)
        replace F_coder_b62 := F_coder_b62.other W77 (Or.inl ne_b62_b67)
        replace F_hash_b62 := F_hash_b62.other W77 (Or.inl ne_b62_b67)
        replace F_hashIsZero_b62 := F_hashIsZero_b62.other W77 (Or.inl ne_b62_b67)
        replace K0 := K0.wr W77 (Or.inr sz_b67)
        replace C := C.trans (CHr.wr W77 sfw C.1)
        replace hk : k0 ≤ h78.size := by rw [Wr.size W77]; exact hk
        replace sz_h : h0.size ≤ h78.size := by rw [Wr.size W77]; exact sz_h
        replace V79 : Arv Z h78 b67 kc70 .char (3 : Int32) [(.int (k &&& (255 : Int32))), (.int (((k.toUInt32 >>> ((8 : Int32) &&& 31).toUInt32).toInt32) &&& (255 : Int32))), (.int (((k.toUInt32 >>> ((16 : Int32) &&& 31).toUInt32).toInt32) &&& (255 : Int32)))] (.int 0) := by have z := V79; rw [own_nar8] at z; exact z
        refine gspecial (y := (⟨"java/lang/String", "<init>", "([C)V"⟩ : MethodName)) (a := b62) (argsL := [(.ref b67)]) (st := [(.ref b62)]) X hx hZ hown rfl (own_w9 hw) (own_w10 hw) (own_w11 hw) (by decide) (payNew (W := 1) (cs := ([(k &&& (255 : Int32)), (((k.toUInt32 >>> ((8 : Int32) &&& 31).toUInt32).toInt32) &&& (255 : Int32)), (((k.toUInt32 >>> ((16 : Int32) &&& 31).toUInt32).toInt32) &&& (255 : Int32))] : List Int32)) (n := 3) (n0 := n0) hZ hw ge_b62 (Nat.le_trans Z0 sz_h) A64 F_value_b62 F_coder_b62 F_hash_b62 F_hashIsZero_b62 V79 rfl (O2.ext P0_Old.2) P5 rfl rfl (by decide) (by decide) (own_cS (own_rng _) (own_cS (own_rng _) (own_cS (own_rng _) own_c0))) (by decide) (by decide)) eT (by rw [hml]; rfl) (lenOf own_pd8 rfl) rfl (Nat.le_of_eq rfl) 3 10 rfl rfl (by decide) (by decide) 107 (hb hby own_d1_104) rfl ?_
        clear X eT; clear T; intro v T h85 L2 Lc X eT hL hQ86
        obtain ⟨rfl, Nq, K80, F83, F84, t81, zz_t81, Str82⟩ := hQ86
        replace N : Fr n0 L2 := by rw [hL]; exact Fr.app N Nq
        clear Nq hL
        have ne_b62_t81 : b62 ≠ t81 := Nat.ne_of_lt (Nat.lt_of_lt_of_le A64.lt zz_t81)
        have ne_t81_b62 : t81 ≠ b62 := Ne.symm ne_b62_t81
        have ne_b67_t81 : b67 ≠ t81 := Nat.ne_of_lt (Nat.lt_of_lt_of_le V79.lt zz_t81)
        have ne_t81_b67 : t81 ≠ b67 := Ne.symm ne_b67_t81
        have sz_t81 : h0.size ≤ t81 := Nat.le_trans sz_h zz_t81
        have ge_t81 : n0 ≤ t81 := Nat.le_trans Z0 sz_t81
        have sfs := (sfS Sf_b62 sf0)
        replace P0_Old := P0_Old.keep K80 (allS ge_b62 all0)
        replace Sf_b62 := Safe.keep K80 sfs C.1 Sf_b62
        replace V79 := V79.keep K80 (ninS ne_b67_b62 nin0)
        replace A64 := A64.keep K80
        replace K0 := K0.trans K80 (allS (Or.inr sz_b62) all0)
        replace C := C.trans (CHr.keep K80 sfs C.1)
        replace hk := Nat.le_trans hk K80.1
        replace sz_h : h0.size ≤ h85.size := Nat.le_trans sz_h K80.1
        show Go p e below _ T (mkF m 107 #[.val (.int k), .val (.int (((k.toUInt32 >>> ((24 : Int32) &&& 31).toUInt32).toInt32) &&& (3 : Int32))), .val (.int (k &&& (255 : Int32))), .val (.int (((k.toUInt32 >>> ((8 : Int32) &&& 31).toUInt32).toInt32) &&& (255 : Int32))), .val (.int (((k.toUInt32 >>> ((16 : Int32) &&& 31).toUInt32).toInt32) &&& (255 : Int32)))] [(.ref b62)])
        rw [show ([(k &&& (255 : Int32)), (((k.toUInt32 >>> ((8 : Int32) &&& 31).toUInt32).toInt32) &&& (255 : Int32)), (((k.toUInt32 >>> ((16 : Int32) &&& 31).toUInt32).toInt32) &&& (255 : Int32))] : List Int32) = own_txt k from (own_tx3 g0_36 g1_52 g2_62).symm] at Str82
        exact gRetS X hx hlk hret rfl (Or.inr (Or.inr (Or.inr (Or.inr ⟨rfl, rfl, rfl⟩)))) (hb hby own_d1_107) eT hS hk hZ (own_EW hw) C (by decide) (by decide) ⟨b62, t81, rfl, N, K0, sz_b62, Str82, F83, F84⟩
set_option maxRecDepth 65536 in
set_option maxHeartbeats 40000000 in
theorem rm6 (l : Launch) (Z : State) (a0 : Array Value) (hw : ∀ d ∈ tables_1, d.before a0 Z = true) (h0 : Heap) (n0 : Nat) (Z0 : n0 ≤ h0.size) :
    CtP l (⟨"java/lang/Integer", "numberOfTrailingZeros", "(I)I"⟩ : MethodName) jdk_33_method_48_code 2 (some .int) [] ({ frames := 0, cells := 0, slots := 0, locals := 0 } : Room) Z #[(.int (32 : Int32))] h0 (fun v h L => v = some (.int (5 : Int32)) ∧ Fr n0 L ∧ h = h0) := by
  refine CtP.walk (Ls := #[.val (.int (32 : Int32)), .unset]) own_pn9 (fun m => by first | (simp [entryFrame, mkF, argsToLocals, Value.category]; done) | rfl) ?_
  intro p e s m below meth cc_ T hx hby hml hown hnm hret hlk hZ X eT
  have N := Fr.nil n0
  have sz_h : h0.size ≤ h0.size := Nat.le_refl _
  refine giloadN (v := (32 : Int32)) X hx 1 (hb hby own_d6_0) rfl rfl ?_
  refine giconst X hx (-1 : Int32) 2 (hb hby own_d6_1) rfl rfl ?_
  refine gixor X hx 3 (hb hby own_d6_2) rfl ?_
  rw [show ((32 : Int32) ^^^ (-1 : Int32)) = (-33 : Int32) from by decide]
  refine giloadN (v := (32 : Int32)) X hx 4 (hb hby own_d6_3) rfl rfl ?_
  refine giconst X hx (1 : Int32) 5 (hb hby own_d6_4) rfl rfl ?_
  refine gisub X hx 6 (hb hby own_d6_5) rfl ?_
  rw [show ((32 : Int32) - (1 : Int32)) = (31 : Int32) from by decide]
  refine giand X hx 7 (hb hby own_d6_6) rfl ?_
  rw [show ((-33 : Int32) &&& (31 : Int32)) = (31 : Int32) from by decide]
  refine gistoreN X hx #[.val (.int (31 : Int32)), .unset] 8 (hb hby own_d6_7) rfl rfl ?_
  refine giloadN (v := (31 : Int32)) X hx 9 (hb hby own_d6_8) rfl rfl ?_
  refine gifYes X hx 17 (hb hby own_d6_9) (by decide) (by decide) (by decide) ?_
  refine giconst X hx (1 : Int32) 18 (hb hby own_d6_17) rfl rfl ?_
  refine gistoreN X hx #[.val (.int (31 : Int32)), .val (.int (1 : Int32))] 19 (hb hby own_d6_18) rfl rfl ?_
  refine giloadN (v := (31 : Int32)) X hx 20 (hb hby own_d6_19) rfl rfl ?_
  refine gldcWI X hx hZ hown (own_w45 hw) 23 (hb hby own_d6_20) rfl ?_
  refine gicmpYes X hx 34 (hb hby own_d6_23) (by decide) (by decide) (by decide) ?_
  refine giloadN (v := (31 : Int32)) X hx 35 (hb hby own_d6_34) rfl rfl ?_
  refine gsipush X hx (256 : Int32) 38 (hb hby own_d6_35) rfl rfl ?_
  refine gicmpYes X hx 49 (hb hby own_d6_38) (by decide) (by decide) (by decide) ?_
  refine giloadN (v := (31 : Int32)) X hx 50 (hb hby own_d6_49) rfl rfl ?_
  refine gbipush X hx (16 : Int32) 52 (hb hby own_d6_50) rfl rfl ?_
  refine gicmpNo X hx 55 (hb hby own_d6_52) rfl (by decide) ?_
  refine giinc X hx #[.val (.int (31 : Int32)), .val (.int (5 : Int32))] 58 (hb hby own_d6_55) rfl rfl rfl ?_
  refine giloadN (v := (31 : Int32)) X hx 59 (hb hby own_d6_58) rfl rfl ?_
  refine giconst X hx (4 : Int32) 60 (hb hby own_d6_59) rfl rfl ?_
  refine giushr X hx 61 (hb hby own_d6_60) rfl ?_
  rw [show (((31 : Int32).toUInt32 >>> ((4 : Int32) &&& 31).toUInt32).toInt32) = (1 : Int32) from by decide]
  refine gistoreN X hx #[.val (.int (1 : Int32)), .val (.int (5 : Int32))] 62 (hb hby own_d6_61) rfl rfl ?_
  refine giloadN (v := (1 : Int32)) X hx 63 (hb hby own_d6_62) rfl rfl ?_
  refine giconst X hx (4 : Int32) 64 (hb hby own_d6_63) rfl rfl ?_
  refine gicmpYes X hx 74 (hb hby own_d6_64) (by decide) (by decide) (by decide) ?_
  refine giloadN (v := (5 : Int32)) X hx 75 (hb hby own_d6_74) rfl rfl ?_
  refine giloadN (v := (1 : Int32)) X hx 76 (hb hby own_d6_75) rfl rfl ?_
  refine giconst X hx (1 : Int32) 77 (hb hby own_d6_76) rfl rfl ?_
  refine giushr X hx 78 (hb hby own_d6_77) rfl ?_
  rw [show (((1 : Int32).toUInt32 >>> ((1 : Int32) &&& 31).toUInt32).toInt32) = (0 : Int32) from by decide]
  refine giadd X hx 79 (hb hby own_d6_78) rfl ?_
  rw [show ((5 : Int32) + (0 : Int32)) = (5 : Int32) from by decide]
  exact gRetP X hx hlk hret rfl (Or.inl ⟨rfl, by simp, _, rfl⟩) (hb hby own_d6_79) eT (by decide) (by decide) ⟨rfl, N, rfl⟩
set_option maxRecDepth 65536 in
set_option maxHeartbeats 40000000 in
theorem rm5 (l : Launch) (Z : State) (a0 : Array Value) (hw : ∀ d ∈ tables_1, d.before a0 Z = true) (ix : Addr) (h0 : Heap) (n0 : Nat) (Z0 : n0 ≤ h0.size) (ge_ix : n0 ≤ ix) (P0_Exa : Exa Z h0 ix "tabulon/StringIndex") (P1_Fld : Fld Z h0 ix "tabulon/StringIndex" "strings" "[Ljava/lang/String;" .null) (P2_Fld : Fld Z h0 ix "tabulon/StringIndex" "slots" "[I" .null) (P3_Fld : Fld Z h0 ix "tabulon/StringIndex" "size" "I" (.int (0 : Int32))) (P4_Fld : Fld Z h0 ix "tabulon/StringIndex" "shift" "I" (.int (0 : Int32))) :
    CtP l (⟨"tabulon/StringIndex", "<init>", "()V"⟩ : MethodName) prog_9_method_1_code 1 none [] ({ frames := 1, cells := 2, slots := 48, locals := 15 } : Room) Z #[(.ref ix)] h0 (fun v h L => ∃ (ss : Addr), ∃ (sl : Addr), ∃ (ks : ClassId), ∃ (ki : ClassId), v = none ∧ Fr n0 L ∧ Keep h0 h [ix] ∧ h0.size ≤ ss ∧ h0.size ≤ sl ∧ Fld Z h ix "tabulon/StringIndex" "strings" "[Ljava/lang/String;" (.ref ss) ∧ Fld Z h ix "tabulon/StringIndex" "slots" "[I" (.ref sl) ∧ Fld Z h ix "tabulon/StringIndex" "size" "I" (.int (0 : Int32)) ∧ Fld Z h ix "tabulon/StringIndex" "shift" "I" (.int (27 : Int32)) ∧ Arv Z h ss ks (.object "java/lang/String") (16 : Int32) [.null, .null, .null, .null, .null, .null, .null, .null, .null, .null, .null, .null, .null, .null, .null, .null] .null ∧ Arv Z h sl ki .int (32 : Int32) ((List.replicate 32 (0 : Int32)).map Value.int) (.int 0) ∧ Ovr Z ks "java/lang/String" ∧ ss ≠ sl) := by
  refine CtP.walk (Ls := #[.val (.ref ix)]) (plainFor_of_name own_pn10) (fun m => by first | (simp [entryFrame, mkF, argsToLocals, Value.category]; done) | rfl) ?_
  intro p e s m below meth cc_ T hx hby hml hown hnm hret hlk hZ X eT
  have N := Fr.nil n0
  have K0 := Keep.refl h0 [ix]
  have sz_h : h0.size ≤ h0.size := Nat.le_refl _
  refine galoadN (v := (.ref ix)) X hx 1 (hb hby own_d5_0) rfl rfl rfl ?_
  refine ginitO X hx hZ hown (own_w33 hw) (own_w17 hw) (own_w18 hw) eT (by rw [hml]; rfl) (by decide) 0 (Nat.le_of_eq rfl) (by decide) 4 (hb hby own_d5_1) rfl ?_
  clear X eT; clear T; intro T X eT
  refine galoadN (v := (.ref ix)) X hx 5 (hb hby own_d5_4) rfl rfl rfl ?_
  refine gbipush X hx (16 : Int32) 7 (hb hby own_d5_5) rfl rfl ?_
  refine gnewR X hx hZ hown (own_w34 hw) (own_w35 hw) eT (n := (16 : Int32)) (by decide) 16 (by decide) (by decide) 1 16 rfl rfl (by decide) (by decide) 10 (hb hby own_d5_7) rfl ?_
  clear X eT; clear T; intro T h1 b2 kc5 X eT ga E3 V4 Ov6
  have le_a := Nat.le_of_eq ga.symm
  have ne_ix_b2 : ix ≠ b2 := Nat.ne_of_lt (Nat.lt_of_lt_of_le P0_Exa.lt le_a)
  have ne_b2_ix : b2 ≠ ix := Ne.symm ne_ix_b2
  have sz_b2 : h0.size ≤ b2 := Nat.le_trans sz_h le_a
  have ge_b2 : n0 ≤ b2 := Nat.le_trans Z0 sz_b2
  clear le_a ga
  replace P0_Exa := P0_Exa.ext E3
  replace P1_Fld := P1_Fld.ext E3
  replace P2_Fld := P2_Fld.ext E3
  replace P3_Fld := P3_Fld.ext E3
  replace P4_Fld := P4_Fld.ext E3
  replace K0 := K0.ext E3
  replace sz_h : h0.size ≤ h1.size := Nat.le_trans sz_h E3.1
  replace V4 : Arv Z h1 b2 kc5 (.object "java/lang/String") (16 : Int32) [.null, .null, .null, .null, .null, .null, .null, .null, .null, .null, .null, .null, .null, .null, .null, .null] .null := V4.pad (pad_rep [] _ 16)
  refine gputF X hx hZ (host := "") hown (Or.inl (own_w36 hw)) Via.refl eT P1_Fld P0_Exa (Or.inl (own_w37 hw)) (own_w28 hw) (ty := (.array (.object "java/lang/String"))) own_pf4 rfl rfl N ge_ix 13 (hb hby own_d5_10) rfl ?_
  clear X eT N; clear T; intro T h7 L X eT N W8
  replace P0_Exa := P0_Exa.wr W8
  replace P1_Fld := P1_Fld.same W8
  replace P2_Fld := P2_Fld.other W8 (Or.inr (slot_ne (Or.inl (own_w40 hw)) (Or.inl (own_w37 hw)) (by decide) own_pf5 own_pf4))
  replace P3_Fld := P3_Fld.other W8 (Or.inr (slot_ne (Or.inl (own_w78 hw)) (Or.inl (own_w37 hw)) (by decide) own_pf2 own_pf4))
  replace P4_Fld := P4_Fld.other W8 (Or.inr (slot_ne (Or.inl (own_w47 hw)) (Or.inl (own_w37 hw)) (by decide) own_pf2 own_pf4))
  replace V4 := V4.other W8 ne_b2_ix
  replace K0 := K0.wr W8 (Or.inl (List.mem_of_getElem? (i := 0) rfl))
  replace sz_h : h0.size ≤ h7.size := by rw [Wr.size W8]; exact sz_h
  refine galoadN (v := (.ref ix)) X hx 14 (hb hby own_d5_13) rfl rfl rfl ?_
  refine gbipush X hx (32 : Int32) 16 (hb hby own_d5_14) rfl rfl ?_
  refine gnewP (aty := .int) X hx hZ (own_w38 hw) eT (n := (32 : Int32)) (by decide) 32 (by decide) (by decide) 2 48 rfl rfl (by decide) (by decide) 18 (hb hby own_d5_16) rfl ?_
  clear X eT; clear T; intro T h9 b10 kc13 X eT ga E11 V12
  have le_a := Nat.le_of_eq ga.symm
  have ne_ix_b10 : ix ≠ b10 := Nat.ne_of_lt (Nat.lt_of_lt_of_le P0_Exa.lt le_a)
  have ne_b10_ix : b10 ≠ ix := Ne.symm ne_ix_b10
  have ne_b2_b10 : b2 ≠ b10 := Nat.ne_of_lt (Nat.lt_of_lt_of_le V4.lt le_a)
  have ne_b10_b2 : b10 ≠ b2 := Ne.symm ne_b2_b10
  have sz_b10 : h0.size ≤ b10 := Nat.le_trans sz_h le_a
  have ge_b10 : n0 ≤ b10 := Nat.le_trans Z0 sz_b10
  clear le_a ga
  replace P0_Exa := P0_Exa.ext E11
  replace P1_Fld := P1_Fld.ext E11
  replace P2_Fld := P2_Fld.ext E11
  replace P3_Fld := P3_Fld.ext E11
  replace P4_Fld := P4_Fld.ext E11
  replace V4 := V4.ext E11
  replace K0 := K0.ext E11
  replace sz_h : h0.size ≤ h9.size := Nat.le_trans sz_h E11.1
  replace V12 : Arv Z h9 b10 kc13 .int (32 : Int32) [(.int (0 : Int32)), (.int (0 : Int32)), (.int (0 : Int32)), (.int (0 : Int32)), (.int (0 : Int32)), (.int (0 : Int32)), (.int (0 : Int32)), (.int (0 : Int32)), (.int (0 : Int32)), (.int (0 : Int32)), (.int (0 : Int32)), (.int (0 : Int32)), (.int (0 : Int32)), (.int (0 : Int32)), (.int (0 : Int32)), (.int (0 : Int32)), (.int (0 : Int32)), (.int (0 : Int32)), (.int (0 : Int32)), (.int (0 : Int32)), (.int (0 : Int32)), (.int (0 : Int32)), (.int (0 : Int32)), (.int (0 : Int32)), (.int (0 : Int32)), (.int (0 : Int32)), (.int (0 : Int32)), (.int (0 : Int32)), (.int (0 : Int32)), (.int (0 : Int32)), (.int (0 : Int32)), (.int (0 : Int32))] (.int 0) := V12.pad (pad_rep [] _ 32)
  refine gputF X hx hZ (host := "") hown (Or.inl (own_w39 hw)) Via.refl eT P2_Fld P0_Exa (Or.inl (own_w40 hw)) (own_w28 hw) (ty := (.array .int)) own_pf5 rfl rfl N ge_ix 21 (hb hby own_d5_18) rfl ?_
  clear X eT N; clear T; intro T h14 L X eT N W15
  replace P0_Exa := P0_Exa.wr W15
  replace P1_Fld := P1_Fld.other W15 (Or.inr (slot_ne (Or.inl (own_w37 hw)) (Or.inl (own_w40 hw)) (by decide) own_pf4 own_pf5))
  replace P2_Fld := P2_Fld.same W15
  replace P3_Fld := P3_Fld.other W15 (Or.inr (slot_ne (Or.inl (own_w78 hw)) (Or.inl (own_w40 hw)) (by decide) own_pf2 own_pf5))
  replace P4_Fld := P4_Fld.other W15 (Or.inr (slot_ne (Or.inl (own_w47 hw)) (Or.inl (own_w40 hw)) (by decide) own_pf2 own_pf5))
  replace V4 := V4.other W15 ne_b2_ix
  replace V12 := V12.other W15 ne_b10_ix
  replace K0 := K0.wr W15 (Or.inl (List.mem_of_getElem? (i := 0) rfl))
  replace sz_h : h0.size ≤ h14.size := by rw [Wr.size W15]; exact sz_h
  refine galoadN (v := (.ref ix)) X hx 22 (hb hby own_d5_21) rfl rfl rfl ?_
  refine gbipush X hx (32 : Int32) 24 (hb hby own_d5_22) rfl rfl ?_
  refine gbipush X hx (32 : Int32) 26 (hb hby own_d5_24) rfl rfl ?_
  refine gstatic (y := (⟨"java/lang/Integer", "numberOfTrailingZeros", "(I)I"⟩ : MethodName)) (argsL := [(.int (32 : Int32))]) (st := [(.int (32 : Int32)), (.ref ix)]) X hx hZ hown (own_w41 hw) (own_w42 hw) (own_w43 hw) (own_w44 hw) (by decide) (payP (W := 2) (rm6 l Z a0 hw h14 n0 (Nat.le_trans Z0 sz_h)) hZ (own_w44 hw) (own_w43 hw) (by decide) (by decide)) eT (by rw [hml]; rfl) (lenOf own_pd10 rfl) rfl (Nat.le_of_eq rfl) 2 48 rfl rfl (by decide) (by decide) 29 (hb hby own_d5_26) rfl ?_
  clear X eT; clear T; intro v T h16 L2 Lc X eT hL hQ17
  obtain ⟨rfl, Nq, hh⟩ := hQ17
  replace N : Fr n0 L2 := by rw [hL]; exact Fr.app N Nq
  clear Nq hL
  replace hh := hh.symm; subst hh
  show Go p e below _ T (mkF m 29 #[.val (.ref ix)] [(.int (5 : Int32)), (.int (32 : Int32)), (.ref ix)])
  refine gisub X hx 30 (hb hby own_d5_29) rfl ?_
  rw [show ((32 : Int32) - (5 : Int32)) = (27 : Int32) from by decide]
  refine gputF X hx hZ (host := "") hown (Or.inl (own_w46 hw)) Via.refl eT P4_Fld P0_Exa (Or.inl (own_w47 hw)) (own_w28 hw) (ty := .int) own_pf2 rfl rfl N ge_ix 33 (hb hby own_d5_30) rfl ?_
  clear X eT N; clear T; intro T h20 L X eT N W21
  replace P0_Exa := P0_Exa.wr W21
  replace P1_Fld := P1_Fld.other W21 (Or.inr (slot_ne (Or.inl (own_w37 hw)) (Or.inl (own_w47 hw)) (by decide) own_pf4 own_pf2))
  replace P2_Fld := P2_Fld.other W21 (Or.inr (slot_ne (Or.inl (own_w40 hw)) (Or.inl (own_w47 hw)) (by decide) own_pf5 own_pf2))
  replace P3_Fld := P3_Fld.other W21 (Or.inr (slot_ne (Or.inl (own_w78 hw)) (Or.inl (own_w47 hw)) (by decide) own_pf2 own_pf2))
  replace P4_Fld := P4_Fld.same W21
  replace V4 := V4.other W21 ne_b2_ix
  replace V12 := V12.other W21 ne_b10_ix
  replace K0 := K0.wr W21 (Or.inl (List.mem_of_getElem? (i := 0) rfl))
  replace sz_h : h0.size ≤ h20.size := by rw [Wr.size W21]; exact sz_h
  exact gRetP0 X hx hlk hret (hb hby own_d5_33) eT (by decide) (by decide) ⟨b2, b10, kc5, kc13, rfl, N, K0, sz_b2, sz_b10, P1_Fld, P2_Fld, P3_Fld, P4_Fld, V4, V12, Ov6, ne_b2_b10⟩
set_option maxRecDepth 65536 in
set_option maxHeartbeats 40000000 in
theorem rmSl0 (l : Launch) (Z : State) (a0 : Array Value) (hw : ∀ d ∈ tables_1, d.before a0 Z = true) (x : Addr) (t : Addr) (cs : List Int32) (f : List Int32) (rs : Int32) (nn : Nat) (ix : Addr) (ss : Addr) (sl : Addr) (ks : ClassId) (ki : ClassId) (G1 : Int32) (h0 : Heap) (n0 : Nat) (Z0 : n0 ≤ h0.size) (ge_x : n0 ≤ x) (P0_Old : Old Z n0 h0) (P1_Exa : Exa Z h0 ix "tabulon/StringIndex") (P2_Fld : Fld Z h0 ix "tabulon/StringIndex" "strings" "[Ljava/lang/String;" (.ref ss)) (P3_Fld : Fld Z h0 ix "tabulon/StringIndex" "slots" "[I" (.ref sl)) (P4_Fld : Fld Z h0 ix "tabulon/StringIndex" "size" "I" (.int (0 : Int32))) (P5_Fld : Fld Z h0 ix "tabulon/StringIndex" "shift" "I" (.int (27 : Int32))) (P6_Arv : Arv Z h0 ss ks (.object "java/lang/String") (16 : Int32) [.null, .null, .null, .null, .null, .null, .null, .null, .null, .null, .null, .null, .null, .null, .null, .null] .null) (P7_Arv : Arv Z h0 sl ki .int (32 : Int32) (f.map Value.int) (.int 0)) (P8_Str : Str Z h0 x t cs) (P9_Fld : Fld Z h0 x "java/lang/String" "hash" "I" (.int (0 : Int32))) (P10_Fld : Fld Z h0 x "java/lang/String" "hashIsZero" "Z" (.int (0 : Int32))) (O2 : Sta Z Z.heap "java/lang/String" "COMPACT_STRINGS" "Z" (.int G1)) (P5 : ¬ G1 = (0 : Int32)) (hI : own_Inv f ([] : List (List Int32))) (hpr : own_probe f ([] : List (List Int32)) cs nn (own_H cs) = some rs) (hl3 : cs.length ≤ 3) :
    CtP l (⟨"tabulon/StringIndex", "slot", "(Ljava/lang/String;)I"⟩ : MethodName) prog_9_method_7_code 4 (some .int) [] ({ frames := 4, cells := 0, slots := 0, locals := 58 } : Room) Z #[(.ref ix), (.ref x)] h0 (fun v h L => v = some (.int rs) ∧ Fr n0 L ∧ Keep h0 h [x] ∧ Str Z h x t cs) := by
  refine CtP.walk (Ls := #[.val (.ref ix), .val (.ref x), .unset, .unset]) (plainFor_of_name own_pn10) (fun m => by first | (simp [entryFrame, mkF, argsToLocals, Value.category]; done) | rfl) ?_
  intro p e s m below meth cc_ T hx hby hml hown hnm hret hlk hZ X eT
  have N := Fr.nil n0
  have K0 := Keep.refl h0 [x]
  have sz_h : h0.size ≤ h0.size := Nat.le_refl _
  refine galoadN (v := (.ref ix)) X hx 1 (hb hby own_d8_0) rfl rfl rfl ?_
  refine ggetF X hx hZ (host := "") hown (Or.inl (own_w39 hw)) Via.refl eT P3_Fld 4 (hb hby own_d8_1) rfl ?_
  clear X eT; clear T; intro T X eT
  refine garrlen X hx hZ eT P7_Arv 5 (hb hby own_d8_4) rfl ?_
  refine giconst X hx (1 : Int32) 6 (hb hby own_d8_5) rfl rfl ?_
  refine gisub X hx 7 (hb hby own_d8_6) rfl ?_
  rw [show ((32 : Int32) - (1 : Int32)) = (31 : Int32) from by decide]
  refine gistoreN X hx #[.val (.ref ix), .val (.ref x), .val (.int (31 : Int32)), .unset] 8 (hb hby own_d8_7) rfl rfl ?_
  refine galoadN (v := (.ref x)) X hx 9 (hb hby own_d8_8) rfl rfl rfl ?_
  refine gvirtual (y := (⟨"java/lang/String", "hashCode", "()I"⟩ : MethodName)) (z := (⟨"java/lang/String", "hashCode", "()I"⟩ : MethodName)) (a := x) (argsL := []) (st := []) X hx hZ hown (own_w57 hw) (own_w58 hw) (notFace_of_selects (args := #[]) (mvT hZ (own_w60 hw))) (own_w60 hw) (own_w59 hw) (by decide) P8_Str.exa (payHash (W := 0) (n0 := n0) hZ hw ge_x (Nat.le_trans Z0 sz_h) P8_Str P9_Fld P10_Fld P0_Old O2 P5 hl3 (by decide) (by decide)) eT (by rw [hml]; rfl) (lenOf own_pd11 rfl) rfl (Nat.le_of_eq rfl) 0 0 rfl rfl (by decide) (by decide) 12 (hb hby own_d8_9) rfl ?_
  clear X eT; clear T; intro v T h3 L2 Lc X eT hL hQ4
  obtain ⟨rfl, Nq, K1, Str2⟩ := hQ4
  replace N : Fr n0 L2 := by rw [hL]; exact Fr.app N Nq
  clear Nq hL
  have ne_ix_x : ix ≠ x := ne_exa P1_Exa P8_Str.exa (by decide)
  have ne_ss_x : ss ≠ x := Ne.symm (Exa.neArv P8_Str.exa P6_Arv (own_w6 hw))
  have ne_sl_x : sl ≠ x := Ne.symm (Exa.neArv P8_Str.exa P7_Arv (own_w6 hw))
  replace P0_Old := P0_Old.keep K1 (allS ge_x all0)
  replace P1_Exa := P1_Exa.keep K1
  replace P2_Fld := P2_Fld.keep K1 (ninS ne_ix_x nin0)
  replace P3_Fld := P3_Fld.keep K1 (ninS ne_ix_x nin0)
  replace P4_Fld := P4_Fld.keep K1 (ninS ne_ix_x nin0)
  replace P5_Fld := P5_Fld.keep K1 (ninS ne_ix_x nin0)
  replace P6_Arv := P6_Arv.keep K1 (ninS ne_ss_x nin0)
  replace P7_Arv := P7_Arv.keep K1 (ninS ne_sl_x nin0)
  replace K0 := K0.trans K1 (allS (Or.inl (List.mem_of_getElem? (i := 0) rfl)) all0)
  replace sz_h : h0.size ≤ h3.size := Nat.le_trans sz_h K1.1
  show Go p e below _ T (mkF m 12 #[.val (.ref ix), .val (.ref x), .val (.int (31 : Int32)), .unset] [(.int (own_hash cs))])
  refine gldcI X hx hZ hown (own_w76 hw) 14 (hb hby own_d8_12) rfl ?_
  refine gimul X hx 15 (hb hby own_d8_14) rfl ?_
  refine galoadN (v := (.ref ix)) X hx 16 (hb hby own_d8_15) rfl rfl rfl ?_
  refine ggetF X hx hZ (host := "") hown (Or.inl (own_w46 hw)) Via.refl eT P5_Fld 19 (hb hby own_d8_16) rfl ?_
  clear X eT; clear T; intro T X eT
  refine giushr X hx 20 (hb hby own_d8_19) rfl ?_
  rw [own_Hd]
  show Go p e below _ T (mkF m 20 #[.val (.ref ix), .val (.ref x), .val (.int (31 : Int32)), .unset] [(.int (own_H cs))])
  refine gistoreN X hx #[.val (.ref ix), .val (.ref x), .val (.int (31 : Int32)), .val (.int (own_H cs))] 21 (hb hby own_d8_20) rfl rfl ?_
  have hR := own_HR cs
  revert X eT; revert T; revert N; revert L2; revert hR; revert hpr; generalize own_H cs = r; induction nn generalizing r
  · intro hpr; exact absurd hpr (by simp [own_probe])
  · rename_i nn ih; intro hpr hR L2 N T X eT
    show Go p e below _ T (mkF m 21 #[.val (.ref ix), .val (.ref x), .val (.int (31 : Int32)), .val (.int r)] [])
    refine galoadN (v := (.ref ix)) X hx 22 (hb hby own_d8_21) rfl rfl rfl ?_
    refine ggetF X hx hZ (host := "") hown (Or.inl (own_w39 hw)) Via.refl eT P3_Fld 25 (hb hby own_d8_22) rfl ?_
    clear X eT; clear T; intro T X eT
    refine giloadN (v := r) X hx 26 (hb hby own_d8_25) rfl rfl ?_
    refine giaload X hx hZ eT P7_Arv (.int (own_at f r)) hR.1 hR.2 (own_gm f r) 27 (hb hby own_d8_26) rfl ?_
    rcases Decidable.em ((own_at f r) = (0 : Int32)) with hz27 | hz27
    · refine gifYes X hx 59 (hb hby own_d8_27) ((if0 _ _).trans (teq hz27).1) (by decide) (by decide) ?_
      refine giloadN (v := r) X hx 60 (hb hby own_d8_59) rfl rfl ?_
      exact gRetP X hx hlk hret rfl (Or.inl ⟨rfl, by simp, _, rfl⟩) (hb hby own_d8_60) eT (by decide) (by decide) ⟨(by rw [show r = rs from Option.some.inj ((own_pz hz27).symm.trans hpr)]), N, K0, Str2⟩
    · refine gifNo X hx 30 (hb hby own_d8_27) rfl ((if0 _ _).trans (feq hz27).1) ?_
      exact absurd (own_bd0 hI r) hz27
set_option maxRecDepth 65536 in
set_option maxHeartbeats 40000000 in
theorem rmSl1 (l : Launch) (Z : State) (a0 : Array Value) (hw : ∀ d ∈ tables_1, d.before a0 Z = true) (x : Addr) (t : Addr) (cs : List Int32) (f : List Int32) (rs : Int32) (nn : Nat) (ix : Addr) (ss : Addr) (sl : Addr) (ks : ClassId) (ki : ClassId) (G1 : Int32) (x0 : Addr) (t0 : Addr) (d0 : List Int32) (h0 : Heap) (n0 : Nat) (Z0 : n0 ≤ h0.size) (ge_x : n0 ≤ x) (P0_Old : Old Z n0 h0) (P1_Exa : Exa Z h0 ix "tabulon/StringIndex") (P2_Fld : Fld Z h0 ix "tabulon/StringIndex" "strings" "[Ljava/lang/String;" (.ref ss)) (P3_Fld : Fld Z h0 ix "tabulon/StringIndex" "slots" "[I" (.ref sl)) (P4_Fld : Fld Z h0 ix "tabulon/StringIndex" "size" "I" (.int (1 : Int32))) (P5_Fld : Fld Z h0 ix "tabulon/StringIndex" "shift" "I" (.int (27 : Int32))) (P6_Arv : Arv Z h0 ss ks (.object "java/lang/String") (16 : Int32) [(.ref x0), .null, .null, .null, .null, .null, .null, .null, .null, .null, .null, .null, .null, .null, .null, .null] .null) (P7_Arv : Arv Z h0 sl ki .int (32 : Int32) (f.map Value.int) (.int 0)) (P8_Str : Str Z h0 x t cs) (P9_Fld : Fld Z h0 x "java/lang/String" "hash" "I" (.int (0 : Int32))) (P10_Fld : Fld Z h0 x "java/lang/String" "hashIsZero" "Z" (.int (0 : Int32))) (P11_Str : Str Z h0 x0 t0 d0) (O2 : Sta Z Z.heap "java/lang/String" "COMPACT_STRINGS" "Z" (.int G1)) (P5 : ¬ G1 = (0 : Int32)) (hI : own_Inv f ([d0] : List (List Int32))) (hpr : own_probe f ([d0] : List (List Int32)) cs nn (own_H cs) = some rs) (hl3 : cs.length ≤ 3) (nx0 : x0 ≠ x) (nt0 : t0 ≠ x) :
    CtP l (⟨"tabulon/StringIndex", "slot", "(Ljava/lang/String;)I"⟩ : MethodName) prog_9_method_7_code 4 (some .int) [] ({ frames := 4, cells := 0, slots := 0, locals := 58 } : Room) Z #[(.ref ix), (.ref x)] h0 (fun v h L => v = some (.int rs) ∧ Fr n0 L ∧ Keep h0 h [x] ∧ Str Z h x t cs) := by
  refine CtP.walk (Ls := #[.val (.ref ix), .val (.ref x), .unset, .unset]) (plainFor_of_name own_pn10) (fun m => by first | (simp [entryFrame, mkF, argsToLocals, Value.category]; done) | rfl) ?_
  intro p e s m below meth cc_ T hx hby hml hown hnm hret hlk hZ X eT
  have N := Fr.nil n0
  have K0 := Keep.refl h0 [x]
  have sz_h : h0.size ≤ h0.size := Nat.le_refl _
  refine galoadN (v := (.ref ix)) X hx 1 (hb hby own_d8_0) rfl rfl rfl ?_
  refine ggetF X hx hZ (host := "") hown (Or.inl (own_w39 hw)) Via.refl eT P3_Fld 4 (hb hby own_d8_1) rfl ?_
  clear X eT; clear T; intro T X eT
  refine garrlen X hx hZ eT P7_Arv 5 (hb hby own_d8_4) rfl ?_
  refine giconst X hx (1 : Int32) 6 (hb hby own_d8_5) rfl rfl ?_
  refine gisub X hx 7 (hb hby own_d8_6) rfl ?_
  rw [show ((32 : Int32) - (1 : Int32)) = (31 : Int32) from by decide]
  refine gistoreN X hx #[.val (.ref ix), .val (.ref x), .val (.int (31 : Int32)), .unset] 8 (hb hby own_d8_7) rfl rfl ?_
  refine galoadN (v := (.ref x)) X hx 9 (hb hby own_d8_8) rfl rfl rfl ?_
  refine gvirtual (y := (⟨"java/lang/String", "hashCode", "()I"⟩ : MethodName)) (z := (⟨"java/lang/String", "hashCode", "()I"⟩ : MethodName)) (a := x) (argsL := []) (st := []) X hx hZ hown (own_w57 hw) (own_w58 hw) (notFace_of_selects (args := #[]) (mvT hZ (own_w60 hw))) (own_w60 hw) (own_w59 hw) (by decide) P8_Str.exa (payHash (W := 0) (n0 := n0) hZ hw ge_x (Nat.le_trans Z0 sz_h) P8_Str P9_Fld P10_Fld P0_Old O2 P5 hl3 (by decide) (by decide)) eT (by rw [hml]; rfl) (lenOf own_pd11 rfl) rfl (Nat.le_of_eq rfl) 0 0 rfl rfl (by decide) (by decide) 12 (hb hby own_d8_9) rfl ?_
  clear X eT; clear T; intro v T h3 L2 Lc X eT hL hQ4
  obtain ⟨rfl, Nq, K1, Str2⟩ := hQ4
  replace N : Fr n0 L2 := by rw [hL]; exact Fr.app N Nq
  clear Nq hL
  have ne_ix_x : ix ≠ x := ne_exa P1_Exa P8_Str.exa (by decide)
  have ne_ss_x : ss ≠ x := Ne.symm (Exa.neArv P8_Str.exa P6_Arv (own_w6 hw))
  have ne_sl_x : sl ≠ x := Ne.symm (Exa.neArv P8_Str.exa P7_Arv (own_w6 hw))
  replace P0_Old := P0_Old.keep K1 (allS ge_x all0)
  replace P1_Exa := P1_Exa.keep K1
  replace P2_Fld := P2_Fld.keep K1 (ninS ne_ix_x nin0)
  replace P3_Fld := P3_Fld.keep K1 (ninS ne_ix_x nin0)
  replace P4_Fld := P4_Fld.keep K1 (ninS ne_ix_x nin0)
  replace P5_Fld := P5_Fld.keep K1 (ninS ne_ix_x nin0)
  replace P6_Arv := P6_Arv.keep K1 (ninS ne_ss_x nin0)
  replace P7_Arv := P7_Arv.keep K1 (ninS ne_sl_x nin0)
  replace P11_Str := P11_Str.keep K1 (ninS nx0 nin0) (ninS nt0 nin0)
  replace K0 := K0.trans K1 (allS (Or.inl (List.mem_of_getElem? (i := 0) rfl)) all0)
  replace sz_h : h0.size ≤ h3.size := Nat.le_trans sz_h K1.1
  show Go p e below _ T (mkF m 12 #[.val (.ref ix), .val (.ref x), .val (.int (31 : Int32)), .unset] [(.int (own_hash cs))])
  refine gldcI X hx hZ hown (own_w76 hw) 14 (hb hby own_d8_12) rfl ?_
  refine gimul X hx 15 (hb hby own_d8_14) rfl ?_
  refine galoadN (v := (.ref ix)) X hx 16 (hb hby own_d8_15) rfl rfl rfl ?_
  refine ggetF X hx hZ (host := "") hown (Or.inl (own_w46 hw)) Via.refl eT P5_Fld 19 (hb hby own_d8_16) rfl ?_
  clear X eT; clear T; intro T X eT
  refine giushr X hx 20 (hb hby own_d8_19) rfl ?_
  rw [own_Hd]
  show Go p e below _ T (mkF m 20 #[.val (.ref ix), .val (.ref x), .val (.int (31 : Int32)), .unset] [(.int (own_H cs))])
  refine gistoreN X hx #[.val (.ref ix), .val (.ref x), .val (.int (31 : Int32)), .val (.int (own_H cs))] 21 (hb hby own_d8_20) rfl rfl ?_
  have hR := own_HR cs
  revert X eT; revert T; revert N; revert L2; revert hR; revert hpr; generalize own_H cs = r; induction nn generalizing r
  · intro hpr; exact absurd hpr (by simp [own_probe])
  · rename_i nn ih; intro hpr hR L2 N T X eT
    show Go p e below _ T (mkF m 21 #[.val (.ref ix), .val (.ref x), .val (.int (31 : Int32)), .val (.int r)] [])
    refine galoadN (v := (.ref ix)) X hx 22 (hb hby own_d8_21) rfl rfl rfl ?_
    refine ggetF X hx hZ (host := "") hown (Or.inl (own_w39 hw)) Via.refl eT P3_Fld 25 (hb hby own_d8_22) rfl ?_
    clear X eT; clear T; intro T X eT
    refine giloadN (v := r) X hx 26 (hb hby own_d8_25) rfl rfl ?_
    refine giaload X hx hZ eT P7_Arv (.int (own_at f r)) hR.1 hR.2 (own_gm f r) 27 (hb hby own_d8_26) rfl ?_
    rcases Decidable.em ((own_at f r) = (0 : Int32)) with hz27 | hz27
    · refine gifYes X hx 59 (hb hby own_d8_27) ((if0 _ _).trans (teq hz27).1) (by decide) (by decide) ?_
      refine giloadN (v := r) X hx 60 (hb hby own_d8_59) rfl rfl ?_
      exact gRetP X hx hlk hret rfl (Or.inl ⟨rfl, by simp, _, rfl⟩) (hb hby own_d8_60) eT (by decide) (by decide) ⟨(by rw [show r = rs from Option.some.inj ((own_pz hz27).symm.trans hpr)]), N, K0, Str2⟩
    · refine gifNo X hx 30 (hb hby own_d8_27) rfl ((if0 _ _).trans (feq hz27).1) ?_
      rcases own_bd1 hI r with ha | ha
      · exact absurd ha hz27
      · refine galoadN (v := (.ref ix)) X hx 31 (hb hby own_d8_30) rfl rfl rfl ?_
        refine ggetF X hx hZ (host := "") hown (Or.inl (own_w36 hw)) Via.refl eT P2_Fld 34 (hb hby own_d8_31) rfl ?_
        clear X eT; clear T; intro T X eT
        refine galoadN (v := (.ref ix)) X hx 35 (hb hby own_d8_34) rfl rfl rfl ?_
        refine ggetF X hx hZ (host := "") hown (Or.inl (own_w39 hw)) Via.refl eT P3_Fld 38 (hb hby own_d8_35) rfl ?_
        clear X eT; clear T; intro T X eT
        refine giloadN (v := r) X hx 39 (hb hby own_d8_38) rfl rfl ?_
        refine giaload X hx hZ eT P7_Arv (.int (own_at f r)) hR.1 hR.2 (own_gm f r) 40 (hb hby own_d8_39) rfl ?_
        rw [ha]
        show Go p e below _ T (mkF m 40 #[.val (.ref ix), .val (.ref x), .val (.int (31 : Int32)), .val (.int r)] [(.int (1 : Int32)), (.ref ss)])
        refine giconst X hx (1 : Int32) 41 (hb hby own_d8_40) rfl rfl ?_
        refine gisub X hx 42 (hb hby own_d8_41) rfl ?_
        rw [show ((1 : Int32) - (1 : Int32)) = (0 : Int32) from by decide]
        refine gaaload X hx hZ eT P6_Arv (.ref x0) (by decide) (by decide) rfl rfl 43 (hb hby own_d8_42) rfl ?_
        refine galoadN (v := (.ref x)) X hx 44 (hb hby own_d8_43) rfl rfl rfl ?_
        refine gvirtual (y := (⟨"java/lang/String", "equals", "(Ljava/lang/Object;)Z"⟩ : MethodName)) (z := (⟨"java/lang/String", "equals", "(Ljava/lang/Object;)Z"⟩ : MethodName)) (a := x0) (argsL := [(.ref x)]) (st := []) X hx hZ hown (own_w79 hw) (own_w80 hw) (notFace_of_selects (args := #[]) (mvT hZ (own_w82 hw))) (own_w82 hw) (own_w81 hw) (by decide) P11_Str.exa (payEq (W := 0) hZ hw P11_Str Str2 (O2.ext P0_Old.2) P5 (by decide) (by decide)) eT (by rw [hml]; rfl) (lenOf own_pd12 rfl) rfl (Nat.le_of_eq rfl) 0 0 rfl rfl (by decide) (by decide) 47 (hb hby own_d8_44) rfl ?_
        clear X eT; clear T; intro v T h5 L2 Lc X eT hL hQ6
        obtain ⟨rfl, rfl, hh⟩ := hQ6
        replace hh := hh.symm; subst hh
        replace N : Fr n0 L2 := by rw [hL]; exact Fr.app N (Fr.nil n0)
        clear hL
        show Go p e below _ T (mkF m 47 #[.val (.ref ix), .val (.ref x), .val (.int (31 : Int32)), .val (.int r)] [(.int (if d0 = cs then 1 else 0))])
        rcases Decidable.em (d0 = cs) with hq | hq
        · rw [if_pos hq]
          show Go p e below _ T (mkF m 47 #[.val (.ref ix), .val (.ref x), .val (.int (31 : Int32)), .val (.int r)] [(.int (1 : Int32))])
          refine gifYes X hx 59 (hb hby own_d8_47) (by decide) (by decide) (by decide) ?_
          refine giloadN (v := r) X hx 60 (hb hby own_d8_59) rfl rfl ?_
          exact gRetP X hx hlk hret rfl (Or.inl ⟨rfl, by simp, _, rfl⟩) (hb hby own_d8_60) eT (by decide) (by decide) ⟨(by rw [show r = rs from Option.some.inj ((own_pe (ds := ([d0] : List (List Int32))) ha (by decide) hq).symm.trans hpr)]), N, K0, Str2⟩
        · rw [if_neg hq]
          show Go p e below _ T (mkF m 47 #[.val (.ref ix), .val (.ref x), .val (.int (31 : Int32)), .val (.int r)] [(.int (0 : Int32))])
          refine gifNo X hx 50 (hb hby own_d8_47) rfl (by decide) ?_
          refine giloadN (v := r) X hx 51 (hb hby own_d8_50) rfl rfl ?_
          refine giconst X hx (1 : Int32) 52 (hb hby own_d8_51) rfl rfl ?_
          refine giadd X hx 53 (hb hby own_d8_52) rfl ?_
          refine giloadN (v := (31 : Int32)) X hx 54 (hb hby own_d8_53) rfl rfl ?_
          refine giand X hx 55 (hb hby own_d8_54) rfl ?_
          rw [own_nxd]
          show Go p e below _ T (mkF m 55 #[.val (.ref ix), .val (.ref x), .val (.int (31 : Int32)), .val (.int r)] [(.int (own_nx r))])
          refine gistoreN X hx #[.val (.ref ix), .val (.ref x), .val (.int (31 : Int32)), .val (.int (own_nx r))] 56 (hb hby own_d8_55) rfl rfl ?_
          refine ggoto X hx 21 (hb hby own_d8_56) (by decide) (by decide) ?_
          exact ih _ ((own_pn (ds := ([d0] : List (List Int32))) ha (by decide) hq).symm.trans hpr) (own_nx_nat hR).1 _ N T X eT
set_option maxRecDepth 65536 in
set_option maxHeartbeats 40000000 in
theorem rmSl2 (l : Launch) (Z : State) (a0 : Array Value) (hw : ∀ d ∈ tables_1, d.before a0 Z = true) (x : Addr) (t : Addr) (cs : List Int32) (f : List Int32) (rs : Int32) (nn : Nat) (ix : Addr) (ss : Addr) (sl : Addr) (ks : ClassId) (ki : ClassId) (G1 : Int32) (x0 : Addr) (x1 : Addr) (t0 : Addr) (t1 : Addr) (d0 : List Int32) (d1 : List Int32) (h0 : Heap) (n0 : Nat) (Z0 : n0 ≤ h0.size) (ge_x : n0 ≤ x) (P0_Old : Old Z n0 h0) (P1_Exa : Exa Z h0 ix "tabulon/StringIndex") (P2_Fld : Fld Z h0 ix "tabulon/StringIndex" "strings" "[Ljava/lang/String;" (.ref ss)) (P3_Fld : Fld Z h0 ix "tabulon/StringIndex" "slots" "[I" (.ref sl)) (P4_Fld : Fld Z h0 ix "tabulon/StringIndex" "size" "I" (.int (2 : Int32))) (P5_Fld : Fld Z h0 ix "tabulon/StringIndex" "shift" "I" (.int (27 : Int32))) (P6_Arv : Arv Z h0 ss ks (.object "java/lang/String") (16 : Int32) [(.ref x0), (.ref x1), .null, .null, .null, .null, .null, .null, .null, .null, .null, .null, .null, .null, .null, .null] .null) (P7_Arv : Arv Z h0 sl ki .int (32 : Int32) (f.map Value.int) (.int 0)) (P8_Str : Str Z h0 x t cs) (P9_Fld : Fld Z h0 x "java/lang/String" "hash" "I" (.int (0 : Int32))) (P10_Fld : Fld Z h0 x "java/lang/String" "hashIsZero" "Z" (.int (0 : Int32))) (P11_Str : Str Z h0 x0 t0 d0) (P12_Str : Str Z h0 x1 t1 d1) (O2 : Sta Z Z.heap "java/lang/String" "COMPACT_STRINGS" "Z" (.int G1)) (P5 : ¬ G1 = (0 : Int32)) (hI : own_Inv f ([d0, d1] : List (List Int32))) (hpr : own_probe f ([d0, d1] : List (List Int32)) cs nn (own_H cs) = some rs) (hl3 : cs.length ≤ 3) (nx0 : x0 ≠ x) (nx1 : x1 ≠ x) (nt0 : t0 ≠ x) (nt1 : t1 ≠ x) :
    CtP l (⟨"tabulon/StringIndex", "slot", "(Ljava/lang/String;)I"⟩ : MethodName) prog_9_method_7_code 4 (some .int) [] ({ frames := 4, cells := 0, slots := 0, locals := 58 } : Room) Z #[(.ref ix), (.ref x)] h0 (fun v h L => v = some (.int rs) ∧ Fr n0 L ∧ Keep h0 h [x] ∧ Str Z h x t cs) := by
  refine CtP.walk (Ls := #[.val (.ref ix), .val (.ref x), .unset, .unset]) (plainFor_of_name own_pn10) (fun m => by first | (simp [entryFrame, mkF, argsToLocals, Value.category]; done) | rfl) ?_
  intro p e s m below meth cc_ T hx hby hml hown hnm hret hlk hZ X eT
  have N := Fr.nil n0
  have K0 := Keep.refl h0 [x]
  have sz_h : h0.size ≤ h0.size := Nat.le_refl _
  refine galoadN (v := (.ref ix)) X hx 1 (hb hby own_d8_0) rfl rfl rfl ?_
  refine ggetF X hx hZ (host := "") hown (Or.inl (own_w39 hw)) Via.refl eT P3_Fld 4 (hb hby own_d8_1) rfl ?_
  clear X eT; clear T; intro T X eT
  refine garrlen X hx hZ eT P7_Arv 5 (hb hby own_d8_4) rfl ?_
  refine giconst X hx (1 : Int32) 6 (hb hby own_d8_5) rfl rfl ?_
  refine gisub X hx 7 (hb hby own_d8_6) rfl ?_
  rw [show ((32 : Int32) - (1 : Int32)) = (31 : Int32) from by decide]
  refine gistoreN X hx #[.val (.ref ix), .val (.ref x), .val (.int (31 : Int32)), .unset] 8 (hb hby own_d8_7) rfl rfl ?_
  refine galoadN (v := (.ref x)) X hx 9 (hb hby own_d8_8) rfl rfl rfl ?_
  refine gvirtual (y := (⟨"java/lang/String", "hashCode", "()I"⟩ : MethodName)) (z := (⟨"java/lang/String", "hashCode", "()I"⟩ : MethodName)) (a := x) (argsL := []) (st := []) X hx hZ hown (own_w57 hw) (own_w58 hw) (notFace_of_selects (args := #[]) (mvT hZ (own_w60 hw))) (own_w60 hw) (own_w59 hw) (by decide) P8_Str.exa (payHash (W := 0) (n0 := n0) hZ hw ge_x (Nat.le_trans Z0 sz_h) P8_Str P9_Fld P10_Fld P0_Old O2 P5 hl3 (by decide) (by decide)) eT (by rw [hml]; rfl) (lenOf own_pd11 rfl) rfl (Nat.le_of_eq rfl) 0 0 rfl rfl (by decide) (by decide) 12 (hb hby own_d8_9) rfl ?_
  clear X eT; clear T; intro v T h3 L2 Lc X eT hL hQ4
  obtain ⟨rfl, Nq, K1, Str2⟩ := hQ4
  replace N : Fr n0 L2 := by rw [hL]; exact Fr.app N Nq
  clear Nq hL
  have ne_ix_x : ix ≠ x := ne_exa P1_Exa P8_Str.exa (by decide)
  have ne_ss_x : ss ≠ x := Ne.symm (Exa.neArv P8_Str.exa P6_Arv (own_w6 hw))
  have ne_sl_x : sl ≠ x := Ne.symm (Exa.neArv P8_Str.exa P7_Arv (own_w6 hw))
  replace P0_Old := P0_Old.keep K1 (allS ge_x all0)
  replace P1_Exa := P1_Exa.keep K1
  replace P2_Fld := P2_Fld.keep K1 (ninS ne_ix_x nin0)
  replace P3_Fld := P3_Fld.keep K1 (ninS ne_ix_x nin0)
  replace P4_Fld := P4_Fld.keep K1 (ninS ne_ix_x nin0)
  replace P5_Fld := P5_Fld.keep K1 (ninS ne_ix_x nin0)
  replace P6_Arv := P6_Arv.keep K1 (ninS ne_ss_x nin0)
  replace P7_Arv := P7_Arv.keep K1 (ninS ne_sl_x nin0)
  replace P11_Str := P11_Str.keep K1 (ninS nx0 nin0) (ninS nt0 nin0)
  replace P12_Str := P12_Str.keep K1 (ninS nx1 nin0) (ninS nt1 nin0)
  replace K0 := K0.trans K1 (allS (Or.inl (List.mem_of_getElem? (i := 0) rfl)) all0)
  replace sz_h : h0.size ≤ h3.size := Nat.le_trans sz_h K1.1
  show Go p e below _ T (mkF m 12 #[.val (.ref ix), .val (.ref x), .val (.int (31 : Int32)), .unset] [(.int (own_hash cs))])
  refine gldcI X hx hZ hown (own_w76 hw) 14 (hb hby own_d8_12) rfl ?_
  refine gimul X hx 15 (hb hby own_d8_14) rfl ?_
  refine galoadN (v := (.ref ix)) X hx 16 (hb hby own_d8_15) rfl rfl rfl ?_
  refine ggetF X hx hZ (host := "") hown (Or.inl (own_w46 hw)) Via.refl eT P5_Fld 19 (hb hby own_d8_16) rfl ?_
  clear X eT; clear T; intro T X eT
  refine giushr X hx 20 (hb hby own_d8_19) rfl ?_
  rw [own_Hd]
  show Go p e below _ T (mkF m 20 #[.val (.ref ix), .val (.ref x), .val (.int (31 : Int32)), .unset] [(.int (own_H cs))])
  refine gistoreN X hx #[.val (.ref ix), .val (.ref x), .val (.int (31 : Int32)), .val (.int (own_H cs))] 21 (hb hby own_d8_20) rfl rfl ?_
  have hR := own_HR cs
  revert X eT; revert T; revert N; revert L2; revert hR; revert hpr; generalize own_H cs = r; induction nn generalizing r
  · intro hpr; exact absurd hpr (by simp [own_probe])
  · rename_i nn ih; intro hpr hR L2 N T X eT
    show Go p e below _ T (mkF m 21 #[.val (.ref ix), .val (.ref x), .val (.int (31 : Int32)), .val (.int r)] [])
    refine galoadN (v := (.ref ix)) X hx 22 (hb hby own_d8_21) rfl rfl rfl ?_
    refine ggetF X hx hZ (host := "") hown (Or.inl (own_w39 hw)) Via.refl eT P3_Fld 25 (hb hby own_d8_22) rfl ?_
    clear X eT; clear T; intro T X eT
    refine giloadN (v := r) X hx 26 (hb hby own_d8_25) rfl rfl ?_
    refine giaload X hx hZ eT P7_Arv (.int (own_at f r)) hR.1 hR.2 (own_gm f r) 27 (hb hby own_d8_26) rfl ?_
    rcases Decidable.em ((own_at f r) = (0 : Int32)) with hz27 | hz27
    · refine gifYes X hx 59 (hb hby own_d8_27) ((if0 _ _).trans (teq hz27).1) (by decide) (by decide) ?_
      refine giloadN (v := r) X hx 60 (hb hby own_d8_59) rfl rfl ?_
      exact gRetP X hx hlk hret rfl (Or.inl ⟨rfl, by simp, _, rfl⟩) (hb hby own_d8_60) eT (by decide) (by decide) ⟨(by rw [show r = rs from Option.some.inj ((own_pz hz27).symm.trans hpr)]), N, K0, Str2⟩
    · refine gifNo X hx 30 (hb hby own_d8_27) rfl ((if0 _ _).trans (feq hz27).1) ?_
      rcases own_bd2 hI r with ha | ha | ha
      · exact absurd ha hz27
      · refine galoadN (v := (.ref ix)) X hx 31 (hb hby own_d8_30) rfl rfl rfl ?_
        refine ggetF X hx hZ (host := "") hown (Or.inl (own_w36 hw)) Via.refl eT P2_Fld 34 (hb hby own_d8_31) rfl ?_
        clear X eT; clear T; intro T X eT
        refine galoadN (v := (.ref ix)) X hx 35 (hb hby own_d8_34) rfl rfl rfl ?_
        refine ggetF X hx hZ (host := "") hown (Or.inl (own_w39 hw)) Via.refl eT P3_Fld 38 (hb hby own_d8_35) rfl ?_
        clear X eT; clear T; intro T X eT
        refine giloadN (v := r) X hx 39 (hb hby own_d8_38) rfl rfl ?_
        refine giaload X hx hZ eT P7_Arv (.int (own_at f r)) hR.1 hR.2 (own_gm f r) 40 (hb hby own_d8_39) rfl ?_
        rw [ha]
        show Go p e below _ T (mkF m 40 #[.val (.ref ix), .val (.ref x), .val (.int (31 : Int32)), .val (.int r)] [(.int (1 : Int32)), (.ref ss)])
        refine giconst X hx (1 : Int32) 41 (hb hby own_d8_40) rfl rfl ?_
        refine gisub X hx 42 (hb hby own_d8_41) rfl ?_
        rw [show ((1 : Int32) - (1 : Int32)) = (0 : Int32) from by decide]
        refine gaaload X hx hZ eT P6_Arv (.ref x0) (by decide) (by decide) rfl rfl 43 (hb hby own_d8_42) rfl ?_
        refine galoadN (v := (.ref x)) X hx 44 (hb hby own_d8_43) rfl rfl rfl ?_
        refine gvirtual (y := (⟨"java/lang/String", "equals", "(Ljava/lang/Object;)Z"⟩ : MethodName)) (z := (⟨"java/lang/String", "equals", "(Ljava/lang/Object;)Z"⟩ : MethodName)) (a := x0) (argsL := [(.ref x)]) (st := []) X hx hZ hown (own_w79 hw) (own_w80 hw) (notFace_of_selects (args := #[]) (mvT hZ (own_w82 hw))) (own_w82 hw) (own_w81 hw) (by decide) P11_Str.exa (payEq (W := 0) hZ hw P11_Str Str2 (O2.ext P0_Old.2) P5 (by decide) (by decide)) eT (by rw [hml]; rfl) (lenOf own_pd12 rfl) rfl (Nat.le_of_eq rfl) 0 0 rfl rfl (by decide) (by decide) 47 (hb hby own_d8_44) rfl ?_
        clear X eT; clear T; intro v T h5 L2 Lc X eT hL hQ6
        obtain ⟨rfl, rfl, hh⟩ := hQ6
        replace hh := hh.symm; subst hh
        replace N : Fr n0 L2 := by rw [hL]; exact Fr.app N (Fr.nil n0)
        clear hL
        show Go p e below _ T (mkF m 47 #[.val (.ref ix), .val (.ref x), .val (.int (31 : Int32)), .val (.int r)] [(.int (if d0 = cs then 1 else 0))])
        rcases Decidable.em (d0 = cs) with hq | hq
        · rw [if_pos hq]
          show Go p e below _ T (mkF m 47 #[.val (.ref ix), .val (.ref x), .val (.int (31 : Int32)), .val (.int r)] [(.int (1 : Int32))])
          refine gifYes X hx 59 (hb hby own_d8_47) (by decide) (by decide) (by decide) ?_
          refine giloadN (v := r) X hx 60 (hb hby own_d8_59) rfl rfl ?_
          exact gRetP X hx hlk hret rfl (Or.inl ⟨rfl, by simp, _, rfl⟩) (hb hby own_d8_60) eT (by decide) (by decide) ⟨(by rw [show r = rs from Option.some.inj ((own_pe (ds := ([d0, d1] : List (List Int32))) ha (by decide) hq).symm.trans hpr)]), N, K0, Str2⟩
        · rw [if_neg hq]
          show Go p e below _ T (mkF m 47 #[.val (.ref ix), .val (.ref x), .val (.int (31 : Int32)), .val (.int r)] [(.int (0 : Int32))])
          refine gifNo X hx 50 (hb hby own_d8_47) rfl (by decide) ?_
          refine giloadN (v := r) X hx 51 (hb hby own_d8_50) rfl rfl ?_
          refine giconst X hx (1 : Int32) 52 (hb hby own_d8_51) rfl rfl ?_
          refine giadd X hx 53 (hb hby own_d8_52) rfl ?_
          refine giloadN (v := (31 : Int32)) X hx 54 (hb hby own_d8_53) rfl rfl ?_
          refine giand X hx 55 (hb hby own_d8_54) rfl ?_
          rw [own_nxd]
          show Go p e below _ T (mkF m 55 #[.val (.ref ix), .val (.ref x), .val (.int (31 : Int32)), .val (.int r)] [(.int (own_nx r))])
          refine gistoreN X hx #[.val (.ref ix), .val (.ref x), .val (.int (31 : Int32)), .val (.int (own_nx r))] 56 (hb hby own_d8_55) rfl rfl ?_
          refine ggoto X hx 21 (hb hby own_d8_56) (by decide) (by decide) ?_
          exact ih _ ((own_pn (ds := ([d0, d1] : List (List Int32))) ha (by decide) hq).symm.trans hpr) (own_nx_nat hR).1 _ N T X eT
      · refine galoadN (v := (.ref ix)) X hx 31 (hb hby own_d8_30) rfl rfl rfl ?_
        refine ggetF X hx hZ (host := "") hown (Or.inl (own_w36 hw)) Via.refl eT P2_Fld 34 (hb hby own_d8_31) rfl ?_
        clear X eT; clear T; intro T X eT
        refine galoadN (v := (.ref ix)) X hx 35 (hb hby own_d8_34) rfl rfl rfl ?_
        refine ggetF X hx hZ (host := "") hown (Or.inl (own_w39 hw)) Via.refl eT P3_Fld 38 (hb hby own_d8_35) rfl ?_
        clear X eT; clear T; intro T X eT
        refine giloadN (v := r) X hx 39 (hb hby own_d8_38) rfl rfl ?_
        refine giaload X hx hZ eT P7_Arv (.int (own_at f r)) hR.1 hR.2 (own_gm f r) 40 (hb hby own_d8_39) rfl ?_
        rw [ha]
        show Go p e below _ T (mkF m 40 #[.val (.ref ix), .val (.ref x), .val (.int (31 : Int32)), .val (.int r)] [(.int (2 : Int32)), (.ref ss)])
        refine giconst X hx (1 : Int32) 41 (hb hby own_d8_40) rfl rfl ?_
        refine gisub X hx 42 (hb hby own_d8_41) rfl ?_
        rw [show ((2 : Int32) - (1 : Int32)) = (1 : Int32) from by decide]
        refine gaaload X hx hZ eT P6_Arv (.ref x1) (by decide) (by decide) rfl rfl 43 (hb hby own_d8_42) rfl ?_
        refine galoadN (v := (.ref x)) X hx 44 (hb hby own_d8_43) rfl rfl rfl ?_
        refine gvirtual (y := (⟨"java/lang/String", "equals", "(Ljava/lang/Object;)Z"⟩ : MethodName)) (z := (⟨"java/lang/String", "equals", "(Ljava/lang/Object;)Z"⟩ : MethodName)) (a := x1) (argsL := [(.ref x)]) (st := []) X hx hZ hown (own_w79 hw) (own_w80 hw) (notFace_of_selects (args := #[]) (mvT hZ (own_w82 hw))) (own_w82 hw) (own_w81 hw) (by decide) P12_Str.exa (payEq (W := 0) hZ hw P12_Str Str2 (O2.ext P0_Old.2) P5 (by decide) (by decide)) eT (by rw [hml]; rfl) (lenOf own_pd12 rfl) rfl (Nat.le_of_eq rfl) 0 0 rfl rfl (by decide) (by decide) 47 (hb hby own_d8_44) rfl ?_
        clear X eT; clear T; intro v T h7 L2 Lc X eT hL hQ8
        obtain ⟨rfl, rfl, hh⟩ := hQ8
        replace hh := hh.symm; subst hh
        replace N : Fr n0 L2 := by rw [hL]; exact Fr.app N (Fr.nil n0)
        clear hL
        show Go p e below _ T (mkF m 47 #[.val (.ref ix), .val (.ref x), .val (.int (31 : Int32)), .val (.int r)] [(.int (if d1 = cs then 1 else 0))])
        rcases Decidable.em (d1 = cs) with hq | hq
        · rw [if_pos hq]
          show Go p e below _ T (mkF m 47 #[.val (.ref ix), .val (.ref x), .val (.int (31 : Int32)), .val (.int r)] [(.int (1 : Int32))])
          refine gifYes X hx 59 (hb hby own_d8_47) (by decide) (by decide) (by decide) ?_
          refine giloadN (v := r) X hx 60 (hb hby own_d8_59) rfl rfl ?_
          exact gRetP X hx hlk hret rfl (Or.inl ⟨rfl, by simp, _, rfl⟩) (hb hby own_d8_60) eT (by decide) (by decide) ⟨(by rw [show r = rs from Option.some.inj ((own_pe (ds := ([d0, d1] : List (List Int32))) ha (by decide) hq).symm.trans hpr)]), N, K0, Str2⟩
        · rw [if_neg hq]
          show Go p e below _ T (mkF m 47 #[.val (.ref ix), .val (.ref x), .val (.int (31 : Int32)), .val (.int r)] [(.int (0 : Int32))])
          refine gifNo X hx 50 (hb hby own_d8_47) rfl (by decide) ?_
          refine giloadN (v := r) X hx 51 (hb hby own_d8_50) rfl rfl ?_
          refine giconst X hx (1 : Int32) 52 (hb hby own_d8_51) rfl rfl ?_
          refine giadd X hx 53 (hb hby own_d8_52) rfl ?_
          refine giloadN (v := (31 : Int32)) X hx 54 (hb hby own_d8_53) rfl rfl ?_
          refine giand X hx 55 (hb hby own_d8_54) rfl ?_
          rw [own_nxd]
          show Go p e below _ T (mkF m 55 #[.val (.ref ix), .val (.ref x), .val (.int (31 : Int32)), .val (.int r)] [(.int (own_nx r))])
          refine gistoreN X hx #[.val (.ref ix), .val (.ref x), .val (.int (31 : Int32)), .val (.int (own_nx r))] 56 (hb hby own_d8_55) rfl rfl ?_
          refine ggoto X hx 21 (hb hby own_d8_56) (by decide) (by decide) ?_
          exact ih _ ((own_pn (ds := ([d0, d1] : List (List Int32))) ha (by decide) hq).symm.trans hpr) (own_nx_nat hR).1 _ N T X eT
set_option maxRecDepth 65536 in
set_option maxHeartbeats 40000000 in
theorem rmSl3 (l : Launch) (Z : State) (a0 : Array Value) (hw : ∀ d ∈ tables_1, d.before a0 Z = true) (x : Addr) (t : Addr) (cs : List Int32) (f : List Int32) (rs : Int32) (nn : Nat) (ix : Addr) (ss : Addr) (sl : Addr) (ks : ClassId) (ki : ClassId) (G1 : Int32) (x0 : Addr) (x1 : Addr) (x2 : Addr) (t0 : Addr) (t1 : Addr) (t2 : Addr) (d0 : List Int32) (d1 : List Int32) (d2 : List Int32) (h0 : Heap) (n0 : Nat) (Z0 : n0 ≤ h0.size) (ge_x : n0 ≤ x) (P0_Old : Old Z n0 h0) (P1_Exa : Exa Z h0 ix "tabulon/StringIndex") (P2_Fld : Fld Z h0 ix "tabulon/StringIndex" "strings" "[Ljava/lang/String;" (.ref ss)) (P3_Fld : Fld Z h0 ix "tabulon/StringIndex" "slots" "[I" (.ref sl)) (P4_Fld : Fld Z h0 ix "tabulon/StringIndex" "size" "I" (.int (3 : Int32))) (P5_Fld : Fld Z h0 ix "tabulon/StringIndex" "shift" "I" (.int (27 : Int32))) (P6_Arv : Arv Z h0 ss ks (.object "java/lang/String") (16 : Int32) [(.ref x0), (.ref x1), (.ref x2), .null, .null, .null, .null, .null, .null, .null, .null, .null, .null, .null, .null, .null] .null) (P7_Arv : Arv Z h0 sl ki .int (32 : Int32) (f.map Value.int) (.int 0)) (P8_Str : Str Z h0 x t cs) (P9_Fld : Fld Z h0 x "java/lang/String" "hash" "I" (.int (0 : Int32))) (P10_Fld : Fld Z h0 x "java/lang/String" "hashIsZero" "Z" (.int (0 : Int32))) (P11_Str : Str Z h0 x0 t0 d0) (P12_Str : Str Z h0 x1 t1 d1) (P13_Str : Str Z h0 x2 t2 d2) (O2 : Sta Z Z.heap "java/lang/String" "COMPACT_STRINGS" "Z" (.int G1)) (P5 : ¬ G1 = (0 : Int32)) (hI : own_Inv f ([d0, d1, d2] : List (List Int32))) (hpr : own_probe f ([d0, d1, d2] : List (List Int32)) cs nn (own_H cs) = some rs) (hl3 : cs.length ≤ 3) (nx0 : x0 ≠ x) (nx1 : x1 ≠ x) (nx2 : x2 ≠ x) (nt0 : t0 ≠ x) (nt1 : t1 ≠ x) (nt2 : t2 ≠ x) :
    CtP l (⟨"tabulon/StringIndex", "slot", "(Ljava/lang/String;)I"⟩ : MethodName) prog_9_method_7_code 4 (some .int) [] ({ frames := 4, cells := 0, slots := 0, locals := 58 } : Room) Z #[(.ref ix), (.ref x)] h0 (fun v h L => v = some (.int rs) ∧ Fr n0 L ∧ Keep h0 h [x] ∧ Str Z h x t cs) := by
  refine CtP.walk (Ls := #[.val (.ref ix), .val (.ref x), .unset, .unset]) (plainFor_of_name own_pn10) (fun m => by first | (simp [entryFrame, mkF, argsToLocals, Value.category]; done) | rfl) ?_
  intro p e s m below meth cc_ T hx hby hml hown hnm hret hlk hZ X eT
  have N := Fr.nil n0
  have K0 := Keep.refl h0 [x]
  have sz_h : h0.size ≤ h0.size := Nat.le_refl _
  refine galoadN (v := (.ref ix)) X hx 1 (hb hby own_d8_0) rfl rfl rfl ?_
  refine ggetF X hx hZ (host := "") hown (Or.inl (own_w39 hw)) Via.refl eT P3_Fld 4 (hb hby own_d8_1) rfl ?_
  clear X eT; clear T; intro T X eT
  refine garrlen X hx hZ eT P7_Arv 5 (hb hby own_d8_4) rfl ?_
  refine giconst X hx (1 : Int32) 6 (hb hby own_d8_5) rfl rfl ?_
  refine gisub X hx 7 (hb hby own_d8_6) rfl ?_
  rw [show ((32 : Int32) - (1 : Int32)) = (31 : Int32) from by decide]
  refine gistoreN X hx #[.val (.ref ix), .val (.ref x), .val (.int (31 : Int32)), .unset] 8 (hb hby own_d8_7) rfl rfl ?_
  refine galoadN (v := (.ref x)) X hx 9 (hb hby own_d8_8) rfl rfl rfl ?_
  refine gvirtual (y := (⟨"java/lang/String", "hashCode", "()I"⟩ : MethodName)) (z := (⟨"java/lang/String", "hashCode", "()I"⟩ : MethodName)) (a := x) (argsL := []) (st := []) X hx hZ hown (own_w57 hw) (own_w58 hw) (notFace_of_selects (args := #[]) (mvT hZ (own_w60 hw))) (own_w60 hw) (own_w59 hw) (by decide) P8_Str.exa (payHash (W := 0) (n0 := n0) hZ hw ge_x (Nat.le_trans Z0 sz_h) P8_Str P9_Fld P10_Fld P0_Old O2 P5 hl3 (by decide) (by decide)) eT (by rw [hml]; rfl) (lenOf own_pd11 rfl) rfl (Nat.le_of_eq rfl) 0 0 rfl rfl (by decide) (by decide) 12 (hb hby own_d8_9) rfl ?_
  clear X eT; clear T; intro v T h3 L2 Lc X eT hL hQ4
  obtain ⟨rfl, Nq, K1, Str2⟩ := hQ4
  replace N : Fr n0 L2 := by rw [hL]; exact Fr.app N Nq
  clear Nq hL
  have ne_ix_x : ix ≠ x := ne_exa P1_Exa P8_Str.exa (by decide)
  have ne_ss_x : ss ≠ x := Ne.symm (Exa.neArv P8_Str.exa P6_Arv (own_w6 hw))
  have ne_sl_x : sl ≠ x := Ne.symm (Exa.neArv P8_Str.exa P7_Arv (own_w6 hw))
  replace P0_Old := P0_Old.keep K1 (allS ge_x all0)
  replace P1_Exa := P1_Exa.keep K1
  replace P2_Fld := P2_Fld.keep K1 (ninS ne_ix_x nin0)
  replace P3_Fld := P3_Fld.keep K1 (ninS ne_ix_x nin0)
  replace P4_Fld := P4_Fld.keep K1 (ninS ne_ix_x nin0)
  replace P5_Fld := P5_Fld.keep K1 (ninS ne_ix_x nin0)
  replace P6_Arv := P6_Arv.keep K1 (ninS ne_ss_x nin0)
  replace P7_Arv := P7_Arv.keep K1 (ninS ne_sl_x nin0)
  replace P11_Str := P11_Str.keep K1 (ninS nx0 nin0) (ninS nt0 nin0)
  replace P12_Str := P12_Str.keep K1 (ninS nx1 nin0) (ninS nt1 nin0)
  replace P13_Str := P13_Str.keep K1 (ninS nx2 nin0) (ninS nt2 nin0)
  replace K0 := K0.trans K1 (allS (Or.inl (List.mem_of_getElem? (i := 0) rfl)) all0)
  replace sz_h : h0.size ≤ h3.size := Nat.le_trans sz_h K1.1
  show Go p e below _ T (mkF m 12 #[.val (.ref ix), .val (.ref x), .val (.int (31 : Int32)), .unset] [(.int (own_hash cs))])
  refine gldcI X hx hZ hown (own_w76 hw) 14 (hb hby own_d8_12) rfl ?_
  refine gimul X hx 15 (hb hby own_d8_14) rfl ?_
  refine galoadN (v := (.ref ix)) X hx 16 (hb hby own_d8_15) rfl rfl rfl ?_
  refine ggetF X hx hZ (host := "") hown (Or.inl (own_w46 hw)) Via.refl eT P5_Fld 19 (hb hby own_d8_16) rfl ?_
  clear X eT; clear T; intro T X eT
  refine giushr X hx 20 (hb hby own_d8_19) rfl ?_
  rw [own_Hd]
  show Go p e below _ T (mkF m 20 #[.val (.ref ix), .val (.ref x), .val (.int (31 : Int32)), .unset] [(.int (own_H cs))])
  refine gistoreN X hx #[.val (.ref ix), .val (.ref x), .val (.int (31 : Int32)), .val (.int (own_H cs))] 21 (hb hby own_d8_20) rfl rfl ?_
  have hR := own_HR cs
  revert X eT; revert T; revert N; revert L2; revert hR; revert hpr; generalize own_H cs = r; induction nn generalizing r
  · intro hpr; exact absurd hpr (by simp [own_probe])
  · rename_i nn ih; intro hpr hR L2 N T X eT
    show Go p e below _ T (mkF m 21 #[.val (.ref ix), .val (.ref x), .val (.int (31 : Int32)), .val (.int r)] [])
    refine galoadN (v := (.ref ix)) X hx 22 (hb hby own_d8_21) rfl rfl rfl ?_
    refine ggetF X hx hZ (host := "") hown (Or.inl (own_w39 hw)) Via.refl eT P3_Fld 25 (hb hby own_d8_22) rfl ?_
    clear X eT; clear T; intro T X eT
    refine giloadN (v := r) X hx 26 (hb hby own_d8_25) rfl rfl ?_
    refine giaload X hx hZ eT P7_Arv (.int (own_at f r)) hR.1 hR.2 (own_gm f r) 27 (hb hby own_d8_26) rfl ?_
    rcases Decidable.em ((own_at f r) = (0 : Int32)) with hz27 | hz27
    · refine gifYes X hx 59 (hb hby own_d8_27) ((if0 _ _).trans (teq hz27).1) (by decide) (by decide) ?_
      refine giloadN (v := r) X hx 60 (hb hby own_d8_59) rfl rfl ?_
      exact gRetP X hx hlk hret rfl (Or.inl ⟨rfl, by simp, _, rfl⟩) (hb hby own_d8_60) eT (by decide) (by decide) ⟨(by rw [show r = rs from Option.some.inj ((own_pz hz27).symm.trans hpr)]), N, K0, Str2⟩
    · refine gifNo X hx 30 (hb hby own_d8_27) rfl ((if0 _ _).trans (feq hz27).1) ?_
      rcases own_bd3 hI r with ha | ha | ha | ha
      · exact absurd ha hz27
      · refine galoadN (v := (.ref ix)) X hx 31 (hb hby own_d8_30) rfl rfl rfl ?_
        refine ggetF X hx hZ (host := "") hown (Or.inl (own_w36 hw)) Via.refl eT P2_Fld 34 (hb hby own_d8_31) rfl ?_
        clear X eT; clear T; intro T X eT
        refine galoadN (v := (.ref ix)) X hx 35 (hb hby own_d8_34) rfl rfl rfl ?_
        refine ggetF X hx hZ (host := "") hown (Or.inl (own_w39 hw)) Via.refl eT P3_Fld 38 (hb hby own_d8_35) rfl ?_
        clear X eT; clear T; intro T X eT
        refine giloadN (v := r) X hx 39 (hb hby own_d8_38) rfl rfl ?_
        refine giaload X hx hZ eT P7_Arv (.int (own_at f r)) hR.1 hR.2 (own_gm f r) 40 (hb hby own_d8_39) rfl ?_
        rw [ha]
        show Go p e below _ T (mkF m 40 #[.val (.ref ix), .val (.ref x), .val (.int (31 : Int32)), .val (.int r)] [(.int (1 : Int32)), (.ref ss)])
        refine giconst X hx (1 : Int32) 41 (hb hby own_d8_40) rfl rfl ?_
        refine gisub X hx 42 (hb hby own_d8_41) rfl ?_
        rw [show ((1 : Int32) - (1 : Int32)) = (0 : Int32) from by decide]
        refine gaaload X hx hZ eT P6_Arv (.ref x0) (by decide) (by decide) rfl rfl 43 (hb hby own_d8_42) rfl ?_
        refine galoadN (v := (.ref x)) X hx 44 (hb hby own_d8_43) rfl rfl rfl ?_
        refine gvirtual (y := (⟨"java/lang/String", "equals", "(Ljava/lang/Object;)Z"⟩ : MethodName)) (z := (⟨"java/lang/String", "equals", "(Ljava/lang/Object;)Z"⟩ : MethodName)) (a := x0) (argsL := [(.ref x)]) (st := []) X hx hZ hown (own_w79 hw) (own_w80 hw) (notFace_of_selects (args := #[]) (mvT hZ (own_w82 hw))) (own_w82 hw) (own_w81 hw) (by decide) P11_Str.exa (payEq (W := 0) hZ hw P11_Str Str2 (O2.ext P0_Old.2) P5 (by decide) (by decide)) eT (by rw [hml]; rfl) (lenOf own_pd12 rfl) rfl (Nat.le_of_eq rfl) 0 0 rfl rfl (by decide) (by decide) 47 (hb hby own_d8_44) rfl ?_
        clear X eT; clear T; intro v T h5 L2 Lc X eT hL hQ6
        obtain ⟨rfl, rfl, hh⟩ := hQ6
        replace hh := hh.symm; subst hh
        replace N : Fr n0 L2 := by rw [hL]; exact Fr.app N (Fr.nil n0)
        clear hL
        show Go p e below _ T (mkF m 47 #[.val (.ref ix), .val (.ref x), .val (.int (31 : Int32)), .val (.int r)] [(.int (if d0 = cs then 1 else 0))])
        rcases Decidable.em (d0 = cs) with hq | hq
        · rw [if_pos hq]
          show Go p e below _ T (mkF m 47 #[.val (.ref ix), .val (.ref x), .val (.int (31 : Int32)), .val (.int r)] [(.int (1 : Int32))])
          refine gifYes X hx 59 (hb hby own_d8_47) (by decide) (by decide) (by decide) ?_
          refine giloadN (v := r) X hx 60 (hb hby own_d8_59) rfl rfl ?_
          exact gRetP X hx hlk hret rfl (Or.inl ⟨rfl, by simp, _, rfl⟩) (hb hby own_d8_60) eT (by decide) (by decide) ⟨(by rw [show r = rs from Option.some.inj ((own_pe (ds := ([d0, d1, d2] : List (List Int32))) ha (by decide) hq).symm.trans hpr)]), N, K0, Str2⟩
        · rw [if_neg hq]
          show Go p e below _ T (mkF m 47 #[.val (.ref ix), .val (.ref x), .val (.int (31 : Int32)), .val (.int r)] [(.int (0 : Int32))])
          refine gifNo X hx 50 (hb hby own_d8_47) rfl (by decide) ?_
          refine giloadN (v := r) X hx 51 (hb hby own_d8_50) rfl rfl ?_
          refine giconst X hx (1 : Int32) 52 (hb hby own_d8_51) rfl rfl ?_
          refine giadd X hx 53 (hb hby own_d8_52) rfl ?_
          refine giloadN (v := (31 : Int32)) X hx 54 (hb hby own_d8_53) rfl rfl ?_
          refine giand X hx 55 (hb hby own_d8_54) rfl ?_
          rw [own_nxd]
          show Go p e below _ T (mkF m 55 #[.val (.ref ix), .val (.ref x), .val (.int (31 : Int32)), .val (.int r)] [(.int (own_nx r))])
          refine gistoreN X hx #[.val (.ref ix), .val (.ref x), .val (.int (31 : Int32)), .val (.int (own_nx r))] 56 (hb hby own_d8_55) rfl rfl ?_
          refine ggoto X hx 21 (hb hby own_d8_56) (by decide) (by decide) ?_
          exact ih _ ((own_pn (ds := ([d0, d1, d2] : List (List Int32))) ha (by decide) hq).symm.trans hpr) (own_nx_nat hR).1 _ N T X eT
      · refine galoadN (v := (.ref ix)) X hx 31 (hb hby own_d8_30) rfl rfl rfl ?_
        refine ggetF X hx hZ (host := "") hown (Or.inl (own_w36 hw)) Via.refl eT P2_Fld 34 (hb hby own_d8_31) rfl ?_
        clear X eT; clear T; intro T X eT
        refine galoadN (v := (.ref ix)) X hx 35 (hb hby own_d8_34) rfl rfl rfl ?_
        refine ggetF X hx hZ (host := "") hown (Or.inl (own_w39 hw)) Via.refl eT P3_Fld 38 (hb hby own_d8_35) rfl ?_
        clear X eT; clear T; intro T X eT
        refine giloadN (v := r) X hx 39 (hb hby own_d8_38) rfl rfl ?_
        refine giaload X hx hZ eT P7_Arv (.int (own_at f r)) hR.1 hR.2 (own_gm f r) 40 (hb hby own_d8_39) rfl ?_
        rw [ha]
        show Go p e below _ T (mkF m 40 #[.val (.ref ix), .val (.ref x), .val (.int (31 : Int32)), .val (.int r)] [(.int (2 : Int32)), (.ref ss)])
        refine giconst X hx (1 : Int32) 41 (hb hby own_d8_40) rfl rfl ?_
        refine gisub X hx 42 (hb hby own_d8_41) rfl ?_
        rw [show ((2 : Int32) - (1 : Int32)) = (1 : Int32) from by decide]
        refine gaaload X hx hZ eT P6_Arv (.ref x1) (by decide) (by decide) rfl rfl 43 (hb hby own_d8_42) rfl ?_
        refine galoadN (v := (.ref x)) X hx 44 (hb hby own_d8_43) rfl rfl rfl ?_
        refine gvirtual (y := (⟨"java/lang/String", "equals", "(Ljava/lang/Object;)Z"⟩ : MethodName)) (z := (⟨"java/lang/String", "equals", "(Ljava/lang/Object;)Z"⟩ : MethodName)) (a := x1) (argsL := [(.ref x)]) (st := []) X hx hZ hown (own_w79 hw) (own_w80 hw) (notFace_of_selects (args := #[]) (mvT hZ (own_w82 hw))) (own_w82 hw) (own_w81 hw) (by decide) P12_Str.exa (payEq (W := 0) hZ hw P12_Str Str2 (O2.ext P0_Old.2) P5 (by decide) (by decide)) eT (by rw [hml]; rfl) (lenOf own_pd12 rfl) rfl (Nat.le_of_eq rfl) 0 0 rfl rfl (by decide) (by decide) 47 (hb hby own_d8_44) rfl ?_
        clear X eT; clear T; intro v T h7 L2 Lc X eT hL hQ8
        obtain ⟨rfl, rfl, hh⟩ := hQ8
        replace hh := hh.symm; subst hh
        replace N : Fr n0 L2 := by rw [hL]; exact Fr.app N (Fr.nil n0)
        clear hL
        show Go p e below _ T (mkF m 47 #[.val (.ref ix), .val (.ref x), .val (.int (31 : Int32)), .val (.int r)] [(.int (if d1 = cs then 1 else 0))])
        rcases Decidable.em (d1 = cs) with hq | hq
        · rw [if_pos hq]
          show Go p e below _ T (mkF m 47 #[.val (.ref ix), .val (.ref x), .val (.int (31 : Int32)), .val (.int r)] [(.int (1 : Int32))])
          refine gifYes X hx 59 (hb hby own_d8_47) (by decide) (by decide) (by decide) ?_
          refine giloadN (v := r) X hx 60 (hb hby own_d8_59) rfl rfl ?_
          exact gRetP X hx hlk hret rfl (Or.inl ⟨rfl, by simp, _, rfl⟩) (hb hby own_d8_60) eT (by decide) (by decide) ⟨(by rw [show r = rs from Option.some.inj ((own_pe (ds := ([d0, d1, d2] : List (List Int32))) ha (by decide) hq).symm.trans hpr)]), N, K0, Str2⟩
        · rw [if_neg hq]
          show Go p e below _ T (mkF m 47 #[.val (.ref ix), .val (.ref x), .val (.int (31 : Int32)), .val (.int r)] [(.int (0 : Int32))])
          refine gifNo X hx 50 (hb hby own_d8_47) rfl (by decide) ?_
          refine giloadN (v := r) X hx 51 (hb hby own_d8_50) rfl rfl ?_
          refine giconst X hx (1 : Int32) 52 (hb hby own_d8_51) rfl rfl ?_
          refine giadd X hx 53 (hb hby own_d8_52) rfl ?_
          refine giloadN (v := (31 : Int32)) X hx 54 (hb hby own_d8_53) rfl rfl ?_
          refine giand X hx 55 (hb hby own_d8_54) rfl ?_
          rw [own_nxd]
          show Go p e below _ T (mkF m 55 #[.val (.ref ix), .val (.ref x), .val (.int (31 : Int32)), .val (.int r)] [(.int (own_nx r))])
          refine gistoreN X hx #[.val (.ref ix), .val (.ref x), .val (.int (31 : Int32)), .val (.int (own_nx r))] 56 (hb hby own_d8_55) rfl rfl ?_
          refine ggoto X hx 21 (hb hby own_d8_56) (by decide) (by decide) ?_
          exact ih _ ((own_pn (ds := ([d0, d1, d2] : List (List Int32))) ha (by decide) hq).symm.trans hpr) (own_nx_nat hR).1 _ N T X eT
      · refine galoadN (v := (.ref ix)) X hx 31 (hb hby own_d8_30) rfl rfl rfl ?_
        refine ggetF X hx hZ (host := "") hown (Or.inl (own_w36 hw)) Via.refl eT P2_Fld 34 (hb hby own_d8_31) rfl ?_
        clear X eT; clear T; intro T X eT
        refine galoadN (v := (.ref ix)) X hx 35 (hb hby own_d8_34) rfl rfl rfl ?_
        refine ggetF X hx hZ (host := "") hown (Or.inl (own_w39 hw)) Via.refl eT P3_Fld 38 (hb hby own_d8_35) rfl ?_
        clear X eT; clear T; intro T X eT
        refine giloadN (v := r) X hx 39 (hb hby own_d8_38) rfl rfl ?_
        refine giaload X hx hZ eT P7_Arv (.int (own_at f r)) hR.1 hR.2 (own_gm f r) 40 (hb hby own_d8_39) rfl ?_
        rw [ha]
        show Go p e below _ T (mkF m 40 #[.val (.ref ix), .val (.ref x), .val (.int (31 : Int32)), .val (.int r)] [(.int (3 : Int32)), (.ref ss)])
        refine giconst X hx (1 : Int32) 41 (hb hby own_d8_40) rfl rfl ?_
        refine gisub X hx 42 (hb hby own_d8_41) rfl ?_
        rw [show ((3 : Int32) - (1 : Int32)) = (2 : Int32) from by decide]
        refine gaaload X hx hZ eT P6_Arv (.ref x2) (by decide) (by decide) rfl rfl 43 (hb hby own_d8_42) rfl ?_
        refine galoadN (v := (.ref x)) X hx 44 (hb hby own_d8_43) rfl rfl rfl ?_
        refine gvirtual (y := (⟨"java/lang/String", "equals", "(Ljava/lang/Object;)Z"⟩ : MethodName)) (z := (⟨"java/lang/String", "equals", "(Ljava/lang/Object;)Z"⟩ : MethodName)) (a := x2) (argsL := [(.ref x)]) (st := []) X hx hZ hown (own_w79 hw) (own_w80 hw) (notFace_of_selects (args := #[]) (mvT hZ (own_w82 hw))) (own_w82 hw) (own_w81 hw) (by decide) P13_Str.exa (payEq (W := 0) hZ hw P13_Str Str2 (O2.ext P0_Old.2) P5 (by decide) (by decide)) eT (by rw [hml]; rfl) (lenOf own_pd12 rfl) rfl (Nat.le_of_eq rfl) 0 0 rfl rfl (by decide) (by decide) 47 (hb hby own_d8_44) rfl ?_
        clear X eT; clear T; intro v T h9 L2 Lc X eT hL hQ10
        obtain ⟨rfl, rfl, hh⟩ := hQ10
        replace hh := hh.symm; subst hh
        replace N : Fr n0 L2 := by rw [hL]; exact Fr.app N (Fr.nil n0)
        clear hL
        show Go p e below _ T (mkF m 47 #[.val (.ref ix), .val (.ref x), .val (.int (31 : Int32)), .val (.int r)] [(.int (if d2 = cs then 1 else 0))])
        rcases Decidable.em (d2 = cs) with hq | hq
        · rw [if_pos hq]
          show Go p e below _ T (mkF m 47 #[.val (.ref ix), .val (.ref x), .val (.int (31 : Int32)), .val (.int r)] [(.int (1 : Int32))])
          refine gifYes X hx 59 (hb hby own_d8_47) (by decide) (by decide) (by decide) ?_
          refine giloadN (v := r) X hx 60 (hb hby own_d8_59) rfl rfl ?_
          exact gRetP X hx hlk hret rfl (Or.inl ⟨rfl, by simp, _, rfl⟩) (hb hby own_d8_60) eT (by decide) (by decide) ⟨(by rw [show r = rs from Option.some.inj ((own_pe (ds := ([d0, d1, d2] : List (List Int32))) ha (by decide) hq).symm.trans hpr)]), N, K0, Str2⟩
        · rw [if_neg hq]
          show Go p e below _ T (mkF m 47 #[.val (.ref ix), .val (.ref x), .val (.int (31 : Int32)), .val (.int r)] [(.int (0 : Int32))])
          refine gifNo X hx 50 (hb hby own_d8_47) rfl (by decide) ?_
          refine giloadN (v := r) X hx 51 (hb hby own_d8_50) rfl rfl ?_
          refine giconst X hx (1 : Int32) 52 (hb hby own_d8_51) rfl rfl ?_
          refine giadd X hx 53 (hb hby own_d8_52) rfl ?_
          refine giloadN (v := (31 : Int32)) X hx 54 (hb hby own_d8_53) rfl rfl ?_
          refine giand X hx 55 (hb hby own_d8_54) rfl ?_
          rw [own_nxd]
          show Go p e below _ T (mkF m 55 #[.val (.ref ix), .val (.ref x), .val (.int (31 : Int32)), .val (.int r)] [(.int (own_nx r))])
          refine gistoreN X hx #[.val (.ref ix), .val (.ref x), .val (.int (31 : Int32)), .val (.int (own_nx r))] 56 (hb hby own_d8_55) rfl rfl ?_
          refine ggoto X hx 21 (hb hby own_d8_56) (by decide) (by decide) ?_
          exact ih _ ((own_pn (ds := ([d0, d1, d2] : List (List Int32))) ha (by decide) hq).symm.trans hpr) (own_nx_nat hR).1 _ N T X eT
set_option maxRecDepth 65536 in
set_option maxHeartbeats 40000000 in
theorem rmAd0 (l : Launch) (Z : State) (a0 : Array Value) (hw : ∀ d ∈ tables_1, d.before a0 Z = true) (x : Addr) (t : Addr) (cs : List Int32) (f : List Int32) (rs : Int32) (nn : Nat) (ix : Addr) (ss : Addr) (sl : Addr) (ks : ClassId) (ki : ClassId) (G1 : Int32) (h0 : Heap) (n0 : Nat) (Z0 : n0 ≤ h0.size) (ge_x : n0 ≤ x) (ge_ix : n0 ≤ ix) (ge_ss : n0 ≤ ss) (ge_sl : n0 ≤ sl) (P0_Old : Old Z n0 h0) (P1_Exa : Exa Z h0 ix "tabulon/StringIndex") (P2_Fld : Fld Z h0 ix "tabulon/StringIndex" "strings" "[Ljava/lang/String;" (.ref ss)) (P3_Fld : Fld Z h0 ix "tabulon/StringIndex" "slots" "[I" (.ref sl)) (P4_Fld : Fld Z h0 ix "tabulon/StringIndex" "size" "I" (.int (0 : Int32))) (P5_Fld : Fld Z h0 ix "tabulon/StringIndex" "shift" "I" (.int (27 : Int32))) (P6_Arv : Arv Z h0 ss ks (.object "java/lang/String") (16 : Int32) [.null, .null, .null, .null, .null, .null, .null, .null, .null, .null, .null, .null, .null, .null, .null, .null] .null) (P7_Arv : Arv Z h0 sl ki .int (32 : Int32) (f.map Value.int) (.int 0)) (P8_Str : Str Z h0 x t cs) (P9_Fld : Fld Z h0 x "java/lang/String" "hash" "I" (.int (0 : Int32))) (P10_Fld : Fld Z h0 x "java/lang/String" "hashIsZero" "Z" (.int (0 : Int32))) (O2 : Sta Z Z.heap "java/lang/String" "COMPACT_STRINGS" "Z" (.int G1)) (P5 : ¬ G1 = (0 : Int32)) (hI : own_Inv f ([] : List (List Int32))) (hpr : own_probe f ([] : List (List Int32)) cs nn (own_H cs) = some rs) (hl3 : cs.length ≤ 3) (hRs : own_R rs) (hat : own_at f rs = 0) (hO : Ovr Z ks "java/lang/String") (hss : ss ≠ sl) (nsx : t ≠ sl) :
    CtP l (⟨"tabulon/StringIndex", "add", "(Ljava/lang/String;)I"⟩ : MethodName) prog_9_method_2_code 4 (some .int) [] ({ frames := 5, cells := 0, slots := 0, locals := 73 } : Room) Z #[(.ref ix), (.ref x)] h0 (fun v h L => v = some (.int (0 : Int32)) ∧ Fr n0 L ∧ Keep h0 h [x, ix, ss, sl] ∧ Str Z h x t cs ∧ Fld Z h ix "tabulon/StringIndex" "strings" "[Ljava/lang/String;" (.ref ss) ∧ Fld Z h ix "tabulon/StringIndex" "slots" "[I" (.ref sl) ∧ Fld Z h ix "tabulon/StringIndex" "size" "I" (.int (1 : Int32)) ∧ Fld Z h ix "tabulon/StringIndex" "shift" "I" (.int (27 : Int32)) ∧ Arv Z h ss ks (.object "java/lang/String") (16 : Int32) [(.ref x), .null, .null, .null, .null, .null, .null, .null, .null, .null, .null, .null, .null, .null, .null, .null] .null ∧ Arv Z h sl ki .int (32 : Int32) ((f.set rs.toNatClampNeg (1 : Int32)).map Value.int) (.int 0)) := by
  refine CtP.walk (Ls := #[.val (.ref ix), .val (.ref x), .unset, .unset]) (plainFor_of_name own_pn10) (fun m => by first | (simp [entryFrame, mkF, argsToLocals, Value.category]; done) | rfl) ?_
  intro p e s m below meth cc_ T hx hby hml hown hnm hret hlk hZ X eT
  have N := Fr.nil n0
  have K0 := Keep.refl h0 [x, ix, ss, sl]
  have sz_h : h0.size ≤ h0.size := Nat.le_refl _
  have nts : t ≠ ss := own_nts P8_Str P6_Arv
  refine galoadN (v := (.ref ix)) X hx 1 (hb hby own_d7_0) rfl rfl rfl ?_
  refine galoadN (v := (.ref x)) X hx 2 (hb hby own_d7_1) rfl rfl rfl ?_
  refine gpriv (y := (⟨"tabulon/StringIndex", "slot", "(Ljava/lang/String;)I"⟩ : MethodName)) (a := ix) (argsL := [(.ref x)]) (st := []) X hx hZ hown (own_w53 hw) (own_w54 hw) (nfInst (args := #[]) (mvT hZ (own_w28 hw))) (own_w55 hw) (own_w56 hw) (by decide) P1_Exa (payP (W := 0) (rmSl0 l Z a0 hw (x) (t) (cs) _ _ _ (ix) (ss) (sl) (ks) (ki) _ h0 n0 (Nat.le_trans Z0 sz_h) ge_x P0_Old P1_Exa P2_Fld P3_Fld P4_Fld P5_Fld P6_Arv P7_Arv P8_Str P9_Fld P10_Fld (O2) (P5) (hI) (hpr) (hl3)) hZ (own_w56 hw) (own_w29 hw) (by decide) (by decide)) eT (by rw [hml]; rfl) (lenOf own_pd13 rfl) rfl (Nat.le_of_eq rfl) 0 0 rfl rfl (by decide) (by decide) 5 (hb hby own_d7_2) rfl ?_
  clear X eT; clear T; intro v T h1 L2 Lc X eT hL hQ2
  obtain ⟨rfl, Nq, K3, G5⟩ := hQ2
  replace N : Fr n0 L2 := by rw [hL]; exact Fr.app N Nq
  clear Nq hL
  have ne_ix_x : ix ≠ x := ne_exa P1_Exa P8_Str.exa (by decide)
  have ne_ss_x : ss ≠ x := Ne.symm (Exa.neArv P8_Str.exa P6_Arv (own_w6 hw))
  have ne_sl_x : sl ≠ x := Ne.symm (Exa.neArv P8_Str.exa P7_Arv (own_w6 hw))
  replace P0_Old := P0_Old.keep K3 (allS ge_x all0)
  replace P1_Exa := P1_Exa.keep K3
  replace P2_Fld := P2_Fld.keep K3 (ninS ne_ix_x nin0)
  replace P3_Fld := P3_Fld.keep K3 (ninS ne_ix_x nin0)
  replace P4_Fld := P4_Fld.keep K3 (ninS ne_ix_x nin0)
  replace P5_Fld := P5_Fld.keep K3 (ninS ne_ix_x nin0)
  replace P6_Arv := P6_Arv.keep K3 (ninS ne_ss_x nin0)
  replace P7_Arv := P7_Arv.keep K3 (ninS ne_sl_x nin0)
  replace K0 := K0.trans K3 (allS (Or.inl (List.mem_of_getElem? (i := 0) rfl)) all0)
  replace sz_h : h0.size ≤ h1.size := Nat.le_trans sz_h K3.1
  show Go p e below _ T (mkF m 5 #[.val (.ref ix), .val (.ref x), .unset, .unset] [(.int rs)])
  refine gistoreN X hx #[.val (.ref ix), .val (.ref x), .val (.int rs), .unset] 6 (hb hby own_d7_5) rfl rfl ?_
  refine galoadN (v := (.ref ix)) X hx 7 (hb hby own_d7_6) rfl rfl rfl ?_
  refine ggetF X hx hZ (host := "") hown (Or.inl (own_w39 hw)) Via.refl eT P3_Fld 10 (hb hby own_d7_7) rfl ?_
  clear X eT; clear T; intro T X eT
  refine giloadN (v := rs) X hx 11 (hb hby own_d7_10) rfl rfl ?_
  refine giaload X hx hZ eT P7_Arv (.int (own_at f rs)) hRs.1 hRs.2 (own_gm f rs) 12 (hb hby own_d7_11) rfl ?_
  rw [hat]
  show Go p e below _ T (mkF m 12 #[.val (.ref ix), .val (.ref x), .val (.int rs), .unset] [(.int (0 : Int32))])
  refine gifYes X hx 24 (hb hby own_d7_12) (by decide) (by decide) (by decide) ?_
  refine galoadN (v := (.ref ix)) X hx 25 (hb hby own_d7_24) rfl rfl rfl ?_
  refine ggetF X hx hZ (host := "") hown (Or.inl (own_w77 hw)) Via.refl eT P4_Fld 28 (hb hby own_d7_25) rfl ?_
  clear X eT; clear T; intro T X eT
  refine galoadN (v := (.ref ix)) X hx 29 (hb hby own_d7_28) rfl rfl rfl ?_
  refine ggetF X hx hZ (host := "") hown (Or.inl (own_w36 hw)) Via.refl eT P2_Fld 32 (hb hby own_d7_29) rfl ?_
  clear X eT; clear T; intro T X eT
  refine garrlen X hx hZ eT P6_Arv 33 (hb hby own_d7_32) rfl ?_
  refine gicmpYes X hx 119 (hb hby own_d7_33) (by decide) (by decide) (by decide) ?_
  refine galoadN (v := (.ref ix)) X hx 120 (hb hby own_d7_119) rfl rfl rfl ?_
  refine ggetF X hx hZ (host := "") hown (Or.inl (own_w36 hw)) Via.refl eT P2_Fld 123 (hb hby own_d7_120) rfl ?_
  clear X eT; clear T; intro T X eT
  refine galoadN (v := (.ref ix)) X hx 124 (hb hby own_d7_123) rfl rfl rfl ?_
  refine ggetF X hx hZ (host := "") hown (Or.inl (own_w77 hw)) Via.refl eT P4_Fld 127 (hb hby own_d7_124) rfl ?_
  clear X eT; clear T; intro T X eT
  refine galoadN (v := (.ref x)) X hx 128 (hb hby own_d7_127) rfl rfl rfl ?_
  have sto_ : Sto Z h1 ss (.ref x) := by obtain ⟨cl_, A1_, q1_, -⟩ := P6_Arv; exact Sto.ofV A1_ q1_ hO (Ins.self G5.exa)
  refine gaastore X hx hZ eT P6_Arv (by decide) (by decide) 0 rfl (Nat.le_of_ble_eq_true rfl) rfl rfl sto_ N ge_ss 129 (hb hby own_d7_128) rfl ?_
  clear X eT N sto_; clear T; intro T h7 L X eT N W6 V8
  have ne_ix_ss : ix ≠ ss := Exa.neArv P1_Exa P6_Arv (own_w28 hw)
  have ne_x_ss : x ≠ ss := Exa.neArv G5.exa P6_Arv (own_w6 hw)
  replace P0_Old := P0_Old.wr W6 ge_ss
  replace P1_Exa := P1_Exa.wr W6
  replace P2_Fld := P2_Fld.other W6 (Or.inl ne_ix_ss)
  replace P3_Fld := P3_Fld.other W6 (Or.inl ne_ix_ss)
  replace P4_Fld := P4_Fld.other W6 (Or.inl ne_ix_ss)
  replace P5_Fld := P5_Fld.other W6 (Or.inl ne_ix_ss)
  replace P7_Arv := P7_Arv.other W6 (Ne.symm hss)
  replace G5 := G5.wr W6 ne_x_ss nts
  replace K0 := K0.wr W6 (Or.inl (List.mem_of_getElem? (i := 2) rfl))
  replace sz_h : h0.size ≤ h7.size := by rw [Wr.size W6]; exact sz_h
  replace V8 : Arv Z h7 ss ks (.object "java/lang/String") (16 : Int32) [(.ref x), .null, .null, .null, .null, .null, .null, .null, .null, .null, .null, .null, .null, .null, .null, .null] .null := V8
  refine galoadN (v := (.ref ix)) X hx 130 (hb hby own_d7_129) rfl rfl rfl ?_
  refine ggetF X hx hZ (host := "") hown (Or.inl (own_w39 hw)) Via.refl eT P3_Fld 133 (hb hby own_d7_130) rfl ?_
  clear X eT; clear T; intro T X eT
  refine giloadN (v := rs) X hx 134 (hb hby own_d7_133) rfl rfl ?_
  refine galoadN (v := (.ref ix)) X hx 135 (hb hby own_d7_134) rfl rfl rfl ?_
  refine gdup X hx 136 (hb hby own_d7_135) rfl rfl ?_
  refine ggetF X hx hZ (host := "") hown (Or.inl (own_w77 hw)) Via.refl eT P4_Fld 139 (hb hby own_d7_136) rfl ?_
  clear X eT; clear T; intro T X eT
  refine giconst X hx (1 : Int32) 140 (hb hby own_d7_139) rfl rfl ?_
  refine giadd X hx 141 (hb hby own_d7_140) rfl ?_
  rw [show ((0 : Int32) + (1 : Int32)) = (1 : Int32) from by decide]
  refine gdupX1 X hx 142 (hb hby own_d7_141) rfl rfl rfl ?_
  refine gputF X hx hZ (host := "") hown (Or.inl (own_w77 hw)) Via.refl eT P4_Fld P1_Exa (Or.inl (own_w78 hw)) (own_w28 hw) (ty := .int) own_pf2 rfl rfl N ge_ix 145 (hb hby own_d7_142) rfl ?_
  clear X eT N; clear T; intro T h9 L X eT N W10
  have ne_ss_ix : ss ≠ ix := Ne.symm (Exa.neArv P1_Exa V8 (own_w28 hw))
  have ne_sl_ix : sl ≠ ix := Ne.symm (Exa.neArv P1_Exa P7_Arv (own_w28 hw))
  have ne_x_ix : x ≠ ix := ne_exa G5.exa P1_Exa (by decide)
  have ne_t_ix : t ≠ ix := Str.ne2 G5 P1_Exa (own_w28 hw)
  replace P0_Old := P0_Old.wr W10 ge_ix
  replace P1_Exa := P1_Exa.wr W10
  replace P2_Fld := P2_Fld.other W10 (Or.inr (slot_ne (Or.inl (own_w37 hw)) (Or.inl (own_w78 hw)) (by decide) own_pf4 own_pf2))
  replace P3_Fld := P3_Fld.other W10 (Or.inr (slot_ne (Or.inl (own_w40 hw)) (Or.inl (own_w78 hw)) (by decide) own_pf5 own_pf2))
  replace P4_Fld := P4_Fld.same W10
  replace P5_Fld := P5_Fld.other W10 (Or.inr (slot_ne (Or.inl (own_w47 hw)) (Or.inl (own_w78 hw)) (by decide) own_pf2 own_pf2))
  replace V8 := V8.other W10 ne_ss_ix
  replace P7_Arv := P7_Arv.other W10 ne_sl_ix
  replace G5 := G5.wr W10 ne_x_ix ne_t_ix
  replace K0 := K0.wr W10 (Or.inl (List.mem_of_getElem? (i := 1) rfl))
  replace sz_h : h0.size ≤ h9.size := by rw [Wr.size W10]; exact sz_h
  refine giastore X hx hZ eT P7_Arv hRs.1 hRs.2 rs.toNatClampNeg rfl (by rw [List.length_map, hI.1]; exact (own_R_nat hRs).2) N ge_sl 146 (hb hby own_d7_145) rfl ?_
  clear X eT N; clear T; intro T h12 L X eT N W11 V13
  have ne_ix_sl : ix ≠ sl := Exa.neArv P1_Exa P7_Arv (own_w28 hw)
  have ne_x_sl : x ≠ sl := Exa.neArv G5.exa P7_Arv (own_w6 hw)
  replace P0_Old := P0_Old.wr W11 ge_sl
  replace P1_Exa := P1_Exa.wr W11
  replace P2_Fld := P2_Fld.other W11 (Or.inl ne_ix_sl)
  replace P3_Fld := P3_Fld.other W11 (Or.inl ne_ix_sl)
  replace P4_Fld := P4_Fld.other W11 (Or.inl ne_ix_sl)
  replace P5_Fld := P5_Fld.other W11 (Or.inl ne_ix_sl)
  replace V8 := V8.other W11 hss
  replace G5 := G5.wr W11 ne_x_sl nsx
  replace K0 := K0.wr W11 (Or.inl (List.mem_of_getElem? (i := 3) rfl))
  replace sz_h : h0.size ≤ h12.size := by rw [Wr.size W11]; exact sz_h
  rw [← own_ms] at V13
  refine galoadN (v := (.ref ix)) X hx 147 (hb hby own_d7_146) rfl rfl rfl ?_
  refine ggetF X hx hZ (host := "") hown (Or.inl (own_w77 hw)) Via.refl eT P4_Fld 150 (hb hby own_d7_147) rfl ?_
  clear X eT; clear T; intro T X eT
  refine giconst X hx (1 : Int32) 151 (hb hby own_d7_150) rfl rfl ?_
  refine gisub X hx 152 (hb hby own_d7_151) rfl ?_
  rw [show ((1 : Int32) - (1 : Int32)) = (0 : Int32) from by decide]
  exact gRetP X hx hlk hret rfl (Or.inl ⟨rfl, by simp, _, rfl⟩) (hb hby own_d7_152) eT (by decide) (by decide) ⟨rfl, N, K0, G5, P2_Fld, P3_Fld, P4_Fld, P5_Fld, V8, V13⟩
set_option maxRecDepth 65536 in
set_option maxHeartbeats 40000000 in
theorem rmNo0 (l : Launch) (Z : State) (a0 : Array Value) (hw : ∀ d ∈ tables_1, d.before a0 Z = true) (x : Addr) (t : Addr) (cs : List Int32) (f : List Int32) (rs : Int32) (nn : Nat) (ix : Addr) (ss : Addr) (sl : Addr) (ks : ClassId) (ki : ClassId) (G1 : Int32) (h0 : Heap) (n0 : Nat) (Z0 : n0 ≤ h0.size) (ge_x : n0 ≤ x) (P0_Old : Old Z n0 h0) (P1_Exa : Exa Z h0 ix "tabulon/StringIndex") (P2_Fld : Fld Z h0 ix "tabulon/StringIndex" "strings" "[Ljava/lang/String;" (.ref ss)) (P3_Fld : Fld Z h0 ix "tabulon/StringIndex" "slots" "[I" (.ref sl)) (P4_Fld : Fld Z h0 ix "tabulon/StringIndex" "size" "I" (.int (0 : Int32))) (P5_Fld : Fld Z h0 ix "tabulon/StringIndex" "shift" "I" (.int (27 : Int32))) (P6_Arv : Arv Z h0 ss ks (.object "java/lang/String") (16 : Int32) [.null, .null, .null, .null, .null, .null, .null, .null, .null, .null, .null, .null, .null, .null, .null, .null] .null) (P7_Arv : Arv Z h0 sl ki .int (32 : Int32) (f.map Value.int) (.int 0)) (P8_Str : Str Z h0 x t cs) (P9_Fld : Fld Z h0 x "java/lang/String" "hash" "I" (.int (0 : Int32))) (P10_Fld : Fld Z h0 x "java/lang/String" "hashIsZero" "Z" (.int (0 : Int32))) (O2 : Sta Z Z.heap "java/lang/String" "COMPACT_STRINGS" "Z" (.int G1)) (P5 : ¬ G1 = (0 : Int32)) (hI : own_Inv f ([] : List (List Int32))) (hpr : own_probe f ([] : List (List Int32)) cs nn (own_H cs) = some rs) (hl3 : cs.length ≤ 3) (hRs : own_R rs) :
    CtP l (⟨"tabulon/StringIndex", "numberOf", "(Ljava/lang/String;)I"⟩ : MethodName) prog_9_method_3_code 2 (some .int) [] ({ frames := 5, cells := 0, slots := 0, locals := 74 } : Room) Z #[(.ref ix), (.ref x)] h0 (fun v h L => v = some (.int (own_at f rs - (1 : Int32))) ∧ Fr n0 L ∧ Keep h0 h [x] ∧ Str Z h x t cs) := by
  refine CtP.walk (Ls := #[.val (.ref ix), .val (.ref x)]) (plainFor_of_name own_pn10) (fun m => by first | (simp [entryFrame, mkF, argsToLocals, Value.category]; done) | rfl) ?_
  intro p e s m below meth cc_ T hx hby hml hown hnm hret hlk hZ X eT
  have N := Fr.nil n0
  have K0 := Keep.refl h0 [x]
  have sz_h : h0.size ≤ h0.size := Nat.le_refl _
  refine galoadN (v := (.ref ix)) X hx 1 (hb hby own_d14_0) rfl rfl rfl ?_
  refine ggetF X hx hZ (host := "") hown (Or.inl (own_w39 hw)) Via.refl eT P3_Fld 4 (hb hby own_d14_1) rfl ?_
  clear X eT; clear T; intro T X eT
  refine galoadN (v := (.ref ix)) X hx 5 (hb hby own_d14_4) rfl rfl rfl ?_
  refine galoadN (v := (.ref x)) X hx 6 (hb hby own_d14_5) rfl rfl rfl ?_
  refine gpriv (y := (⟨"tabulon/StringIndex", "slot", "(Ljava/lang/String;)I"⟩ : MethodName)) (a := ix) (argsL := [(.ref x)]) (st := [(.ref sl)]) X hx hZ hown (own_w53 hw) (own_w54 hw) (nfInst (args := #[]) (mvT hZ (own_w28 hw))) (own_w55 hw) (own_w56 hw) (by decide) P1_Exa (payP (W := 1) (rmSl0 l Z a0 hw (x) (t) (cs) _ _ _ (ix) (ss) (sl) (ks) (ki) _ h0 n0 (Nat.le_trans Z0 sz_h) ge_x P0_Old P1_Exa P2_Fld P3_Fld P4_Fld P5_Fld P6_Arv P7_Arv P8_Str P9_Fld P10_Fld (O2) (P5) (hI) (hpr) (hl3)) hZ (own_w56 hw) (own_w29 hw) (by decide) (by decide)) eT (by rw [hml]; rfl) (lenOf own_pd13 rfl) rfl (Nat.le_of_eq rfl) 0 0 rfl rfl (by decide) (by decide) 9 (hb hby own_d14_6) rfl ?_
  clear X eT; clear T; intro v T h1 L2 Lc X eT hL hQ2
  obtain ⟨rfl, Nq, K3, G5⟩ := hQ2
  replace N : Fr n0 L2 := by rw [hL]; exact Fr.app N Nq
  clear Nq hL
  have ne_ix_x : ix ≠ x := ne_exa P1_Exa P8_Str.exa (by decide)
  have ne_ss_x : ss ≠ x := Ne.symm (Exa.neArv P8_Str.exa P6_Arv (own_w6 hw))
  have ne_sl_x : sl ≠ x := Ne.symm (Exa.neArv P8_Str.exa P7_Arv (own_w6 hw))
  replace P0_Old := P0_Old.keep K3 (allS ge_x all0)
  replace P1_Exa := P1_Exa.keep K3
  replace P2_Fld := P2_Fld.keep K3 (ninS ne_ix_x nin0)
  replace P3_Fld := P3_Fld.keep K3 (ninS ne_ix_x nin0)
  replace P4_Fld := P4_Fld.keep K3 (ninS ne_ix_x nin0)
  replace P5_Fld := P5_Fld.keep K3 (ninS ne_ix_x nin0)
  replace P6_Arv := P6_Arv.keep K3 (ninS ne_ss_x nin0)
  replace P7_Arv := P7_Arv.keep K3 (ninS ne_sl_x nin0)
  replace K0 := K0.trans K3 (allS (Or.inl (List.mem_of_getElem? (i := 0) rfl)) all0)
  replace sz_h : h0.size ≤ h1.size := Nat.le_trans sz_h K3.1
  show Go p e below _ T (mkF m 9 #[.val (.ref ix), .val (.ref x)] [(.int rs), (.ref sl)])
  refine giaload X hx hZ eT P7_Arv (.int (own_at f rs)) hRs.1 hRs.2 (own_gm f rs) 10 (hb hby own_d14_9) rfl ?_
  refine giconst X hx (1 : Int32) 11 (hb hby own_d14_10) rfl rfl ?_
  refine gisub X hx 12 (hb hby own_d14_11) rfl ?_
  exact gRetP X hx hlk hret rfl (Or.inl ⟨rfl, by simp, _, rfl⟩) (hb hby own_d14_12) eT (by decide) (by decide) ⟨rfl, N, K0, G5⟩
set_option maxRecDepth 65536 in
set_option maxHeartbeats 40000000 in
theorem rmAd1 (l : Launch) (Z : State) (a0 : Array Value) (hw : ∀ d ∈ tables_1, d.before a0 Z = true) (x : Addr) (t : Addr) (cs : List Int32) (f : List Int32) (rs : Int32) (nn : Nat) (ix : Addr) (ss : Addr) (sl : Addr) (ks : ClassId) (ki : ClassId) (G1 : Int32) (x0 : Addr) (t0 : Addr) (d0 : List Int32) (h0 : Heap) (n0 : Nat) (Z0 : n0 ≤ h0.size) (ge_x : n0 ≤ x) (ge_ix : n0 ≤ ix) (ge_ss : n0 ≤ ss) (ge_sl : n0 ≤ sl) (P0_Old : Old Z n0 h0) (P1_Exa : Exa Z h0 ix "tabulon/StringIndex") (P2_Fld : Fld Z h0 ix "tabulon/StringIndex" "strings" "[Ljava/lang/String;" (.ref ss)) (P3_Fld : Fld Z h0 ix "tabulon/StringIndex" "slots" "[I" (.ref sl)) (P4_Fld : Fld Z h0 ix "tabulon/StringIndex" "size" "I" (.int (1 : Int32))) (P5_Fld : Fld Z h0 ix "tabulon/StringIndex" "shift" "I" (.int (27 : Int32))) (P6_Arv : Arv Z h0 ss ks (.object "java/lang/String") (16 : Int32) [(.ref x0), .null, .null, .null, .null, .null, .null, .null, .null, .null, .null, .null, .null, .null, .null, .null] .null) (P7_Arv : Arv Z h0 sl ki .int (32 : Int32) (f.map Value.int) (.int 0)) (P8_Str : Str Z h0 x t cs) (P9_Fld : Fld Z h0 x "java/lang/String" "hash" "I" (.int (0 : Int32))) (P10_Fld : Fld Z h0 x "java/lang/String" "hashIsZero" "Z" (.int (0 : Int32))) (P11_Str : Str Z h0 x0 t0 d0) (O2 : Sta Z Z.heap "java/lang/String" "COMPACT_STRINGS" "Z" (.int G1)) (P5 : ¬ G1 = (0 : Int32)) (hI : own_Inv f ([d0] : List (List Int32))) (hpr : own_probe f ([d0] : List (List Int32)) cs nn (own_H cs) = some rs) (hl3 : cs.length ≤ 3) (nx0 : x0 ≠ x) (nt0 : t0 ≠ x) (hRs : own_R rs) (hat : own_at f rs = 0) (hO : Ovr Z ks "java/lang/String") (hss : ss ≠ sl) (ns0 : t0 ≠ sl) (nsx : t ≠ sl) :
    CtP l (⟨"tabulon/StringIndex", "add", "(Ljava/lang/String;)I"⟩ : MethodName) prog_9_method_2_code 4 (some .int) [] ({ frames := 5, cells := 0, slots := 0, locals := 73 } : Room) Z #[(.ref ix), (.ref x)] h0 (fun v h L => v = some (.int (1 : Int32)) ∧ Fr n0 L ∧ Keep h0 h [x, ix, ss, sl] ∧ Str Z h x t cs ∧ Fld Z h ix "tabulon/StringIndex" "strings" "[Ljava/lang/String;" (.ref ss) ∧ Fld Z h ix "tabulon/StringIndex" "slots" "[I" (.ref sl) ∧ Fld Z h ix "tabulon/StringIndex" "size" "I" (.int (2 : Int32)) ∧ Fld Z h ix "tabulon/StringIndex" "shift" "I" (.int (27 : Int32)) ∧ Arv Z h ss ks (.object "java/lang/String") (16 : Int32) [(.ref x0), (.ref x), .null, .null, .null, .null, .null, .null, .null, .null, .null, .null, .null, .null, .null, .null] .null ∧ Arv Z h sl ki .int (32 : Int32) ((f.set rs.toNatClampNeg (2 : Int32)).map Value.int) (.int 0)) := by
  refine CtP.walk (Ls := #[.val (.ref ix), .val (.ref x), .unset, .unset]) (plainFor_of_name own_pn10) (fun m => by first | (simp [entryFrame, mkF, argsToLocals, Value.category]; done) | rfl) ?_
  intro p e s m below meth cc_ T hx hby hml hown hnm hret hlk hZ X eT
  have N := Fr.nil n0
  have K0 := Keep.refl h0 [x, ix, ss, sl]
  have sz_h : h0.size ≤ h0.size := Nat.le_refl _
  have nts : t ≠ ss := own_nts P8_Str P6_Arv
  have nts0 : t0 ≠ ss := own_nts P11_Str P6_Arv
  refine galoadN (v := (.ref ix)) X hx 1 (hb hby own_d7_0) rfl rfl rfl ?_
  refine galoadN (v := (.ref x)) X hx 2 (hb hby own_d7_1) rfl rfl rfl ?_
  refine gpriv (y := (⟨"tabulon/StringIndex", "slot", "(Ljava/lang/String;)I"⟩ : MethodName)) (a := ix) (argsL := [(.ref x)]) (st := []) X hx hZ hown (own_w53 hw) (own_w54 hw) (nfInst (args := #[]) (mvT hZ (own_w28 hw))) (own_w55 hw) (own_w56 hw) (by decide) P1_Exa (payP (W := 0) (rmSl1 l Z a0 hw (x) (t) (cs) _ _ _ (ix) (ss) (sl) (ks) (ki) _ (x0) (t0) (d0) h0 n0 (Nat.le_trans Z0 sz_h) ge_x P0_Old P1_Exa P2_Fld P3_Fld P4_Fld P5_Fld P6_Arv P7_Arv P8_Str P9_Fld P10_Fld P11_Str (O2) (P5) (hI) (hpr) (hl3) (nx0) (nt0)) hZ (own_w56 hw) (own_w29 hw) (by decide) (by decide)) eT (by rw [hml]; rfl) (lenOf own_pd13 rfl) rfl (Nat.le_of_eq rfl) 0 0 rfl rfl (by decide) (by decide) 5 (hb hby own_d7_2) rfl ?_
  clear X eT; clear T; intro v T h1 L2 Lc X eT hL hQ2
  obtain ⟨rfl, Nq, K3, G5⟩ := hQ2
  replace N : Fr n0 L2 := by rw [hL]; exact Fr.app N Nq
  clear Nq hL
  have ne_ix_x : ix ≠ x := ne_exa P1_Exa P8_Str.exa (by decide)
  have ne_ss_x : ss ≠ x := Ne.symm (Exa.neArv P8_Str.exa P6_Arv (own_w6 hw))
  have ne_sl_x : sl ≠ x := Ne.symm (Exa.neArv P8_Str.exa P7_Arv (own_w6 hw))
  replace P0_Old := P0_Old.keep K3 (allS ge_x all0)
  replace P1_Exa := P1_Exa.keep K3
  replace P2_Fld := P2_Fld.keep K3 (ninS ne_ix_x nin0)
  replace P3_Fld := P3_Fld.keep K3 (ninS ne_ix_x nin0)
  replace P4_Fld := P4_Fld.keep K3 (ninS ne_ix_x nin0)
  replace P5_Fld := P5_Fld.keep K3 (ninS ne_ix_x nin0)
  replace P6_Arv := P6_Arv.keep K3 (ninS ne_ss_x nin0)
  replace P7_Arv := P7_Arv.keep K3 (ninS ne_sl_x nin0)
  replace P11_Str := P11_Str.keep K3 (ninS nx0 nin0) (ninS nt0 nin0)
  replace K0 := K0.trans K3 (allS (Or.inl (List.mem_of_getElem? (i := 0) rfl)) all0)
  replace sz_h : h0.size ≤ h1.size := Nat.le_trans sz_h K3.1
  show Go p e below _ T (mkF m 5 #[.val (.ref ix), .val (.ref x), .unset, .unset] [(.int rs)])
  refine gistoreN X hx #[.val (.ref ix), .val (.ref x), .val (.int rs), .unset] 6 (hb hby own_d7_5) rfl rfl ?_
  refine galoadN (v := (.ref ix)) X hx 7 (hb hby own_d7_6) rfl rfl rfl ?_
  refine ggetF X hx hZ (host := "") hown (Or.inl (own_w39 hw)) Via.refl eT P3_Fld 10 (hb hby own_d7_7) rfl ?_
  clear X eT; clear T; intro T X eT
  refine giloadN (v := rs) X hx 11 (hb hby own_d7_10) rfl rfl ?_
  refine giaload X hx hZ eT P7_Arv (.int (own_at f rs)) hRs.1 hRs.2 (own_gm f rs) 12 (hb hby own_d7_11) rfl ?_
  rw [hat]
  show Go p e below _ T (mkF m 12 #[.val (.ref ix), .val (.ref x), .val (.int rs), .unset] [(.int (0 : Int32))])
  refine gifYes X hx 24 (hb hby own_d7_12) (by decide) (by decide) (by decide) ?_
  refine galoadN (v := (.ref ix)) X hx 25 (hb hby own_d7_24) rfl rfl rfl ?_
  refine ggetF X hx hZ (host := "") hown (Or.inl (own_w77 hw)) Via.refl eT P4_Fld 28 (hb hby own_d7_25) rfl ?_
  clear X eT; clear T; intro T X eT
  refine galoadN (v := (.ref ix)) X hx 29 (hb hby own_d7_28) rfl rfl rfl ?_
  refine ggetF X hx hZ (host := "") hown (Or.inl (own_w36 hw)) Via.refl eT P2_Fld 32 (hb hby own_d7_29) rfl ?_
  clear X eT; clear T; intro T X eT
  refine garrlen X hx hZ eT P6_Arv 33 (hb hby own_d7_32) rfl ?_
  refine gicmpYes X hx 119 (hb hby own_d7_33) (by decide) (by decide) (by decide) ?_
  refine galoadN (v := (.ref ix)) X hx 120 (hb hby own_d7_119) rfl rfl rfl ?_
  refine ggetF X hx hZ (host := "") hown (Or.inl (own_w36 hw)) Via.refl eT P2_Fld 123 (hb hby own_d7_120) rfl ?_
  clear X eT; clear T; intro T X eT
  refine galoadN (v := (.ref ix)) X hx 124 (hb hby own_d7_123) rfl rfl rfl ?_
  refine ggetF X hx hZ (host := "") hown (Or.inl (own_w77 hw)) Via.refl eT P4_Fld 127 (hb hby own_d7_124) rfl ?_
  clear X eT; clear T; intro T X eT
  refine galoadN (v := (.ref x)) X hx 128 (hb hby own_d7_127) rfl rfl rfl ?_
  have sto_ : Sto Z h1 ss (.ref x) := by obtain ⟨cl_, A1_, q1_, -⟩ := P6_Arv; exact Sto.ofV A1_ q1_ hO (Ins.self G5.exa)
  refine gaastore X hx hZ eT P6_Arv (by decide) (by decide) 1 rfl (Nat.le_of_ble_eq_true rfl) rfl rfl sto_ N ge_ss 129 (hb hby own_d7_128) rfl ?_
  clear X eT N sto_; clear T; intro T h7 L X eT N W6 V8
  have ne_ix_ss : ix ≠ ss := Exa.neArv P1_Exa P6_Arv (own_w28 hw)
  have ne_x0_ss : x0 ≠ ss := Exa.neArv P11_Str.exa P6_Arv (own_w6 hw)
  have ne_x_ss : x ≠ ss := Exa.neArv G5.exa P6_Arv (own_w6 hw)
  replace P0_Old := P0_Old.wr W6 ge_ss
  replace P1_Exa := P1_Exa.wr W6
  replace P2_Fld := P2_Fld.other W6 (Or.inl ne_ix_ss)
  replace P3_Fld := P3_Fld.other W6 (Or.inl ne_ix_ss)
  replace P4_Fld := P4_Fld.other W6 (Or.inl ne_ix_ss)
  replace P5_Fld := P5_Fld.other W6 (Or.inl ne_ix_ss)
  replace P7_Arv := P7_Arv.other W6 (Ne.symm hss)
  replace P11_Str := P11_Str.wr W6 ne_x0_ss nts0
  replace G5 := G5.wr W6 ne_x_ss nts
  replace K0 := K0.wr W6 (Or.inl (List.mem_of_getElem? (i := 2) rfl))
  replace sz_h : h0.size ≤ h7.size := by rw [Wr.size W6]; exact sz_h
  replace V8 : Arv Z h7 ss ks (.object "java/lang/String") (16 : Int32) [(.ref x0), (.ref x), .null, .null, .null, .null, .null, .null, .null, .null, .null, .null, .null, .null, .null, .null] .null := V8
  refine galoadN (v := (.ref ix)) X hx 130 (hb hby own_d7_129) rfl rfl rfl ?_
  refine ggetF X hx hZ (host := "") hown (Or.inl (own_w39 hw)) Via.refl eT P3_Fld 133 (hb hby own_d7_130) rfl ?_
  clear X eT; clear T; intro T X eT
  refine giloadN (v := rs) X hx 134 (hb hby own_d7_133) rfl rfl ?_
  refine galoadN (v := (.ref ix)) X hx 135 (hb hby own_d7_134) rfl rfl rfl ?_
  refine gdup X hx 136 (hb hby own_d7_135) rfl rfl ?_
  refine ggetF X hx hZ (host := "") hown (Or.inl (own_w77 hw)) Via.refl eT P4_Fld 139 (hb hby own_d7_136) rfl ?_
  clear X eT; clear T; intro T X eT
  refine giconst X hx (1 : Int32) 140 (hb hby own_d7_139) rfl rfl ?_
  refine giadd X hx 141 (hb hby own_d7_140) rfl ?_
  rw [show ((1 : Int32) + (1 : Int32)) = (2 : Int32) from by decide]
  refine gdupX1 X hx 142 (hb hby own_d7_141) rfl rfl rfl ?_
  refine gputF X hx hZ (host := "") hown (Or.inl (own_w77 hw)) Via.refl eT P4_Fld P1_Exa (Or.inl (own_w78 hw)) (own_w28 hw) (ty := .int) own_pf2 rfl rfl N ge_ix 145 (hb hby own_d7_142) rfl ?_
  clear X eT N; clear T; intro T h9 L X eT N W10
  have ne_ss_ix : ss ≠ ix := Ne.symm (Exa.neArv P1_Exa V8 (own_w28 hw))
  have ne_sl_ix : sl ≠ ix := Ne.symm (Exa.neArv P1_Exa P7_Arv (own_w28 hw))
  have ne_x0_ix : x0 ≠ ix := ne_exa P11_Str.exa P1_Exa (by decide)
  have ne_t0_ix : t0 ≠ ix := Str.ne2 P11_Str P1_Exa (own_w28 hw)
  have ne_x_ix : x ≠ ix := ne_exa G5.exa P1_Exa (by decide)
  have ne_t_ix : t ≠ ix := Str.ne2 G5 P1_Exa (own_w28 hw)
  replace P0_Old := P0_Old.wr W10 ge_ix
  replace P1_Exa := P1_Exa.wr W10
  replace P2_Fld := P2_Fld.other W10 (Or.inr (slot_ne (Or.inl (own_w37 hw)) (Or.inl (own_w78 hw)) (by decide) own_pf4 own_pf2))
  replace P3_Fld := P3_Fld.other W10 (Or.inr (slot_ne (Or.inl (own_w40 hw)) (Or.inl (own_w78 hw)) (by decide) own_pf5 own_pf2))
  replace P4_Fld := P4_Fld.same W10
  replace P5_Fld := P5_Fld.other W10 (Or.inr (slot_ne (Or.inl (own_w47 hw)) (Or.inl (own_w78 hw)) (by decide) own_pf2 own_pf2))
  replace V8 := V8.other W10 ne_ss_ix
  replace P7_Arv := P7_Arv.other W10 ne_sl_ix
  replace P11_Str := P11_Str.wr W10 ne_x0_ix ne_t0_ix
  replace G5 := G5.wr W10 ne_x_ix ne_t_ix
  replace K0 := K0.wr W10 (Or.inl (List.mem_of_getElem? (i := 1) rfl))
  replace sz_h : h0.size ≤ h9.size := by rw [Wr.size W10]; exact sz_h
  refine giastore X hx hZ eT P7_Arv hRs.1 hRs.2 rs.toNatClampNeg rfl (by rw [List.length_map, hI.1]; exact (own_R_nat hRs).2) N ge_sl 146 (hb hby own_d7_145) rfl ?_
  clear X eT N; clear T; intro T h12 L X eT N W11 V13
  have ne_ix_sl : ix ≠ sl := Exa.neArv P1_Exa P7_Arv (own_w28 hw)
  have ne_x0_sl : x0 ≠ sl := Exa.neArv P11_Str.exa P7_Arv (own_w6 hw)
  have ne_x_sl : x ≠ sl := Exa.neArv G5.exa P7_Arv (own_w6 hw)
  replace P0_Old := P0_Old.wr W11 ge_sl
  replace P1_Exa := P1_Exa.wr W11
  replace P2_Fld := P2_Fld.other W11 (Or.inl ne_ix_sl)
  replace P3_Fld := P3_Fld.other W11 (Or.inl ne_ix_sl)
  replace P4_Fld := P4_Fld.other W11 (Or.inl ne_ix_sl)
  replace P5_Fld := P5_Fld.other W11 (Or.inl ne_ix_sl)
  replace V8 := V8.other W11 hss
  replace P11_Str := P11_Str.wr W11 ne_x0_sl ns0
  replace G5 := G5.wr W11 ne_x_sl nsx
  replace K0 := K0.wr W11 (Or.inl (List.mem_of_getElem? (i := 3) rfl))
  replace sz_h : h0.size ≤ h12.size := by rw [Wr.size W11]; exact sz_h
  rw [← own_ms] at V13
  refine galoadN (v := (.ref ix)) X hx 147 (hb hby own_d7_146) rfl rfl rfl ?_
  refine ggetF X hx hZ (host := "") hown (Or.inl (own_w77 hw)) Via.refl eT P4_Fld 150 (hb hby own_d7_147) rfl ?_
  clear X eT; clear T; intro T X eT
  refine giconst X hx (1 : Int32) 151 (hb hby own_d7_150) rfl rfl ?_
  refine gisub X hx 152 (hb hby own_d7_151) rfl ?_
  rw [show ((2 : Int32) - (1 : Int32)) = (1 : Int32) from by decide]
  exact gRetP X hx hlk hret rfl (Or.inl ⟨rfl, by simp, _, rfl⟩) (hb hby own_d7_152) eT (by decide) (by decide) ⟨rfl, N, K0, G5, P2_Fld, P3_Fld, P4_Fld, P5_Fld, V8, V13⟩
set_option maxRecDepth 65536 in
set_option maxHeartbeats 40000000 in
theorem rmAf1 (l : Launch) (Z : State) (a0 : Array Value) (hw : ∀ d ∈ tables_1, d.before a0 Z = true) (x : Addr) (t : Addr) (cs : List Int32) (f : List Int32) (rs : Int32) (nn : Nat) (ix : Addr) (ss : Addr) (sl : Addr) (ks : ClassId) (ki : ClassId) (G1 : Int32) (x0 : Addr) (t0 : Addr) (d0 : List Int32) (h0 : Heap) (n0 : Nat) (Z0 : n0 ≤ h0.size) (ge_x : n0 ≤ x) (P0_Old : Old Z n0 h0) (P1_Exa : Exa Z h0 ix "tabulon/StringIndex") (P2_Fld : Fld Z h0 ix "tabulon/StringIndex" "strings" "[Ljava/lang/String;" (.ref ss)) (P3_Fld : Fld Z h0 ix "tabulon/StringIndex" "slots" "[I" (.ref sl)) (P4_Fld : Fld Z h0 ix "tabulon/StringIndex" "size" "I" (.int (1 : Int32))) (P5_Fld : Fld Z h0 ix "tabulon/StringIndex" "shift" "I" (.int (27 : Int32))) (P6_Arv : Arv Z h0 ss ks (.object "java/lang/String") (16 : Int32) [(.ref x0), .null, .null, .null, .null, .null, .null, .null, .null, .null, .null, .null, .null, .null, .null, .null] .null) (P7_Arv : Arv Z h0 sl ki .int (32 : Int32) (f.map Value.int) (.int 0)) (P8_Str : Str Z h0 x t cs) (P9_Fld : Fld Z h0 x "java/lang/String" "hash" "I" (.int (0 : Int32))) (P10_Fld : Fld Z h0 x "java/lang/String" "hashIsZero" "Z" (.int (0 : Int32))) (P11_Str : Str Z h0 x0 t0 d0) (O2 : Sta Z Z.heap "java/lang/String" "COMPACT_STRINGS" "Z" (.int G1)) (P5 : ¬ G1 = (0 : Int32)) (hI : own_Inv f ([d0] : List (List Int32))) (hpr : own_probe f ([d0] : List (List Int32)) cs nn (own_H cs) = some rs) (hl3 : cs.length ≤ 3) (nx0 : x0 ≠ x) (nt0 : t0 ≠ x) (hRs : own_R rs) (hat : ¬ own_at f rs = 0) :
    CtP l (⟨"tabulon/StringIndex", "add", "(Ljava/lang/String;)I"⟩ : MethodName) prog_9_method_2_code 4 (some .int) [] ({ frames := 5, cells := 0, slots := 0, locals := 73 } : Room) Z #[(.ref ix), (.ref x)] h0 (fun v h L => v = some (.int (own_at f rs - (1 : Int32))) ∧ Fr n0 L ∧ Keep h0 h [x] ∧ Str Z h x t cs) := by
  refine CtP.walk (Ls := #[.val (.ref ix), .val (.ref x), .unset, .unset]) (plainFor_of_name own_pn10) (fun m => by first | (simp [entryFrame, mkF, argsToLocals, Value.category]; done) | rfl) ?_
  intro p e s m below meth cc_ T hx hby hml hown hnm hret hlk hZ X eT
  have N := Fr.nil n0
  have K0 := Keep.refl h0 [x]
  have sz_h : h0.size ≤ h0.size := Nat.le_refl _
  refine galoadN (v := (.ref ix)) X hx 1 (hb hby own_d7_0) rfl rfl rfl ?_
  refine galoadN (v := (.ref x)) X hx 2 (hb hby own_d7_1) rfl rfl rfl ?_
  refine gpriv (y := (⟨"tabulon/StringIndex", "slot", "(Ljava/lang/String;)I"⟩ : MethodName)) (a := ix) (argsL := [(.ref x)]) (st := []) X hx hZ hown (own_w53 hw) (own_w54 hw) (nfInst (args := #[]) (mvT hZ (own_w28 hw))) (own_w55 hw) (own_w56 hw) (by decide) P1_Exa (payP (W := 0) (rmSl1 l Z a0 hw (x) (t) (cs) _ _ _ (ix) (ss) (sl) (ks) (ki) _ (x0) (t0) (d0) h0 n0 (Nat.le_trans Z0 sz_h) ge_x P0_Old P1_Exa P2_Fld P3_Fld P4_Fld P5_Fld P6_Arv P7_Arv P8_Str P9_Fld P10_Fld P11_Str (O2) (P5) (hI) (hpr) (hl3) (nx0) (nt0)) hZ (own_w56 hw) (own_w29 hw) (by decide) (by decide)) eT (by rw [hml]; rfl) (lenOf own_pd13 rfl) rfl (Nat.le_of_eq rfl) 0 0 rfl rfl (by decide) (by decide) 5 (hb hby own_d7_2) rfl ?_
  clear X eT; clear T; intro v T h1 L2 Lc X eT hL hQ2
  obtain ⟨rfl, Nq, K3, G5⟩ := hQ2
  replace N : Fr n0 L2 := by rw [hL]; exact Fr.app N Nq
  clear Nq hL
  have ne_ix_x : ix ≠ x := ne_exa P1_Exa P8_Str.exa (by decide)
  have ne_ss_x : ss ≠ x := Ne.symm (Exa.neArv P8_Str.exa P6_Arv (own_w6 hw))
  have ne_sl_x : sl ≠ x := Ne.symm (Exa.neArv P8_Str.exa P7_Arv (own_w6 hw))
  replace P0_Old := P0_Old.keep K3 (allS ge_x all0)
  replace P1_Exa := P1_Exa.keep K3
  replace P2_Fld := P2_Fld.keep K3 (ninS ne_ix_x nin0)
  replace P3_Fld := P3_Fld.keep K3 (ninS ne_ix_x nin0)
  replace P4_Fld := P4_Fld.keep K3 (ninS ne_ix_x nin0)
  replace P5_Fld := P5_Fld.keep K3 (ninS ne_ix_x nin0)
  replace P6_Arv := P6_Arv.keep K3 (ninS ne_ss_x nin0)
  replace P7_Arv := P7_Arv.keep K3 (ninS ne_sl_x nin0)
  replace P11_Str := P11_Str.keep K3 (ninS nx0 nin0) (ninS nt0 nin0)
  replace K0 := K0.trans K3 (allS (Or.inl (List.mem_of_getElem? (i := 0) rfl)) all0)
  replace sz_h : h0.size ≤ h1.size := Nat.le_trans sz_h K3.1
  show Go p e below _ T (mkF m 5 #[.val (.ref ix), .val (.ref x), .unset, .unset] [(.int rs)])
  refine gistoreN X hx #[.val (.ref ix), .val (.ref x), .val (.int rs), .unset] 6 (hb hby own_d7_5) rfl rfl ?_
  refine galoadN (v := (.ref ix)) X hx 7 (hb hby own_d7_6) rfl rfl rfl ?_
  refine ggetF X hx hZ (host := "") hown (Or.inl (own_w39 hw)) Via.refl eT P3_Fld 10 (hb hby own_d7_7) rfl ?_
  clear X eT; clear T; intro T X eT
  refine giloadN (v := rs) X hx 11 (hb hby own_d7_10) rfl rfl ?_
  refine giaload X hx hZ eT P7_Arv (.int (own_at f rs)) hRs.1 hRs.2 (own_gm f rs) 12 (hb hby own_d7_11) rfl ?_
  refine gifNo X hx 15 (hb hby own_d7_12) rfl ((if0 _ _).trans (feq hat).1) ?_
  refine galoadN (v := (.ref ix)) X hx 16 (hb hby own_d7_15) rfl rfl rfl ?_
  refine ggetF X hx hZ (host := "") hown (Or.inl (own_w39 hw)) Via.refl eT P3_Fld 19 (hb hby own_d7_16) rfl ?_
  clear X eT; clear T; intro T X eT
  refine giloadN (v := rs) X hx 20 (hb hby own_d7_19) rfl rfl ?_
  refine giaload X hx hZ eT P7_Arv (.int (own_at f rs)) hRs.1 hRs.2 (own_gm f rs) 21 (hb hby own_d7_20) rfl ?_
  refine giconst X hx (1 : Int32) 22 (hb hby own_d7_21) rfl rfl ?_
  refine gisub X hx 23 (hb hby own_d7_22) rfl ?_
  exact gRetP X hx hlk hret rfl (Or.inl ⟨rfl, by simp, _, rfl⟩) (hb hby own_d7_23) eT (by decide) (by decide) ⟨rfl, N, K0, G5⟩
set_option maxRecDepth 65536 in
set_option maxHeartbeats 40000000 in
theorem rmNo1 (l : Launch) (Z : State) (a0 : Array Value) (hw : ∀ d ∈ tables_1, d.before a0 Z = true) (x : Addr) (t : Addr) (cs : List Int32) (f : List Int32) (rs : Int32) (nn : Nat) (ix : Addr) (ss : Addr) (sl : Addr) (ks : ClassId) (ki : ClassId) (G1 : Int32) (x0 : Addr) (t0 : Addr) (d0 : List Int32) (h0 : Heap) (n0 : Nat) (Z0 : n0 ≤ h0.size) (ge_x : n0 ≤ x) (P0_Old : Old Z n0 h0) (P1_Exa : Exa Z h0 ix "tabulon/StringIndex") (P2_Fld : Fld Z h0 ix "tabulon/StringIndex" "strings" "[Ljava/lang/String;" (.ref ss)) (P3_Fld : Fld Z h0 ix "tabulon/StringIndex" "slots" "[I" (.ref sl)) (P4_Fld : Fld Z h0 ix "tabulon/StringIndex" "size" "I" (.int (1 : Int32))) (P5_Fld : Fld Z h0 ix "tabulon/StringIndex" "shift" "I" (.int (27 : Int32))) (P6_Arv : Arv Z h0 ss ks (.object "java/lang/String") (16 : Int32) [(.ref x0), .null, .null, .null, .null, .null, .null, .null, .null, .null, .null, .null, .null, .null, .null, .null] .null) (P7_Arv : Arv Z h0 sl ki .int (32 : Int32) (f.map Value.int) (.int 0)) (P8_Str : Str Z h0 x t cs) (P9_Fld : Fld Z h0 x "java/lang/String" "hash" "I" (.int (0 : Int32))) (P10_Fld : Fld Z h0 x "java/lang/String" "hashIsZero" "Z" (.int (0 : Int32))) (P11_Str : Str Z h0 x0 t0 d0) (O2 : Sta Z Z.heap "java/lang/String" "COMPACT_STRINGS" "Z" (.int G1)) (P5 : ¬ G1 = (0 : Int32)) (hI : own_Inv f ([d0] : List (List Int32))) (hpr : own_probe f ([d0] : List (List Int32)) cs nn (own_H cs) = some rs) (hl3 : cs.length ≤ 3) (nx0 : x0 ≠ x) (nt0 : t0 ≠ x) (hRs : own_R rs) :
    CtP l (⟨"tabulon/StringIndex", "numberOf", "(Ljava/lang/String;)I"⟩ : MethodName) prog_9_method_3_code 2 (some .int) [] ({ frames := 5, cells := 0, slots := 0, locals := 74 } : Room) Z #[(.ref ix), (.ref x)] h0 (fun v h L => v = some (.int (own_at f rs - (1 : Int32))) ∧ Fr n0 L ∧ Keep h0 h [x] ∧ Str Z h x t cs) := by
  refine CtP.walk (Ls := #[.val (.ref ix), .val (.ref x)]) (plainFor_of_name own_pn10) (fun m => by first | (simp [entryFrame, mkF, argsToLocals, Value.category]; done) | rfl) ?_
  intro p e s m below meth cc_ T hx hby hml hown hnm hret hlk hZ X eT
  have N := Fr.nil n0
  have K0 := Keep.refl h0 [x]
  have sz_h : h0.size ≤ h0.size := Nat.le_refl _
  refine galoadN (v := (.ref ix)) X hx 1 (hb hby own_d14_0) rfl rfl rfl ?_
  refine ggetF X hx hZ (host := "") hown (Or.inl (own_w39 hw)) Via.refl eT P3_Fld 4 (hb hby own_d14_1) rfl ?_
  clear X eT; clear T; intro T X eT
  refine galoadN (v := (.ref ix)) X hx 5 (hb hby own_d14_4) rfl rfl rfl ?_
  refine galoadN (v := (.ref x)) X hx 6 (hb hby own_d14_5) rfl rfl rfl ?_
  refine gpriv (y := (⟨"tabulon/StringIndex", "slot", "(Ljava/lang/String;)I"⟩ : MethodName)) (a := ix) (argsL := [(.ref x)]) (st := [(.ref sl)]) X hx hZ hown (own_w53 hw) (own_w54 hw) (nfInst (args := #[]) (mvT hZ (own_w28 hw))) (own_w55 hw) (own_w56 hw) (by decide) P1_Exa (payP (W := 1) (rmSl1 l Z a0 hw (x) (t) (cs) _ _ _ (ix) (ss) (sl) (ks) (ki) _ (x0) (t0) (d0) h0 n0 (Nat.le_trans Z0 sz_h) ge_x P0_Old P1_Exa P2_Fld P3_Fld P4_Fld P5_Fld P6_Arv P7_Arv P8_Str P9_Fld P10_Fld P11_Str (O2) (P5) (hI) (hpr) (hl3) (nx0) (nt0)) hZ (own_w56 hw) (own_w29 hw) (by decide) (by decide)) eT (by rw [hml]; rfl) (lenOf own_pd13 rfl) rfl (Nat.le_of_eq rfl) 0 0 rfl rfl (by decide) (by decide) 9 (hb hby own_d14_6) rfl ?_
  clear X eT; clear T; intro v T h1 L2 Lc X eT hL hQ2
  obtain ⟨rfl, Nq, K3, G5⟩ := hQ2
  replace N : Fr n0 L2 := by rw [hL]; exact Fr.app N Nq
  clear Nq hL
  have ne_ix_x : ix ≠ x := ne_exa P1_Exa P8_Str.exa (by decide)
  have ne_ss_x : ss ≠ x := Ne.symm (Exa.neArv P8_Str.exa P6_Arv (own_w6 hw))
  have ne_sl_x : sl ≠ x := Ne.symm (Exa.neArv P8_Str.exa P7_Arv (own_w6 hw))
  replace P0_Old := P0_Old.keep K3 (allS ge_x all0)
  replace P1_Exa := P1_Exa.keep K3
  replace P2_Fld := P2_Fld.keep K3 (ninS ne_ix_x nin0)
  replace P3_Fld := P3_Fld.keep K3 (ninS ne_ix_x nin0)
  replace P4_Fld := P4_Fld.keep K3 (ninS ne_ix_x nin0)
  replace P5_Fld := P5_Fld.keep K3 (ninS ne_ix_x nin0)
  replace P6_Arv := P6_Arv.keep K3 (ninS ne_ss_x nin0)
  replace P7_Arv := P7_Arv.keep K3 (ninS ne_sl_x nin0)
  replace P11_Str := P11_Str.keep K3 (ninS nx0 nin0) (ninS nt0 nin0)
  replace K0 := K0.trans K3 (allS (Or.inl (List.mem_of_getElem? (i := 0) rfl)) all0)
  replace sz_h : h0.size ≤ h1.size := Nat.le_trans sz_h K3.1
  show Go p e below _ T (mkF m 9 #[.val (.ref ix), .val (.ref x)] [(.int rs), (.ref sl)])
  refine giaload X hx hZ eT P7_Arv (.int (own_at f rs)) hRs.1 hRs.2 (own_gm f rs) 10 (hb hby own_d14_9) rfl ?_
  refine giconst X hx (1 : Int32) 11 (hb hby own_d14_10) rfl rfl ?_
  refine gisub X hx 12 (hb hby own_d14_11) rfl ?_
  exact gRetP X hx hlk hret rfl (Or.inl ⟨rfl, by simp, _, rfl⟩) (hb hby own_d14_12) eT (by decide) (by decide) ⟨rfl, N, K0, G5⟩
set_option maxRecDepth 65536 in
set_option maxHeartbeats 40000000 in
theorem rmAd2 (l : Launch) (Z : State) (a0 : Array Value) (hw : ∀ d ∈ tables_1, d.before a0 Z = true) (x : Addr) (t : Addr) (cs : List Int32) (f : List Int32) (rs : Int32) (nn : Nat) (ix : Addr) (ss : Addr) (sl : Addr) (ks : ClassId) (ki : ClassId) (G1 : Int32) (x0 : Addr) (x1 : Addr) (t0 : Addr) (t1 : Addr) (d0 : List Int32) (d1 : List Int32) (h0 : Heap) (n0 : Nat) (Z0 : n0 ≤ h0.size) (ge_x : n0 ≤ x) (ge_ix : n0 ≤ ix) (ge_ss : n0 ≤ ss) (ge_sl : n0 ≤ sl) (P0_Old : Old Z n0 h0) (P1_Exa : Exa Z h0 ix "tabulon/StringIndex") (P2_Fld : Fld Z h0 ix "tabulon/StringIndex" "strings" "[Ljava/lang/String;" (.ref ss)) (P3_Fld : Fld Z h0 ix "tabulon/StringIndex" "slots" "[I" (.ref sl)) (P4_Fld : Fld Z h0 ix "tabulon/StringIndex" "size" "I" (.int (2 : Int32))) (P5_Fld : Fld Z h0 ix "tabulon/StringIndex" "shift" "I" (.int (27 : Int32))) (P6_Arv : Arv Z h0 ss ks (.object "java/lang/String") (16 : Int32) [(.ref x0), (.ref x1), .null, .null, .null, .null, .null, .null, .null, .null, .null, .null, .null, .null, .null, .null] .null) (P7_Arv : Arv Z h0 sl ki .int (32 : Int32) (f.map Value.int) (.int 0)) (P8_Str : Str Z h0 x t cs) (P9_Fld : Fld Z h0 x "java/lang/String" "hash" "I" (.int (0 : Int32))) (P10_Fld : Fld Z h0 x "java/lang/String" "hashIsZero" "Z" (.int (0 : Int32))) (P11_Str : Str Z h0 x0 t0 d0) (P12_Str : Str Z h0 x1 t1 d1) (O2 : Sta Z Z.heap "java/lang/String" "COMPACT_STRINGS" "Z" (.int G1)) (P5 : ¬ G1 = (0 : Int32)) (hI : own_Inv f ([d0, d1] : List (List Int32))) (hpr : own_probe f ([d0, d1] : List (List Int32)) cs nn (own_H cs) = some rs) (hl3 : cs.length ≤ 3) (nx0 : x0 ≠ x) (nx1 : x1 ≠ x) (nt0 : t0 ≠ x) (nt1 : t1 ≠ x) (hRs : own_R rs) (hat : own_at f rs = 0) (hO : Ovr Z ks "java/lang/String") (hss : ss ≠ sl) (ns0 : t0 ≠ sl) (ns1 : t1 ≠ sl) (nsx : t ≠ sl) :
    CtP l (⟨"tabulon/StringIndex", "add", "(Ljava/lang/String;)I"⟩ : MethodName) prog_9_method_2_code 4 (some .int) [] ({ frames := 5, cells := 0, slots := 0, locals := 73 } : Room) Z #[(.ref ix), (.ref x)] h0 (fun v h L => v = some (.int (2 : Int32)) ∧ Fr n0 L ∧ Keep h0 h [x, ix, ss, sl] ∧ Str Z h x t cs ∧ Fld Z h ix "tabulon/StringIndex" "strings" "[Ljava/lang/String;" (.ref ss) ∧ Fld Z h ix "tabulon/StringIndex" "slots" "[I" (.ref sl) ∧ Fld Z h ix "tabulon/StringIndex" "size" "I" (.int (3 : Int32)) ∧ Fld Z h ix "tabulon/StringIndex" "shift" "I" (.int (27 : Int32)) ∧ Arv Z h ss ks (.object "java/lang/String") (16 : Int32) [(.ref x0), (.ref x1), (.ref x), .null, .null, .null, .null, .null, .null, .null, .null, .null, .null, .null, .null, .null] .null ∧ Arv Z h sl ki .int (32 : Int32) ((f.set rs.toNatClampNeg (3 : Int32)).map Value.int) (.int 0)) := by
  refine CtP.walk (Ls := #[.val (.ref ix), .val (.ref x), .unset, .unset]) (plainFor_of_name own_pn10) (fun m => by first | (simp [entryFrame, mkF, argsToLocals, Value.category]; done) | rfl) ?_
  intro p e s m below meth cc_ T hx hby hml hown hnm hret hlk hZ X eT
  have N := Fr.nil n0
  have K0 := Keep.refl h0 [x, ix, ss, sl]
  have sz_h : h0.size ≤ h0.size := Nat.le_refl _
  have nts : t ≠ ss := own_nts P8_Str P6_Arv
  have nts0 : t0 ≠ ss := own_nts P11_Str P6_Arv
  have nts1 : t1 ≠ ss := own_nts P12_Str P6_Arv
  refine galoadN (v := (.ref ix)) X hx 1 (hb hby own_d7_0) rfl rfl rfl ?_
  refine galoadN (v := (.ref x)) X hx 2 (hb hby own_d7_1) rfl rfl rfl ?_
  refine gpriv (y := (⟨"tabulon/StringIndex", "slot", "(Ljava/lang/String;)I"⟩ : MethodName)) (a := ix) (argsL := [(.ref x)]) (st := []) X hx hZ hown (own_w53 hw) (own_w54 hw) (nfInst (args := #[]) (mvT hZ (own_w28 hw))) (own_w55 hw) (own_w56 hw) (by decide) P1_Exa (payP (W := 0) (rmSl2 l Z a0 hw (x) (t) (cs) _ _ _ (ix) (ss) (sl) (ks) (ki) _ (x0) (x1) (t0) (t1) (d0) (d1) h0 n0 (Nat.le_trans Z0 sz_h) ge_x P0_Old P1_Exa P2_Fld P3_Fld P4_Fld P5_Fld P6_Arv P7_Arv P8_Str P9_Fld P10_Fld P11_Str P12_Str (O2) (P5) (hI) (hpr) (hl3) (nx0) (nx1) (nt0) (nt1)) hZ (own_w56 hw) (own_w29 hw) (by decide) (by decide)) eT (by rw [hml]; rfl) (lenOf own_pd13 rfl) rfl (Nat.le_of_eq rfl) 0 0 rfl rfl (by decide) (by decide) 5 (hb hby own_d7_2) rfl ?_
  clear X eT; clear T; intro v T h1 L2 Lc X eT hL hQ2
  obtain ⟨rfl, Nq, K3, G5⟩ := hQ2
  replace N : Fr n0 L2 := by rw [hL]; exact Fr.app N Nq
  clear Nq hL
  have ne_ix_x : ix ≠ x := ne_exa P1_Exa P8_Str.exa (by decide)
  have ne_ss_x : ss ≠ x := Ne.symm (Exa.neArv P8_Str.exa P6_Arv (own_w6 hw))
  have ne_sl_x : sl ≠ x := Ne.symm (Exa.neArv P8_Str.exa P7_Arv (own_w6 hw))
  replace P0_Old := P0_Old.keep K3 (allS ge_x all0)
  replace P1_Exa := P1_Exa.keep K3
  replace P2_Fld := P2_Fld.keep K3 (ninS ne_ix_x nin0)
  replace P3_Fld := P3_Fld.keep K3 (ninS ne_ix_x nin0)
  replace P4_Fld := P4_Fld.keep K3 (ninS ne_ix_x nin0)
  replace P5_Fld := P5_Fld.keep K3 (ninS ne_ix_x nin0)
  replace P6_Arv := P6_Arv.keep K3 (ninS ne_ss_x nin0)
  replace P7_Arv := P7_Arv.keep K3 (ninS ne_sl_x nin0)
  replace P11_Str := P11_Str.keep K3 (ninS nx0 nin0) (ninS nt0 nin0)
  replace P12_Str := P12_Str.keep K3 (ninS nx1 nin0) (ninS nt1 nin0)
  replace K0 := K0.trans K3 (allS (Or.inl (List.mem_of_getElem? (i := 0) rfl)) all0)
  replace sz_h : h0.size ≤ h1.size := Nat.le_trans sz_h K3.1
  show Go p e below _ T (mkF m 5 #[.val (.ref ix), .val (.ref x), .unset, .unset] [(.int rs)])
  refine gistoreN X hx #[.val (.ref ix), .val (.ref x), .val (.int rs), .unset] 6 (hb hby own_d7_5) rfl rfl ?_
  refine galoadN (v := (.ref ix)) X hx 7 (hb hby own_d7_6) rfl rfl rfl ?_
  refine ggetF X hx hZ (host := "") hown (Or.inl (own_w39 hw)) Via.refl eT P3_Fld 10 (hb hby own_d7_7) rfl ?_
  clear X eT; clear T; intro T X eT
  refine giloadN (v := rs) X hx 11 (hb hby own_d7_10) rfl rfl ?_
  refine giaload X hx hZ eT P7_Arv (.int (own_at f rs)) hRs.1 hRs.2 (own_gm f rs) 12 (hb hby own_d7_11) rfl ?_
  rw [hat]
  show Go p e below _ T (mkF m 12 #[.val (.ref ix), .val (.ref x), .val (.int rs), .unset] [(.int (0 : Int32))])
  refine gifYes X hx 24 (hb hby own_d7_12) (by decide) (by decide) (by decide) ?_
  refine galoadN (v := (.ref ix)) X hx 25 (hb hby own_d7_24) rfl rfl rfl ?_
  refine ggetF X hx hZ (host := "") hown (Or.inl (own_w77 hw)) Via.refl eT P4_Fld 28 (hb hby own_d7_25) rfl ?_
  clear X eT; clear T; intro T X eT
  refine galoadN (v := (.ref ix)) X hx 29 (hb hby own_d7_28) rfl rfl rfl ?_
  refine ggetF X hx hZ (host := "") hown (Or.inl (own_w36 hw)) Via.refl eT P2_Fld 32 (hb hby own_d7_29) rfl ?_
  clear X eT; clear T; intro T X eT
  refine garrlen X hx hZ eT P6_Arv 33 (hb hby own_d7_32) rfl ?_
  refine gicmpYes X hx 119 (hb hby own_d7_33) (by decide) (by decide) (by decide) ?_
  refine galoadN (v := (.ref ix)) X hx 120 (hb hby own_d7_119) rfl rfl rfl ?_
  refine ggetF X hx hZ (host := "") hown (Or.inl (own_w36 hw)) Via.refl eT P2_Fld 123 (hb hby own_d7_120) rfl ?_
  clear X eT; clear T; intro T X eT
  refine galoadN (v := (.ref ix)) X hx 124 (hb hby own_d7_123) rfl rfl rfl ?_
  refine ggetF X hx hZ (host := "") hown (Or.inl (own_w77 hw)) Via.refl eT P4_Fld 127 (hb hby own_d7_124) rfl ?_
  clear X eT; clear T; intro T X eT
  refine galoadN (v := (.ref x)) X hx 128 (hb hby own_d7_127) rfl rfl rfl ?_
  have sto_ : Sto Z h1 ss (.ref x) := by obtain ⟨cl_, A1_, q1_, -⟩ := P6_Arv; exact Sto.ofV A1_ q1_ hO (Ins.self G5.exa)
  refine gaastore X hx hZ eT P6_Arv (by decide) (by decide) 2 rfl (Nat.le_of_ble_eq_true rfl) rfl rfl sto_ N ge_ss 129 (hb hby own_d7_128) rfl ?_
  clear X eT N sto_; clear T; intro T h7 L X eT N W6 V8
  have ne_ix_ss : ix ≠ ss := Exa.neArv P1_Exa P6_Arv (own_w28 hw)
  have ne_x0_ss : x0 ≠ ss := Exa.neArv P11_Str.exa P6_Arv (own_w6 hw)
  have ne_x1_ss : x1 ≠ ss := Exa.neArv P12_Str.exa P6_Arv (own_w6 hw)
  have ne_x_ss : x ≠ ss := Exa.neArv G5.exa P6_Arv (own_w6 hw)
  replace P0_Old := P0_Old.wr W6 ge_ss
  replace P1_Exa := P1_Exa.wr W6
  replace P2_Fld := P2_Fld.other W6 (Or.inl ne_ix_ss)
  replace P3_Fld := P3_Fld.other W6 (Or.inl ne_ix_ss)
  replace P4_Fld := P4_Fld.other W6 (Or.inl ne_ix_ss)
  replace P5_Fld := P5_Fld.other W6 (Or.inl ne_ix_ss)
  replace P7_Arv := P7_Arv.other W6 (Ne.symm hss)
  replace P11_Str := P11_Str.wr W6 ne_x0_ss nts0
  replace P12_Str := P12_Str.wr W6 ne_x1_ss nts1
  replace G5 := G5.wr W6 ne_x_ss nts
  replace K0 := K0.wr W6 (Or.inl (List.mem_of_getElem? (i := 2) rfl))
  replace sz_h : h0.size ≤ h7.size := by rw [Wr.size W6]; exact sz_h
  replace V8 : Arv Z h7 ss ks (.object "java/lang/String") (16 : Int32) [(.ref x0), (.ref x1), (.ref x), .null, .null, .null, .null, .null, .null, .null, .null, .null, .null, .null, .null, .null] .null := V8
  refine galoadN (v := (.ref ix)) X hx 130 (hb hby own_d7_129) rfl rfl rfl ?_
  refine ggetF X hx hZ (host := "") hown (Or.inl (own_w39 hw)) Via.refl eT P3_Fld 133 (hb hby own_d7_130) rfl ?_
  clear X eT; clear T; intro T X eT
  refine giloadN (v := rs) X hx 134 (hb hby own_d7_133) rfl rfl ?_
  refine galoadN (v := (.ref ix)) X hx 135 (hb hby own_d7_134) rfl rfl rfl ?_
  refine gdup X hx 136 (hb hby own_d7_135) rfl rfl ?_
  refine ggetF X hx hZ (host := "") hown (Or.inl (own_w77 hw)) Via.refl eT P4_Fld 139 (hb hby own_d7_136) rfl ?_
  clear X eT; clear T; intro T X eT
  refine giconst X hx (1 : Int32) 140 (hb hby own_d7_139) rfl rfl ?_
  refine giadd X hx 141 (hb hby own_d7_140) rfl ?_
  rw [show ((2 : Int32) + (1 : Int32)) = (3 : Int32) from by decide]
  refine gdupX1 X hx 142 (hb hby own_d7_141) rfl rfl rfl ?_
  refine gputF X hx hZ (host := "") hown (Or.inl (own_w77 hw)) Via.refl eT P4_Fld P1_Exa (Or.inl (own_w78 hw)) (own_w28 hw) (ty := .int) own_pf2 rfl rfl N ge_ix 145 (hb hby own_d7_142) rfl ?_
  clear X eT N; clear T; intro T h9 L X eT N W10
  have ne_ss_ix : ss ≠ ix := Ne.symm (Exa.neArv P1_Exa V8 (own_w28 hw))
  have ne_sl_ix : sl ≠ ix := Ne.symm (Exa.neArv P1_Exa P7_Arv (own_w28 hw))
  have ne_x0_ix : x0 ≠ ix := ne_exa P11_Str.exa P1_Exa (by decide)
  have ne_t0_ix : t0 ≠ ix := Str.ne2 P11_Str P1_Exa (own_w28 hw)
  have ne_x1_ix : x1 ≠ ix := ne_exa P12_Str.exa P1_Exa (by decide)
  have ne_t1_ix : t1 ≠ ix := Str.ne2 P12_Str P1_Exa (own_w28 hw)
  have ne_x_ix : x ≠ ix := ne_exa G5.exa P1_Exa (by decide)
  have ne_t_ix : t ≠ ix := Str.ne2 G5 P1_Exa (own_w28 hw)
  replace P0_Old := P0_Old.wr W10 ge_ix
  replace P1_Exa := P1_Exa.wr W10
  replace P2_Fld := P2_Fld.other W10 (Or.inr (slot_ne (Or.inl (own_w37 hw)) (Or.inl (own_w78 hw)) (by decide) own_pf4 own_pf2))
  replace P3_Fld := P3_Fld.other W10 (Or.inr (slot_ne (Or.inl (own_w40 hw)) (Or.inl (own_w78 hw)) (by decide) own_pf5 own_pf2))
  replace P4_Fld := P4_Fld.same W10
  replace P5_Fld := P5_Fld.other W10 (Or.inr (slot_ne (Or.inl (own_w47 hw)) (Or.inl (own_w78 hw)) (by decide) own_pf2 own_pf2))
  replace V8 := V8.other W10 ne_ss_ix
  replace P7_Arv := P7_Arv.other W10 ne_sl_ix
  replace P11_Str := P11_Str.wr W10 ne_x0_ix ne_t0_ix
  replace P12_Str := P12_Str.wr W10 ne_x1_ix ne_t1_ix
  replace G5 := G5.wr W10 ne_x_ix ne_t_ix
  replace K0 := K0.wr W10 (Or.inl (List.mem_of_getElem? (i := 1) rfl))
  replace sz_h : h0.size ≤ h9.size := by rw [Wr.size W10]; exact sz_h
  refine giastore X hx hZ eT P7_Arv hRs.1 hRs.2 rs.toNatClampNeg rfl (by rw [List.length_map, hI.1]; exact (own_R_nat hRs).2) N ge_sl 146 (hb hby own_d7_145) rfl ?_
  clear X eT N; clear T; intro T h12 L X eT N W11 V13
  have ne_ix_sl : ix ≠ sl := Exa.neArv P1_Exa P7_Arv (own_w28 hw)
  have ne_x0_sl : x0 ≠ sl := Exa.neArv P11_Str.exa P7_Arv (own_w6 hw)
  have ne_x1_sl : x1 ≠ sl := Exa.neArv P12_Str.exa P7_Arv (own_w6 hw)
  have ne_x_sl : x ≠ sl := Exa.neArv G5.exa P7_Arv (own_w6 hw)
  replace P0_Old := P0_Old.wr W11 ge_sl
  replace P1_Exa := P1_Exa.wr W11
  replace P2_Fld := P2_Fld.other W11 (Or.inl ne_ix_sl)
  replace P3_Fld := P3_Fld.other W11 (Or.inl ne_ix_sl)
  replace P4_Fld := P4_Fld.other W11 (Or.inl ne_ix_sl)
  replace P5_Fld := P5_Fld.other W11 (Or.inl ne_ix_sl)
  replace V8 := V8.other W11 hss
  replace P11_Str := P11_Str.wr W11 ne_x0_sl ns0
  replace P12_Str := P12_Str.wr W11 ne_x1_sl ns1
  replace G5 := G5.wr W11 ne_x_sl nsx
  replace K0 := K0.wr W11 (Or.inl (List.mem_of_getElem? (i := 3) rfl))
  replace sz_h : h0.size ≤ h12.size := by rw [Wr.size W11]; exact sz_h
  rw [← own_ms] at V13
  refine galoadN (v := (.ref ix)) X hx 147 (hb hby own_d7_146) rfl rfl rfl ?_
  refine ggetF X hx hZ (host := "") hown (Or.inl (own_w77 hw)) Via.refl eT P4_Fld 150 (hb hby own_d7_147) rfl ?_
  clear X eT; clear T; intro T X eT
  refine giconst X hx (1 : Int32) 151 (hb hby own_d7_150) rfl rfl ?_
  refine gisub X hx 152 (hb hby own_d7_151) rfl ?_
  rw [show ((3 : Int32) - (1 : Int32)) = (2 : Int32) from by decide]
  exact gRetP X hx hlk hret rfl (Or.inl ⟨rfl, by simp, _, rfl⟩) (hb hby own_d7_152) eT (by decide) (by decide) ⟨rfl, N, K0, G5, P2_Fld, P3_Fld, P4_Fld, P5_Fld, V8, V13⟩
set_option maxRecDepth 65536 in
set_option maxHeartbeats 40000000 in
theorem rmAf2 (l : Launch) (Z : State) (a0 : Array Value) (hw : ∀ d ∈ tables_1, d.before a0 Z = true) (x : Addr) (t : Addr) (cs : List Int32) (f : List Int32) (rs : Int32) (nn : Nat) (ix : Addr) (ss : Addr) (sl : Addr) (ks : ClassId) (ki : ClassId) (G1 : Int32) (x0 : Addr) (x1 : Addr) (t0 : Addr) (t1 : Addr) (d0 : List Int32) (d1 : List Int32) (h0 : Heap) (n0 : Nat) (Z0 : n0 ≤ h0.size) (ge_x : n0 ≤ x) (P0_Old : Old Z n0 h0) (P1_Exa : Exa Z h0 ix "tabulon/StringIndex") (P2_Fld : Fld Z h0 ix "tabulon/StringIndex" "strings" "[Ljava/lang/String;" (.ref ss)) (P3_Fld : Fld Z h0 ix "tabulon/StringIndex" "slots" "[I" (.ref sl)) (P4_Fld : Fld Z h0 ix "tabulon/StringIndex" "size" "I" (.int (2 : Int32))) (P5_Fld : Fld Z h0 ix "tabulon/StringIndex" "shift" "I" (.int (27 : Int32))) (P6_Arv : Arv Z h0 ss ks (.object "java/lang/String") (16 : Int32) [(.ref x0), (.ref x1), .null, .null, .null, .null, .null, .null, .null, .null, .null, .null, .null, .null, .null, .null] .null) (P7_Arv : Arv Z h0 sl ki .int (32 : Int32) (f.map Value.int) (.int 0)) (P8_Str : Str Z h0 x t cs) (P9_Fld : Fld Z h0 x "java/lang/String" "hash" "I" (.int (0 : Int32))) (P10_Fld : Fld Z h0 x "java/lang/String" "hashIsZero" "Z" (.int (0 : Int32))) (P11_Str : Str Z h0 x0 t0 d0) (P12_Str : Str Z h0 x1 t1 d1) (O2 : Sta Z Z.heap "java/lang/String" "COMPACT_STRINGS" "Z" (.int G1)) (P5 : ¬ G1 = (0 : Int32)) (hI : own_Inv f ([d0, d1] : List (List Int32))) (hpr : own_probe f ([d0, d1] : List (List Int32)) cs nn (own_H cs) = some rs) (hl3 : cs.length ≤ 3) (nx0 : x0 ≠ x) (nx1 : x1 ≠ x) (nt0 : t0 ≠ x) (nt1 : t1 ≠ x) (hRs : own_R rs) (hat : ¬ own_at f rs = 0) :
    CtP l (⟨"tabulon/StringIndex", "add", "(Ljava/lang/String;)I"⟩ : MethodName) prog_9_method_2_code 4 (some .int) [] ({ frames := 5, cells := 0, slots := 0, locals := 73 } : Room) Z #[(.ref ix), (.ref x)] h0 (fun v h L => v = some (.int (own_at f rs - (1 : Int32))) ∧ Fr n0 L ∧ Keep h0 h [x] ∧ Str Z h x t cs) := by
  refine CtP.walk (Ls := #[.val (.ref ix), .val (.ref x), .unset, .unset]) (plainFor_of_name own_pn10) (fun m => by first | (simp [entryFrame, mkF, argsToLocals, Value.category]; done) | rfl) ?_
  intro p e s m below meth cc_ T hx hby hml hown hnm hret hlk hZ X eT
  have N := Fr.nil n0
  have K0 := Keep.refl h0 [x]
  have sz_h : h0.size ≤ h0.size := Nat.le_refl _
  refine galoadN (v := (.ref ix)) X hx 1 (hb hby own_d7_0) rfl rfl rfl ?_
  refine galoadN (v := (.ref x)) X hx 2 (hb hby own_d7_1) rfl rfl rfl ?_
  refine gpriv (y := (⟨"tabulon/StringIndex", "slot", "(Ljava/lang/String;)I"⟩ : MethodName)) (a := ix) (argsL := [(.ref x)]) (st := []) X hx hZ hown (own_w53 hw) (own_w54 hw) (nfInst (args := #[]) (mvT hZ (own_w28 hw))) (own_w55 hw) (own_w56 hw) (by decide) P1_Exa (payP (W := 0) (rmSl2 l Z a0 hw (x) (t) (cs) _ _ _ (ix) (ss) (sl) (ks) (ki) _ (x0) (x1) (t0) (t1) (d0) (d1) h0 n0 (Nat.le_trans Z0 sz_h) ge_x P0_Old P1_Exa P2_Fld P3_Fld P4_Fld P5_Fld P6_Arv P7_Arv P8_Str P9_Fld P10_Fld P11_Str P12_Str (O2) (P5) (hI) (hpr) (hl3) (nx0) (nx1) (nt0) (nt1)) hZ (own_w56 hw) (own_w29 hw) (by decide) (by decide)) eT (by rw [hml]; rfl) (lenOf own_pd13 rfl) rfl (Nat.le_of_eq rfl) 0 0 rfl rfl (by decide) (by decide) 5 (hb hby own_d7_2) rfl ?_
  clear X eT; clear T; intro v T h1 L2 Lc X eT hL hQ2
  obtain ⟨rfl, Nq, K3, G5⟩ := hQ2
  replace N : Fr n0 L2 := by rw [hL]; exact Fr.app N Nq
  clear Nq hL
  have ne_ix_x : ix ≠ x := ne_exa P1_Exa P8_Str.exa (by decide)
  have ne_ss_x : ss ≠ x := Ne.symm (Exa.neArv P8_Str.exa P6_Arv (own_w6 hw))
  have ne_sl_x : sl ≠ x := Ne.symm (Exa.neArv P8_Str.exa P7_Arv (own_w6 hw))
  replace P0_Old := P0_Old.keep K3 (allS ge_x all0)
  replace P1_Exa := P1_Exa.keep K3
  replace P2_Fld := P2_Fld.keep K3 (ninS ne_ix_x nin0)
  replace P3_Fld := P3_Fld.keep K3 (ninS ne_ix_x nin0)
  replace P4_Fld := P4_Fld.keep K3 (ninS ne_ix_x nin0)
  replace P5_Fld := P5_Fld.keep K3 (ninS ne_ix_x nin0)
  replace P6_Arv := P6_Arv.keep K3 (ninS ne_ss_x nin0)
  replace P7_Arv := P7_Arv.keep K3 (ninS ne_sl_x nin0)
  replace P11_Str := P11_Str.keep K3 (ninS nx0 nin0) (ninS nt0 nin0)
  replace P12_Str := P12_Str.keep K3 (ninS nx1 nin0) (ninS nt1 nin0)
  replace K0 := K0.trans K3 (allS (Or.inl (List.mem_of_getElem? (i := 0) rfl)) all0)
  replace sz_h : h0.size ≤ h1.size := Nat.le_trans sz_h K3.1
  show Go p e below _ T (mkF m 5 #[.val (.ref ix), .val (.ref x), .unset, .unset] [(.int rs)])
  refine gistoreN X hx #[.val (.ref ix), .val (.ref x), .val (.int rs), .unset] 6 (hb hby own_d7_5) rfl rfl ?_
  refine galoadN (v := (.ref ix)) X hx 7 (hb hby own_d7_6) rfl rfl rfl ?_
  refine ggetF X hx hZ (host := "") hown (Or.inl (own_w39 hw)) Via.refl eT P3_Fld 10 (hb hby own_d7_7) rfl ?_
  clear X eT; clear T; intro T X eT
  refine giloadN (v := rs) X hx 11 (hb hby own_d7_10) rfl rfl ?_
  refine giaload X hx hZ eT P7_Arv (.int (own_at f rs)) hRs.1 hRs.2 (own_gm f rs) 12 (hb hby own_d7_11) rfl ?_
  refine gifNo X hx 15 (hb hby own_d7_12) rfl ((if0 _ _).trans (feq hat).1) ?_
  refine galoadN (v := (.ref ix)) X hx 16 (hb hby own_d7_15) rfl rfl rfl ?_
  refine ggetF X hx hZ (host := "") hown (Or.inl (own_w39 hw)) Via.refl eT P3_Fld 19 (hb hby own_d7_16) rfl ?_
  clear X eT; clear T; intro T X eT
  refine giloadN (v := rs) X hx 20 (hb hby own_d7_19) rfl rfl ?_
  refine giaload X hx hZ eT P7_Arv (.int (own_at f rs)) hRs.1 hRs.2 (own_gm f rs) 21 (hb hby own_d7_20) rfl ?_
  refine giconst X hx (1 : Int32) 22 (hb hby own_d7_21) rfl rfl ?_
  refine gisub X hx 23 (hb hby own_d7_22) rfl ?_
  exact gRetP X hx hlk hret rfl (Or.inl ⟨rfl, by simp, _, rfl⟩) (hb hby own_d7_23) eT (by decide) (by decide) ⟨rfl, N, K0, G5⟩
set_option maxRecDepth 65536 in
set_option maxHeartbeats 40000000 in
theorem rmNo2 (l : Launch) (Z : State) (a0 : Array Value) (hw : ∀ d ∈ tables_1, d.before a0 Z = true) (x : Addr) (t : Addr) (cs : List Int32) (f : List Int32) (rs : Int32) (nn : Nat) (ix : Addr) (ss : Addr) (sl : Addr) (ks : ClassId) (ki : ClassId) (G1 : Int32) (x0 : Addr) (x1 : Addr) (t0 : Addr) (t1 : Addr) (d0 : List Int32) (d1 : List Int32) (h0 : Heap) (n0 : Nat) (Z0 : n0 ≤ h0.size) (ge_x : n0 ≤ x) (P0_Old : Old Z n0 h0) (P1_Exa : Exa Z h0 ix "tabulon/StringIndex") (P2_Fld : Fld Z h0 ix "tabulon/StringIndex" "strings" "[Ljava/lang/String;" (.ref ss)) (P3_Fld : Fld Z h0 ix "tabulon/StringIndex" "slots" "[I" (.ref sl)) (P4_Fld : Fld Z h0 ix "tabulon/StringIndex" "size" "I" (.int (2 : Int32))) (P5_Fld : Fld Z h0 ix "tabulon/StringIndex" "shift" "I" (.int (27 : Int32))) (P6_Arv : Arv Z h0 ss ks (.object "java/lang/String") (16 : Int32) [(.ref x0), (.ref x1), .null, .null, .null, .null, .null, .null, .null, .null, .null, .null, .null, .null, .null, .null] .null) (P7_Arv : Arv Z h0 sl ki .int (32 : Int32) (f.map Value.int) (.int 0)) (P8_Str : Str Z h0 x t cs) (P9_Fld : Fld Z h0 x "java/lang/String" "hash" "I" (.int (0 : Int32))) (P10_Fld : Fld Z h0 x "java/lang/String" "hashIsZero" "Z" (.int (0 : Int32))) (P11_Str : Str Z h0 x0 t0 d0) (P12_Str : Str Z h0 x1 t1 d1) (O2 : Sta Z Z.heap "java/lang/String" "COMPACT_STRINGS" "Z" (.int G1)) (P5 : ¬ G1 = (0 : Int32)) (hI : own_Inv f ([d0, d1] : List (List Int32))) (hpr : own_probe f ([d0, d1] : List (List Int32)) cs nn (own_H cs) = some rs) (hl3 : cs.length ≤ 3) (nx0 : x0 ≠ x) (nx1 : x1 ≠ x) (nt0 : t0 ≠ x) (nt1 : t1 ≠ x) (hRs : own_R rs) :
    CtP l (⟨"tabulon/StringIndex", "numberOf", "(Ljava/lang/String;)I"⟩ : MethodName) prog_9_method_3_code 2 (some .int) [] ({ frames := 5, cells := 0, slots := 0, locals := 74 } : Room) Z #[(.ref ix), (.ref x)] h0 (fun v h L => v = some (.int (own_at f rs - (1 : Int32))) ∧ Fr n0 L ∧ Keep h0 h [x] ∧ Str Z h x t cs) := by
  refine CtP.walk (Ls := #[.val (.ref ix), .val (.ref x)]) (plainFor_of_name own_pn10) (fun m => by first | (simp [entryFrame, mkF, argsToLocals, Value.category]; done) | rfl) ?_
  intro p e s m below meth cc_ T hx hby hml hown hnm hret hlk hZ X eT
  have N := Fr.nil n0
  have K0 := Keep.refl h0 [x]
  have sz_h : h0.size ≤ h0.size := Nat.le_refl _
  refine galoadN (v := (.ref ix)) X hx 1 (hb hby own_d14_0) rfl rfl rfl ?_
  refine ggetF X hx hZ (host := "") hown (Or.inl (own_w39 hw)) Via.refl eT P3_Fld 4 (hb hby own_d14_1) rfl ?_
  clear X eT; clear T; intro T X eT
  refine galoadN (v := (.ref ix)) X hx 5 (hb hby own_d14_4) rfl rfl rfl ?_
  refine galoadN (v := (.ref x)) X hx 6 (hb hby own_d14_5) rfl rfl rfl ?_
  refine gpriv (y := (⟨"tabulon/StringIndex", "slot", "(Ljava/lang/String;)I"⟩ : MethodName)) (a := ix) (argsL := [(.ref x)]) (st := [(.ref sl)]) X hx hZ hown (own_w53 hw) (own_w54 hw) (nfInst (args := #[]) (mvT hZ (own_w28 hw))) (own_w55 hw) (own_w56 hw) (by decide) P1_Exa (payP (W := 1) (rmSl2 l Z a0 hw (x) (t) (cs) _ _ _ (ix) (ss) (sl) (ks) (ki) _ (x0) (x1) (t0) (t1) (d0) (d1) h0 n0 (Nat.le_trans Z0 sz_h) ge_x P0_Old P1_Exa P2_Fld P3_Fld P4_Fld P5_Fld P6_Arv P7_Arv P8_Str P9_Fld P10_Fld P11_Str P12_Str (O2) (P5) (hI) (hpr) (hl3) (nx0) (nx1) (nt0) (nt1)) hZ (own_w56 hw) (own_w29 hw) (by decide) (by decide)) eT (by rw [hml]; rfl) (lenOf own_pd13 rfl) rfl (Nat.le_of_eq rfl) 0 0 rfl rfl (by decide) (by decide) 9 (hb hby own_d14_6) rfl ?_
  clear X eT; clear T; intro v T h1 L2 Lc X eT hL hQ2
  obtain ⟨rfl, Nq, K3, G5⟩ := hQ2
  replace N : Fr n0 L2 := by rw [hL]; exact Fr.app N Nq
  clear Nq hL
  have ne_ix_x : ix ≠ x := ne_exa P1_Exa P8_Str.exa (by decide)
  have ne_ss_x : ss ≠ x := Ne.symm (Exa.neArv P8_Str.exa P6_Arv (own_w6 hw))
  have ne_sl_x : sl ≠ x := Ne.symm (Exa.neArv P8_Str.exa P7_Arv (own_w6 hw))
  replace P0_Old := P0_Old.keep K3 (allS ge_x all0)
  replace P1_Exa := P1_Exa.keep K3
  replace P2_Fld := P2_Fld.keep K3 (ninS ne_ix_x nin0)
  replace P3_Fld := P3_Fld.keep K3 (ninS ne_ix_x nin0)
  replace P4_Fld := P4_Fld.keep K3 (ninS ne_ix_x nin0)
  replace P5_Fld := P5_Fld.keep K3 (ninS ne_ix_x nin0)
  replace P6_Arv := P6_Arv.keep K3 (ninS ne_ss_x nin0)
  replace P7_Arv := P7_Arv.keep K3 (ninS ne_sl_x nin0)
  replace P11_Str := P11_Str.keep K3 (ninS nx0 nin0) (ninS nt0 nin0)
  replace P12_Str := P12_Str.keep K3 (ninS nx1 nin0) (ninS nt1 nin0)
  replace K0 := K0.trans K3 (allS (Or.inl (List.mem_of_getElem? (i := 0) rfl)) all0)
  replace sz_h : h0.size ≤ h1.size := Nat.le_trans sz_h K3.1
  show Go p e below _ T (mkF m 9 #[.val (.ref ix), .val (.ref x)] [(.int rs), (.ref sl)])
  refine giaload X hx hZ eT P7_Arv (.int (own_at f rs)) hRs.1 hRs.2 (own_gm f rs) 10 (hb hby own_d14_9) rfl ?_
  refine giconst X hx (1 : Int32) 11 (hb hby own_d14_10) rfl rfl ?_
  refine gisub X hx 12 (hb hby own_d14_11) rfl ?_
  exact gRetP X hx hlk hret rfl (Or.inl ⟨rfl, by simp, _, rfl⟩) (hb hby own_d14_12) eT (by decide) (by decide) ⟨rfl, N, K0, G5⟩
set_option maxRecDepth 65536 in
set_option maxHeartbeats 40000000 in
theorem rmNo3 (l : Launch) (Z : State) (a0 : Array Value) (hw : ∀ d ∈ tables_1, d.before a0 Z = true) (x : Addr) (t : Addr) (cs : List Int32) (f : List Int32) (rs : Int32) (nn : Nat) (ix : Addr) (ss : Addr) (sl : Addr) (ks : ClassId) (ki : ClassId) (G1 : Int32) (x0 : Addr) (x1 : Addr) (x2 : Addr) (t0 : Addr) (t1 : Addr) (t2 : Addr) (d0 : List Int32) (d1 : List Int32) (d2 : List Int32) (h0 : Heap) (n0 : Nat) (Z0 : n0 ≤ h0.size) (ge_x : n0 ≤ x) (P0_Old : Old Z n0 h0) (P1_Exa : Exa Z h0 ix "tabulon/StringIndex") (P2_Fld : Fld Z h0 ix "tabulon/StringIndex" "strings" "[Ljava/lang/String;" (.ref ss)) (P3_Fld : Fld Z h0 ix "tabulon/StringIndex" "slots" "[I" (.ref sl)) (P4_Fld : Fld Z h0 ix "tabulon/StringIndex" "size" "I" (.int (3 : Int32))) (P5_Fld : Fld Z h0 ix "tabulon/StringIndex" "shift" "I" (.int (27 : Int32))) (P6_Arv : Arv Z h0 ss ks (.object "java/lang/String") (16 : Int32) [(.ref x0), (.ref x1), (.ref x2), .null, .null, .null, .null, .null, .null, .null, .null, .null, .null, .null, .null, .null] .null) (P7_Arv : Arv Z h0 sl ki .int (32 : Int32) (f.map Value.int) (.int 0)) (P8_Str : Str Z h0 x t cs) (P9_Fld : Fld Z h0 x "java/lang/String" "hash" "I" (.int (0 : Int32))) (P10_Fld : Fld Z h0 x "java/lang/String" "hashIsZero" "Z" (.int (0 : Int32))) (P11_Str : Str Z h0 x0 t0 d0) (P12_Str : Str Z h0 x1 t1 d1) (P13_Str : Str Z h0 x2 t2 d2) (O2 : Sta Z Z.heap "java/lang/String" "COMPACT_STRINGS" "Z" (.int G1)) (P5 : ¬ G1 = (0 : Int32)) (hI : own_Inv f ([d0, d1, d2] : List (List Int32))) (hpr : own_probe f ([d0, d1, d2] : List (List Int32)) cs nn (own_H cs) = some rs) (hl3 : cs.length ≤ 3) (nx0 : x0 ≠ x) (nx1 : x1 ≠ x) (nx2 : x2 ≠ x) (nt0 : t0 ≠ x) (nt1 : t1 ≠ x) (nt2 : t2 ≠ x) (hRs : own_R rs) :
    CtP l (⟨"tabulon/StringIndex", "numberOf", "(Ljava/lang/String;)I"⟩ : MethodName) prog_9_method_3_code 2 (some .int) [] ({ frames := 5, cells := 0, slots := 0, locals := 74 } : Room) Z #[(.ref ix), (.ref x)] h0 (fun v h L => v = some (.int (own_at f rs - (1 : Int32))) ∧ Fr n0 L ∧ Keep h0 h [x] ∧ Str Z h x t cs) := by
  refine CtP.walk (Ls := #[.val (.ref ix), .val (.ref x)]) (plainFor_of_name own_pn10) (fun m => by first | (simp [entryFrame, mkF, argsToLocals, Value.category]; done) | rfl) ?_
  intro p e s m below meth cc_ T hx hby hml hown hnm hret hlk hZ X eT
  have N := Fr.nil n0
  have K0 := Keep.refl h0 [x]
  have sz_h : h0.size ≤ h0.size := Nat.le_refl _
  refine galoadN (v := (.ref ix)) X hx 1 (hb hby own_d14_0) rfl rfl rfl ?_
  refine ggetF X hx hZ (host := "") hown (Or.inl (own_w39 hw)) Via.refl eT P3_Fld 4 (hb hby own_d14_1) rfl ?_
  clear X eT; clear T; intro T X eT
  refine galoadN (v := (.ref ix)) X hx 5 (hb hby own_d14_4) rfl rfl rfl ?_
  refine galoadN (v := (.ref x)) X hx 6 (hb hby own_d14_5) rfl rfl rfl ?_
  refine gpriv (y := (⟨"tabulon/StringIndex", "slot", "(Ljava/lang/String;)I"⟩ : MethodName)) (a := ix) (argsL := [(.ref x)]) (st := [(.ref sl)]) X hx hZ hown (own_w53 hw) (own_w54 hw) (nfInst (args := #[]) (mvT hZ (own_w28 hw))) (own_w55 hw) (own_w56 hw) (by decide) P1_Exa (payP (W := 1) (rmSl3 l Z a0 hw (x) (t) (cs) _ _ _ (ix) (ss) (sl) (ks) (ki) _ (x0) (x1) (x2) (t0) (t1) (t2) (d0) (d1) (d2) h0 n0 (Nat.le_trans Z0 sz_h) ge_x P0_Old P1_Exa P2_Fld P3_Fld P4_Fld P5_Fld P6_Arv P7_Arv P8_Str P9_Fld P10_Fld P11_Str P12_Str P13_Str (O2) (P5) (hI) (hpr) (hl3) (nx0) (nx1) (nx2) (nt0) (nt1) (nt2)) hZ (own_w56 hw) (own_w29 hw) (by decide) (by decide)) eT (by rw [hml]; rfl) (lenOf own_pd13 rfl) rfl (Nat.le_of_eq rfl) 0 0 rfl rfl (by decide) (by decide) 9 (hb hby own_d14_6) rfl ?_
  clear X eT; clear T; intro v T h1 L2 Lc X eT hL hQ2
  obtain ⟨rfl, Nq, K3, G5⟩ := hQ2
  replace N : Fr n0 L2 := by rw [hL]; exact Fr.app N Nq
  clear Nq hL
  have ne_ix_x : ix ≠ x := ne_exa P1_Exa P8_Str.exa (by decide)
  have ne_ss_x : ss ≠ x := Ne.symm (Exa.neArv P8_Str.exa P6_Arv (own_w6 hw))
  have ne_sl_x : sl ≠ x := Ne.symm (Exa.neArv P8_Str.exa P7_Arv (own_w6 hw))
  replace P0_Old := P0_Old.keep K3 (allS ge_x all0)
  replace P1_Exa := P1_Exa.keep K3
  replace P2_Fld := P2_Fld.keep K3 (ninS ne_ix_x nin0)
  replace P3_Fld := P3_Fld.keep K3 (ninS ne_ix_x nin0)
  replace P4_Fld := P4_Fld.keep K3 (ninS ne_ix_x nin0)
  replace P5_Fld := P5_Fld.keep K3 (ninS ne_ix_x nin0)
  replace P6_Arv := P6_Arv.keep K3 (ninS ne_ss_x nin0)
  replace P7_Arv := P7_Arv.keep K3 (ninS ne_sl_x nin0)
  replace P11_Str := P11_Str.keep K3 (ninS nx0 nin0) (ninS nt0 nin0)
  replace P12_Str := P12_Str.keep K3 (ninS nx1 nin0) (ninS nt1 nin0)
  replace P13_Str := P13_Str.keep K3 (ninS nx2 nin0) (ninS nt2 nin0)
  replace K0 := K0.trans K3 (allS (Or.inl (List.mem_of_getElem? (i := 0) rfl)) all0)
  replace sz_h : h0.size ≤ h1.size := Nat.le_trans sz_h K3.1
  show Go p e below _ T (mkF m 9 #[.val (.ref ix), .val (.ref x)] [(.int rs), (.ref sl)])
  refine giaload X hx hZ eT P7_Arv (.int (own_at f rs)) hRs.1 hRs.2 (own_gm f rs) 10 (hb hby own_d14_9) rfl ?_
  refine giconst X hx (1 : Int32) 11 (hb hby own_d14_10) rfl rfl ?_
  refine gisub X hx 12 (hb hby own_d14_11) rfl ?_
  exact gRetP X hx hlk hret rfl (Or.inl ⟨rfl, by simp, _, rfl⟩) (hb hby own_d14_12) eT (by decide) (by decide) ⟨rfl, N, K0, G5⟩
abbrev own_mEq : MethodName := ⟨"java/lang/String", "equals", "(Ljava/lang/Object;)Z"⟩
abbrev own_mNo : MethodName := ⟨"tabulon/StringIndex", "numberOf", "(Ljava/lang/String;)I"⟩
abbrev own_mAd : MethodName := ⟨"tabulon/StringIndex", "add", "(Ljava/lang/String;)I"⟩
abbrev own_r32 : List Int32 := List.replicate 32 0
set_option maxRecDepth 65536 in
set_option maxHeartbeats 40000000 in
theorem partB {p : Program} {e : Env} {s : State} {m : MethodId} {args : Array Value} {below : List Frame} {meth : Method} {cc_ : Code} {T : State} {L2 : List Loc} {vm : Vm} {k0 : Nat} (l : Launch) (Z : State) (a0 : Array Value) (hw : ∀ d ∈ tables_1, d.before a0 Z = true) (p0 : Int32) (p1 : Int32) (p2 : Int32) (p3 : Int32) (p4 : Int32) (p5 : Int32) (kk : Int32) (sel : Int32) (G1 : Int32) (s0 : Addr) (s1 : Addr) (s2 : Addr) (qq : Addr) (u0 : Addr) (u1 : Addr) (u2 : Addr) (uq : Addr) (a0_ : List Int32) (a1_ : List Int32) (a2_ : List Int32) (aq_ : List Int32) (h0 : Heap) (n0 : Nat) (Z0 : n0 ≤ h0.size) (ge_s0 : n0 ≤ s0) (ge_s1 : n0 ≤ s1) (ge_s2 : n0 ≤ s2) (ge_qq : n0 ≤ qq) (P0_Old : Old Z n0 h0) (P1_Str : Str Z h0 s0 u0 a0_) (P2_Str : Str Z h0 s1 u1 a1_) (P3_Str : Str Z h0 s2 u2 a2_) (P4_Str : Str Z h0 qq uq aq_) (P5_Fld : Fld Z h0 s0 "java/lang/String" "hash" "I" (.int (0 : Int32))) (P6_Fld : Fld Z h0 s0 "java/lang/String" "hashIsZero" "Z" (.int (0 : Int32))) (P7_Fld : Fld Z h0 s1 "java/lang/String" "hash" "I" (.int (0 : Int32))) (P8_Fld : Fld Z h0 s1 "java/lang/String" "hashIsZero" "Z" (.int (0 : Int32))) (P9_Fld : Fld Z h0 s2 "java/lang/String" "hash" "I" (.int (0 : Int32))) (P10_Fld : Fld Z h0 s2 "java/lang/String" "hashIsZero" "Z" (.int (0 : Int32))) (P11_Fld : Fld Z h0 qq "java/lang/String" "hash" "I" (.int (0 : Int32))) (P12_Fld : Fld Z h0 qq "java/lang/String" "hashIsZero" "Z" (.int (0 : Int32))) (O2 : Sta Z Z.heap "java/lang/String" "COMPACT_STRINGS" "Z" (.int G1)) (P5 : ¬ G1 = (0 : Int32)) (hk4 : kk = 0 ∨ kk = 1 ∨ kk = 2 ∨ kk = 3) (la0_ : a0_.length ≤ 3) (la1_ : a1_.length ≤ 3) (la2_ : a2_.length ≤ 3) (laq_ : aq_.length ≤ 3) (ne_s1_s0 : s1 ≠ s0) (ne_s2_s0 : s2 ≠ s0) (ne_s2_s1 : s2 ≠ s1) (ne_qq_s0 : qq ≠ s0) (ne_qq_s1 : qq ≠ s1) (ne_qq_s2 : qq ≠ s2) (hx : p.tables.exec = Jvm.exec) (hby : cc_.code = code) (hml : cc_.maxLocals = maxLocals) (hown : vm.findClass x.cls = some m.cls) (hret : meth.sig.returnType = ret) (hlk : meth.locks = false) (hZ : Z.Warmed39 vm) (X : Stand p l e room_1 (s.setVm vm) m args below meth cc_ T L2 24 48) (eT : T.heap = h0) (hS : s.Since vm k0) (hk : k0 ≤ h0.size) (N : Fr n0 L2) :
    Go p e below (PL s (fun v h L => v = some (.int (1 : Int32)) ∧ Fr n0 L) room_1.cells room_1.slots) T (mkF m 83 #[.val (.int p0), .val (.int p1), .val (.int p2), .val (.int p3), .val (.int p4), .val (.int p5), .val (.int kk), .val (.int sel), .val (.ref s0), .val (.ref s1), .val (.ref s2), .val (.ref qq), .unset, .unset, .unset, .unset, .unset] []) := by
  have sz_h : h0.size ≤ h0.size := Nat.le_refl _
  have ne_s0_s1 := Ne.symm ne_s1_s0
  have ne_s0_s2 := Ne.symm ne_s2_s0
  have ne_s1_s2 := Ne.symm ne_s2_s1
  have ne_s0_qq := Ne.symm ne_qq_s0
  have ne_s1_qq := Ne.symm ne_qq_s1
  have ne_s2_qq := Ne.symm ne_qq_s2
  refine gnewO X hx hZ hown (own_w27 hw) (own_w28 hw) (own_w29 hw) eT 25 52 rfl rfl (by decide) (by decide) 86 (hb hby at_83) rfl ?_
  clear X eT; clear T; intro T h1 b2 X eT ga E3 A4 D5
  have le_a := Nat.le_of_eq ga.symm
  have ne_s0_b2 : s0 ≠ b2 := Nat.ne_of_lt (Nat.lt_of_lt_of_le P1_Str.lt le_a)
  have ne_b2_s0 : b2 ≠ s0 := Ne.symm ne_s0_b2
  have ne_s1_b2 : s1 ≠ b2 := Nat.ne_of_lt (Nat.lt_of_lt_of_le P2_Str.lt le_a)
  have ne_b2_s1 : b2 ≠ s1 := Ne.symm ne_s1_b2
  have ne_s2_b2 : s2 ≠ b2 := Nat.ne_of_lt (Nat.lt_of_lt_of_le P3_Str.lt le_a)
  have ne_b2_s2 : b2 ≠ s2 := Ne.symm ne_s2_b2
  have ne_qq_b2 : qq ≠ b2 := Nat.ne_of_lt (Nat.lt_of_lt_of_le P4_Str.lt le_a)
  have ne_b2_qq : b2 ≠ qq := Ne.symm ne_qq_b2
  have ne_u0_b2 : u0 ≠ b2 := Nat.ne_of_lt (Nat.lt_of_lt_of_le P1_Str.lt2 le_a)
  have ne_b2_u0 : b2 ≠ u0 := Ne.symm ne_u0_b2
  have ne_u1_b2 : u1 ≠ b2 := Nat.ne_of_lt (Nat.lt_of_lt_of_le P2_Str.lt2 le_a)
  have ne_b2_u1 : b2 ≠ u1 := Ne.symm ne_u1_b2
  have ne_u2_b2 : u2 ≠ b2 := Nat.ne_of_lt (Nat.lt_of_lt_of_le P3_Str.lt2 le_a)
  have ne_b2_u2 : b2 ≠ u2 := Ne.symm ne_u2_b2
  have ne_uq_b2 : uq ≠ b2 := Nat.ne_of_lt (Nat.lt_of_lt_of_le P4_Str.lt2 le_a)
  have ne_b2_uq : b2 ≠ uq := Ne.symm ne_uq_b2
  have sz_b2 : h0.size ≤ b2 := Nat.le_trans sz_h le_a
  have ge_b2 : n0 ≤ b2 := Nat.le_trans Z0 sz_b2
  clear le_a ga
  replace P0_Old := P0_Old.ext E3
  replace P1_Str := P1_Str.ext E3
  replace P2_Str := P2_Str.ext E3
  replace P3_Str := P3_Str.ext E3
  replace P4_Str := P4_Str.ext E3
  replace P5_Fld := P5_Fld.ext E3
  replace P6_Fld := P6_Fld.ext E3
  replace P7_Fld := P7_Fld.ext E3
  replace P8_Fld := P8_Fld.ext E3
  replace P9_Fld := P9_Fld.ext E3
  replace P10_Fld := P10_Fld.ext E3
  replace P11_Fld := P11_Fld.ext E3
  replace P12_Fld := P12_Fld.ext E3
  replace hk := Nat.le_trans hk E3.1
  replace sz_h : h0.size ≤ h1.size := Nat.le_trans sz_h E3.1
  have F_strings_b2 : Fld Z h1 b2 "tabulon/StringIndex" "strings" "[Ljava/lang/String;" .null := D5 (Or.inl (own_w37 hw)) (ty := (.array (.object "java/lang/String"))) own_pf4
  have F_slots_b2 : Fld Z h1 b2 "tabulon/StringIndex" "slots" "[I" .null := D5 (Or.inl (own_w40 hw)) (ty := (.array .int)) own_pf5
  have F_shift_b2 : Fld Z h1 b2 "tabulon/StringIndex" "shift" "I" (.int (0 : Int32)) := D5 (Or.inl (own_w47 hw)) (ty := .int) own_pf2
  have F_size_b2 : Fld Z h1 b2 "tabulon/StringIndex" "size" "I" (.int (0 : Int32)) := D5 (Or.inl (own_w78 hw)) (ty := .int) own_pf2
  clear D5
  refine gdup X hx 87 (hb hby at_86) rfl rfl ?_
  refine gspecial (y := (⟨"tabulon/StringIndex", "<init>", "()V"⟩ : MethodName)) (a := b2) (argsL := []) (st := [(.ref b2)]) X hx hZ hown rfl (own_w30 hw) (own_w31 hw) (own_w32 hw) (by decide) (payP (W := 1) (rm5 l Z a0 hw (b2) h1 n0 (Nat.le_trans Z0 sz_h) ge_b2 A4 F_strings_b2 F_slots_b2 F_size_b2 F_shift_b2) hZ (own_w32 hw) (own_w29 hw) (by decide) (by decide)) eT (by rw [hml]; rfl) (lenOf own_pd14 rfl) rfl (Nat.le_of_eq rfl) 27 100 rfl rfl (by decide) (by decide) 90 (hb hby at_87) rfl ?_
  clear X eT; clear T; intro v T h6 L2 Lc X eT hL hQ7
  obtain ⟨ss_8, sl_9, ks_10, ki_11, rfl, Nq, K12, zz_ss_8, zz_sl_9, G14, G15, G16, G17, G18, G19, pp20, pp21⟩ := hQ7
  replace N : Fr n0 L2 := by rw [hL]; exact Fr.app N Nq
  clear Nq hL
  have ne_s0_ss_8 : s0 ≠ ss_8 := Nat.ne_of_lt (Nat.lt_of_lt_of_le P1_Str.lt zz_ss_8)
  have ne_ss_8_s0 : ss_8 ≠ s0 := Ne.symm ne_s0_ss_8
  have ne_s1_ss_8 : s1 ≠ ss_8 := Nat.ne_of_lt (Nat.lt_of_lt_of_le P2_Str.lt zz_ss_8)
  have ne_ss_8_s1 : ss_8 ≠ s1 := Ne.symm ne_s1_ss_8
  have ne_s2_ss_8 : s2 ≠ ss_8 := Nat.ne_of_lt (Nat.lt_of_lt_of_le P3_Str.lt zz_ss_8)
  have ne_ss_8_s2 : ss_8 ≠ s2 := Ne.symm ne_s2_ss_8
  have ne_qq_ss_8 : qq ≠ ss_8 := Nat.ne_of_lt (Nat.lt_of_lt_of_le P4_Str.lt zz_ss_8)
  have ne_ss_8_qq : ss_8 ≠ qq := Ne.symm ne_qq_ss_8
  have ne_b2_ss_8 : b2 ≠ ss_8 := Nat.ne_of_lt (Nat.lt_of_lt_of_le A4.lt zz_ss_8)
  have ne_ss_8_b2 : ss_8 ≠ b2 := Ne.symm ne_b2_ss_8
  have ne_u0_ss_8 : u0 ≠ ss_8 := Nat.ne_of_lt (Nat.lt_of_lt_of_le P1_Str.lt2 zz_ss_8)
  have ne_ss_8_u0 : ss_8 ≠ u0 := Ne.symm ne_u0_ss_8
  have ne_u1_ss_8 : u1 ≠ ss_8 := Nat.ne_of_lt (Nat.lt_of_lt_of_le P2_Str.lt2 zz_ss_8)
  have ne_ss_8_u1 : ss_8 ≠ u1 := Ne.symm ne_u1_ss_8
  have ne_u2_ss_8 : u2 ≠ ss_8 := Nat.ne_of_lt (Nat.lt_of_lt_of_le P3_Str.lt2 zz_ss_8)
  have ne_ss_8_u2 : ss_8 ≠ u2 := Ne.symm ne_u2_ss_8
  have ne_uq_ss_8 : uq ≠ ss_8 := Nat.ne_of_lt (Nat.lt_of_lt_of_le P4_Str.lt2 zz_ss_8)
  have ne_ss_8_uq : ss_8 ≠ uq := Ne.symm ne_uq_ss_8
  have sz_ss_8 : h0.size ≤ ss_8 := Nat.le_trans sz_h zz_ss_8
  have ge_ss_8 : n0 ≤ ss_8 := Nat.le_trans Z0 sz_ss_8
  have ne_s0_sl_9 : s0 ≠ sl_9 := Nat.ne_of_lt (Nat.lt_of_lt_of_le P1_Str.lt zz_sl_9)
  have ne_sl_9_s0 : sl_9 ≠ s0 := Ne.symm ne_s0_sl_9
  have ne_s1_sl_9 : s1 ≠ sl_9 := Nat.ne_of_lt (Nat.lt_of_lt_of_le P2_Str.lt zz_sl_9)
  have ne_sl_9_s1 : sl_9 ≠ s1 := Ne.symm ne_s1_sl_9
  have ne_s2_sl_9 : s2 ≠ sl_9 := Nat.ne_of_lt (Nat.lt_of_lt_of_le P3_Str.lt zz_sl_9)
  have ne_sl_9_s2 : sl_9 ≠ s2 := Ne.symm ne_s2_sl_9
  have ne_qq_sl_9 : qq ≠ sl_9 := Nat.ne_of_lt (Nat.lt_of_lt_of_le P4_Str.lt zz_sl_9)
  have ne_sl_9_qq : sl_9 ≠ qq := Ne.symm ne_qq_sl_9
  have ne_b2_sl_9 : b2 ≠ sl_9 := Nat.ne_of_lt (Nat.lt_of_lt_of_le A4.lt zz_sl_9)
  have ne_sl_9_b2 : sl_9 ≠ b2 := Ne.symm ne_b2_sl_9
  have ne_u0_sl_9 : u0 ≠ sl_9 := Nat.ne_of_lt (Nat.lt_of_lt_of_le P1_Str.lt2 zz_sl_9)
  have ne_sl_9_u0 : sl_9 ≠ u0 := Ne.symm ne_u0_sl_9
  have ne_u1_sl_9 : u1 ≠ sl_9 := Nat.ne_of_lt (Nat.lt_of_lt_of_le P2_Str.lt2 zz_sl_9)
  have ne_sl_9_u1 : sl_9 ≠ u1 := Ne.symm ne_u1_sl_9
  have ne_u2_sl_9 : u2 ≠ sl_9 := Nat.ne_of_lt (Nat.lt_of_lt_of_le P3_Str.lt2 zz_sl_9)
  have ne_sl_9_u2 : sl_9 ≠ u2 := Ne.symm ne_u2_sl_9
  have ne_uq_sl_9 : uq ≠ sl_9 := Nat.ne_of_lt (Nat.lt_of_lt_of_le P4_Str.lt2 zz_sl_9)
  have ne_sl_9_uq : sl_9 ≠ uq := Ne.symm ne_uq_sl_9
  have sz_sl_9 : h0.size ≤ sl_9 := Nat.le_trans sz_h zz_sl_9
  have ge_sl_9 : n0 ≤ sl_9 := Nat.le_trans Z0 sz_sl_9
  replace P0_Old := P0_Old.keep K12 (allS ge_b2 all0)
  replace P1_Str := P1_Str.keep K12 (ninS ne_s0_b2 nin0) (ninS ne_u0_b2 nin0)
  replace P2_Str := P2_Str.keep K12 (ninS ne_s1_b2 nin0) (ninS ne_u1_b2 nin0)
  replace P3_Str := P3_Str.keep K12 (ninS ne_s2_b2 nin0) (ninS ne_u2_b2 nin0)
  replace P4_Str := P4_Str.keep K12 (ninS ne_qq_b2 nin0) (ninS ne_uq_b2 nin0)
  replace P5_Fld := P5_Fld.keep K12 (ninS ne_s0_b2 nin0)
  replace P6_Fld := P6_Fld.keep K12 (ninS ne_s0_b2 nin0)
  replace P7_Fld := P7_Fld.keep K12 (ninS ne_s1_b2 nin0)
  replace P8_Fld := P8_Fld.keep K12 (ninS ne_s1_b2 nin0)
  replace P9_Fld := P9_Fld.keep K12 (ninS ne_s2_b2 nin0)
  replace P10_Fld := P10_Fld.keep K12 (ninS ne_s2_b2 nin0)
  replace P11_Fld := P11_Fld.keep K12 (ninS ne_qq_b2 nin0)
  replace P12_Fld := P12_Fld.keep K12 (ninS ne_qq_b2 nin0)
  replace A4 := A4.keep K12
  replace hk := Nat.le_trans hk K12.1
  replace sz_h : h0.size ≤ h6.size := Nat.le_trans sz_h K12.1
  show Go p e below _ T (mkF m 90 #[.val (.int p0), .val (.int p1), .val (.int p2), .val (.int p3), .val (.int p4), .val (.int p5), .val (.int kk), .val (.int sel), .val (.ref s0), .val (.ref s1), .val (.ref s2), .val (.ref qq), .unset, .unset, .unset, .unset, .unset] [(.ref b2)])
  have ne_ss_8_sl_9 := pp21
  have ne_sl_9_ss_8 := Ne.symm ne_ss_8_sl_9
  refine gastore X hx #[.val (.int p0), .val (.int p1), .val (.int p2), .val (.int p3), .val (.int p4), .val (.int p5), .val (.int kk), .val (.int sel), .val (.ref s0), .val (.ref s1), .val (.ref s2), .val (.ref qq), .val (.ref b2), .unset, .unset, .unset, .unset] 92 (hb hby at_90) rfl rfl rfl ?_
  rcases hk4 with rfl | rfl | rfl | rfl
  · show Go p e below _ T (mkF m 92 #[.val (.int p0), .val (.int p1), .val (.int p2), .val (.int p3), .val (.int p4), .val (.int p5), .val (.int (0 : Int32)), .val (.int sel), .val (.ref s0), .val (.ref s1), .val (.ref s2), .val (.ref qq), .val (.ref b2), .unset, .unset, .unset, .unset] [])
    refine giload (v := (0 : Int32)) X hx 94 (hb hby at_92) rfl rfl ?_
    refine giconst X hx (1 : Int32) 95 (hb hby at_94) rfl rfl ?_
    refine gicmpYes X hx 106 (hb hby at_95) (by decide) (by decide) (by decide) ?_
    refine giload (v := (0 : Int32)) X hx 108 (hb hby at_106) rfl rfl ?_
    refine giconst X hx (2 : Int32) 109 (hb hby at_108) rfl rfl ?_
    refine gicmpYes X hx 120 (hb hby at_109) (by decide) (by decide) (by decide) ?_
    refine giload (v := (0 : Int32)) X hx 122 (hb hby at_120) rfl rfl ?_
    refine giconst X hx (3 : Int32) 123 (hb hby at_122) rfl rfl ?_
    refine gicmpYes X hx 134 (hb hby at_123) (by decide) (by decide) (by decide) ?_
    refine gaload (v := (.ref s1)) X hx 136 (hb hby at_134) rfl rfl rfl ?_
    refine gaload (v := (.ref s0)) X hx 138 (hb hby at_136) rfl rfl rfl ?_
    refine gvirtual (y := own_mEq) (z := own_mEq) (a := s1) (argsL := [(.ref s0)]) (st := []) X hx hZ hown (own_w88 hw) (own_w80 hw) (notFace_of_selects (args := #[]) (mvT hZ (own_w82 hw))) (own_w82 hw) (own_w81 hw) (by decide) P2_Str.exa (payEq (W := 0) hZ hw P2_Str P1_Str (O2.ext P0_Old.2) P5 (by decide) (by decide)) eT (by rw [hml]; rfl) (lenOf own_pd12 rfl) rfl (Nat.le_of_eq rfl) 27 100 rfl rfl (by decide) (by decide) 141 (hb hby at_138) rfl ?_
    clear X eT; clear T; intro v T h22 L2 Lc X eT hL hQ23
    obtain ⟨rfl, rfl, hh⟩ := hQ23
    replace hh := hh.symm; subst hh
    replace N : Fr n0 L2 := by rw [hL]; exact Fr.app N (Fr.nil n0)
    clear hL
    show Go p e below _ T (mkF m 141 #[.val (.int p0), .val (.int p1), .val (.int p2), .val (.int p3), .val (.int p4), .val (.int p5), .val (.int (0 : Int32)), .val (.int sel), .val (.ref s0), .val (.ref s1), .val (.ref s2), .val (.ref qq), .val (.ref b2), .unset, .unset, .unset, .unset] [(.int (if a1_ = a0_ then 1 else 0))])
    rcases Decidable.em (a1_ = a0_) with re24 | re24
    · rw [if_pos re24]
      refine gifNo X hx 144 (hb hby at_141) rfl (by decide) ?_
      refine giconst X hx (0 : Int32) 145 (hb hby at_144) rfl rfl ?_
      refine ggoto X hx 149 (hb hby at_145) (by decide) (by decide) ?_
      refine gistore X hx #[.val (.int p0), .val (.int p1), .val (.int p2), .val (.int p3), .val (.int p4), .val (.int p5), .val (.int (0 : Int32)), .val (.int sel), .val (.ref s0), .val (.ref s1), .val (.ref s2), .val (.ref qq), .val (.ref b2), .val (.int (0 : Int32)), .unset, .unset, .unset] 151 (hb hby at_149) rfl rfl ?_
      refine gaload (v := (.ref s1)) X hx 153 (hb hby at_151) rfl rfl rfl ?_
      refine gaload (v := (.ref s0)) X hx 155 (hb hby at_153) rfl rfl rfl ?_
      refine gvirtual (y := own_mEq) (z := own_mEq) (a := s1) (argsL := [(.ref s0)]) (st := []) X hx hZ hown (own_w88 hw) (own_w80 hw) (notFace_of_selects (args := #[]) (mvT hZ (own_w82 hw))) (own_w82 hw) (own_w81 hw) (by decide) P2_Str.exa (payEq (W := 0) hZ hw P2_Str P1_Str (O2.ext P0_Old.2) P5 (by decide) (by decide)) eT (by rw [hml]; rfl) (lenOf own_pd12 rfl) rfl (Nat.le_of_eq rfl) 27 100 rfl rfl (by decide) (by decide) 158 (hb hby at_155) rfl ?_
      clear X eT; clear T; intro v T h25 L2 Lc X eT hL hQ26
      obtain ⟨rfl, rfl, hh⟩ := hQ26
      replace hh := hh.symm; subst hh
      replace N : Fr n0 L2 := by rw [hL]; exact Fr.app N (Fr.nil n0)
      clear hL
      show Go p e below _ T (mkF m 158 #[.val (.int p0), .val (.int p1), .val (.int p2), .val (.int p3), .val (.int p4), .val (.int p5), .val (.int (0 : Int32)), .val (.int sel), .val (.ref s0), .val (.ref s1), .val (.ref s2), .val (.ref qq), .val (.ref b2), .val (.int (0 : Int32)), .unset, .unset, .unset] [(.int (if a1_ = a0_ then 1 else 0))])
      rw [if_pos re24]
      refine gifNo X hx 161 (hb hby at_158) rfl (by decide) ?_
      refine giconst X hx (1 : Int32) 162 (hb hby at_161) rfl rfl ?_
      refine ggoto X hx 166 (hb hby at_162) (by decide) (by decide) ?_
      refine gistore X hx #[.val (.int p0), .val (.int p1), .val (.int p2), .val (.int p3), .val (.int p4), .val (.int p5), .val (.int (0 : Int32)), .val (.int sel), .val (.ref s0), .val (.ref s1), .val (.ref s2), .val (.ref qq), .val (.ref b2), .val (.int (0 : Int32)), .val (.int (1 : Int32)), .unset, .unset] 168 (hb hby at_166) rfl rfl ?_
      refine gaload (v := (.ref s2)) X hx 170 (hb hby at_168) rfl rfl rfl ?_
      refine gaload (v := (.ref s0)) X hx 172 (hb hby at_170) rfl rfl rfl ?_
      refine gvirtual (y := own_mEq) (z := own_mEq) (a := s2) (argsL := [(.ref s0)]) (st := []) X hx hZ hown (own_w88 hw) (own_w80 hw) (notFace_of_selects (args := #[]) (mvT hZ (own_w82 hw))) (own_w82 hw) (own_w81 hw) (by decide) P3_Str.exa (payEq (W := 0) hZ hw P3_Str P1_Str (O2.ext P0_Old.2) P5 (by decide) (by decide)) eT (by rw [hml]; rfl) (lenOf own_pd12 rfl) rfl (Nat.le_of_eq rfl) 27 100 rfl rfl (by decide) (by decide) 175 (hb hby at_172) rfl ?_
      clear X eT; clear T; intro v T h27 L2 Lc X eT hL hQ28
      obtain ⟨rfl, rfl, hh⟩ := hQ28
      replace hh := hh.symm; subst hh
      replace N : Fr n0 L2 := by rw [hL]; exact Fr.app N (Fr.nil n0)
      clear hL
      show Go p e below _ T (mkF m 175 #[.val (.int p0), .val (.int p1), .val (.int p2), .val (.int p3), .val (.int p4), .val (.int p5), .val (.int (0 : Int32)), .val (.int sel), .val (.ref s0), .val (.ref s1), .val (.ref s2), .val (.ref qq), .val (.ref b2), .val (.int (0 : Int32)), .val (.int (1 : Int32)), .unset, .unset] [(.int (if a2_ = a0_ then 1 else 0))])
      rcases Decidable.em (a2_ = a0_) with re29 | re29
      · rw [if_pos re29]
        refine gifNo X hx 178 (hb hby at_175) rfl (by decide) ?_
        refine giconst X hx (0 : Int32) 179 (hb hby at_178) rfl rfl ?_
        refine gistore X hx #[.val (.int p0), .val (.int p1), .val (.int p2), .val (.int p3), .val (.int p4), .val (.int p5), .val (.int (0 : Int32)), .val (.int sel), .val (.ref s0), .val (.ref s1), .val (.ref s2), .val (.ref qq), .val (.ref b2), .val (.int (0 : Int32)), .val (.int (1 : Int32)), .val (.int (0 : Int32)), .unset] 181 (hb hby at_179) rfl rfl ?_
        refine ggoto X hx 205 (hb hby at_181) (by decide) (by decide) ?_
        refine giload (v := (0 : Int32)) X hx 207 (hb hby at_205) rfl rfl ?_
        refine giconst X hx (1 : Int32) 208 (hb hby at_207) rfl rfl ?_
        refine gicmpYes X hx 227 (hb hby at_208) (by decide) (by decide) (by decide) ?_
        refine giload (v := (0 : Int32)) X hx 229 (hb hby at_227) rfl rfl ?_
        refine giconst X hx (2 : Int32) 230 (hb hby at_229) rfl rfl ?_
        refine gicmpYes X hx 250 (hb hby at_230) (by decide) (by decide) (by decide) ?_
        refine giload (v := (0 : Int32)) X hx 252 (hb hby at_250) rfl rfl ?_
        refine giconst X hx (3 : Int32) 253 (hb hby at_252) rfl rfl ?_
        refine gicmpYes X hx 273 (hb hby at_253) (by decide) (by decide) (by decide) ?_
        refine giconst X hx (-1 : Int32) 274 (hb hby at_273) rfl rfl ?_
        refine gistore X hx #[.val (.int p0), .val (.int p1), .val (.int p2), .val (.int p3), .val (.int p4), .val (.int p5), .val (.int (0 : Int32)), .val (.int sel), .val (.ref s0), .val (.ref s1), .val (.ref s2), .val (.ref qq), .val (.ref b2), .val (.int (0 : Int32)), .val (.int (1 : Int32)), .val (.int (0 : Int32)), .val (.int (-1 : Int32))] 276 (hb hby at_274) rfl rfl ?_
        refine gaload (v := (.ref b2)) X hx 278 (hb hby at_276) rfl rfl rfl ?_
        refine gaload (v := (.ref qq)) X hx 280 (hb hby at_278) rfl rfl rfl ?_
        obtain ⟨q30, hp31, hR32, ha33, -⟩ := own_miss (ds := ([] : List (List Int32))) (cs := aq_) own_inv0 (by simp)
        refine gvirtual (y := own_mNo) (z := own_mNo) (a := b2) (argsL := [(.ref qq)]) (st := []) X hx hZ hown (own_w89 hw) (own_w90 hw) (notFace_of_selects (args := #[]) (mvT hZ (own_w92 hw))) (own_w92 hw) (own_w91 hw) (by decide) A4 (payP (W := 0) (rmNo0 l Z a0 hw (qq) (uq) (aq_) (own_r32) (q30) (4) (b2) (ss_8) (sl_9) (ks_10) (ki_11) (G1) h6 n0 (Nat.le_trans Z0 sz_h) ge_qq P0_Old A4 G14 G15 G16 G17 G18 G19 P4_Str P11_Fld P12_Fld (O2) (P5) (own_inv0) (hp31) (laq_) (hR32)) hZ (own_w93 hw) (own_w29 hw) (by decide) (by decide)) eT (by rw [hml]; rfl) (lenOf own_pd13 rfl) rfl (Nat.le_of_eq rfl) 27 100 rfl rfl (by decide) (by decide) 283 (hb hby at_280) rfl ?_
        clear X eT; clear T; intro v T h34 L2 Lc X eT hL hQ35
        obtain ⟨rfl, Nq, K36, G38⟩ := hQ35
        replace N : Fr n0 L2 := by rw [hL]; exact Fr.app N Nq
        clear Nq hL
        have ne_u0_qq : u0 ≠ qq := Str.ne2 P1_Str P4_Str.exa (own_w6 hw)
        have ne_u1_qq : u1 ≠ qq := Str.ne2 P2_Str P4_Str.exa (own_w6 hw)
        have ne_u2_qq : u2 ≠ qq := Str.ne2 P3_Str P4_Str.exa (own_w6 hw)
        replace P0_Old := P0_Old.keep K36 (allS ge_qq all0)
        replace P1_Str := P1_Str.keep K36 (ninS ne_s0_qq nin0) (ninS ne_u0_qq nin0)
        replace P2_Str := P2_Str.keep K36 (ninS ne_s1_qq nin0) (ninS ne_u1_qq nin0)
        replace P3_Str := P3_Str.keep K36 (ninS ne_s2_qq nin0) (ninS ne_u2_qq nin0)
        replace P5_Fld := P5_Fld.keep K36 (ninS ne_s0_qq nin0)
        replace P6_Fld := P6_Fld.keep K36 (ninS ne_s0_qq nin0)
        replace P7_Fld := P7_Fld.keep K36 (ninS ne_s1_qq nin0)
        replace P8_Fld := P8_Fld.keep K36 (ninS ne_s1_qq nin0)
        replace P9_Fld := P9_Fld.keep K36 (ninS ne_s2_qq nin0)
        replace P10_Fld := P10_Fld.keep K36 (ninS ne_s2_qq nin0)
        replace A4 := A4.keep K36
        replace G14 := G14.keep K36 (ninS ne_b2_qq nin0)
        replace G15 := G15.keep K36 (ninS ne_b2_qq nin0)
        replace G16 := G16.keep K36 (ninS ne_b2_qq nin0)
        replace G17 := G17.keep K36 (ninS ne_b2_qq nin0)
        replace G18 := G18.keep K36 (ninS ne_ss_8_qq nin0)
        replace G19 := G19.keep K36 (ninS ne_sl_9_qq nin0)
        replace hk := Nat.le_trans hk K36.1
        replace sz_h : h0.size ≤ h34.size := Nat.le_trans sz_h K36.1
        rw [show own_at own_r32 q30 = (0 : Int32) from ha33]
        rw [show ((0 : Int32) - (1 : Int32)) = (-1 : Int32) from by decide]
        show Go p e below _ T (mkF m 283 #[.val (.int p0), .val (.int p1), .val (.int p2), .val (.int p3), .val (.int p4), .val (.int p5), .val (.int (0 : Int32)), .val (.int sel), .val (.ref s0), .val (.ref s1), .val (.ref s2), .val (.ref qq), .val (.ref b2), .val (.int (0 : Int32)), .val (.int (1 : Int32)), .val (.int (0 : Int32)), .val (.int (-1 : Int32))] [(.int (-1 : Int32))])
        refine giload (v := (-1 : Int32)) X hx 285 (hb hby at_283) rfl rfl ?_
        refine gicmpNo X hx 288 (hb hby at_285) rfl (by decide) ?_
        refine giconst X hx (1 : Int32) 289 (hb hby at_288) rfl rfl ?_
        refine ggoto X hx 293 (hb hby at_289) (by decide) (by decide) ?_
        exact gRetL X hx hlk hret rfl (Or.inl ⟨rfl, by simp, _, rfl⟩) (hb hby at_293) eT hS hk (by decide) (by decide) ⟨rfl, N⟩
      · rw [if_neg re29]
        refine gifYes X hx 184 (hb hby at_175) (by decide) (by decide) (by decide) ?_
        refine gaload (v := (.ref s2)) X hx 186 (hb hby at_184) rfl rfl rfl ?_
        refine gaload (v := (.ref s1)) X hx 188 (hb hby at_186) rfl rfl rfl ?_
        refine gvirtual (y := own_mEq) (z := own_mEq) (a := s2) (argsL := [(.ref s1)]) (st := []) X hx hZ hown (own_w88 hw) (own_w80 hw) (notFace_of_selects (args := #[]) (mvT hZ (own_w82 hw))) (own_w82 hw) (own_w81 hw) (by decide) P3_Str.exa (payEq (W := 0) hZ hw P3_Str P2_Str (O2.ext P0_Old.2) P5 (by decide) (by decide)) eT (by rw [hml]; rfl) (lenOf own_pd12 rfl) rfl (Nat.le_of_eq rfl) 27 100 rfl rfl (by decide) (by decide) 191 (hb hby at_188) rfl ?_
        clear X eT; clear T; intro v T h39 L2 Lc X eT hL hQ40
        obtain ⟨rfl, rfl, hh⟩ := hQ40
        replace hh := hh.symm; subst hh
        replace N : Fr n0 L2 := by rw [hL]; exact Fr.app N (Fr.nil n0)
        clear hL
        show Go p e below _ T (mkF m 191 #[.val (.int p0), .val (.int p1), .val (.int p2), .val (.int p3), .val (.int p4), .val (.int p5), .val (.int (0 : Int32)), .val (.int sel), .val (.ref s0), .val (.ref s1), .val (.ref s2), .val (.ref qq), .val (.ref b2), .val (.int (0 : Int32)), .val (.int (1 : Int32)), .unset, .unset] [(.int (if a2_ = a1_ then 1 else 0))])
        have re41 : ¬ a2_ = a1_ := fun z => re29 (z.trans re24)
        rw [if_neg re41]
        refine gifYes X hx 201 (hb hby at_191) (by decide) (by decide) (by decide) ?_
        refine giload (v := (1 : Int32)) X hx 203 (hb hby at_201) rfl rfl ?_
        refine gistore X hx #[.val (.int p0), .val (.int p1), .val (.int p2), .val (.int p3), .val (.int p4), .val (.int p5), .val (.int (0 : Int32)), .val (.int sel), .val (.ref s0), .val (.ref s1), .val (.ref s2), .val (.ref qq), .val (.ref b2), .val (.int (0 : Int32)), .val (.int (1 : Int32)), .val (.int (1 : Int32)), .unset] 205 (hb hby at_203) rfl rfl ?_
        refine giload (v := (0 : Int32)) X hx 207 (hb hby at_205) rfl rfl ?_
        refine giconst X hx (1 : Int32) 208 (hb hby at_207) rfl rfl ?_
        refine gicmpYes X hx 227 (hb hby at_208) (by decide) (by decide) (by decide) ?_
        refine giload (v := (0 : Int32)) X hx 229 (hb hby at_227) rfl rfl ?_
        refine giconst X hx (2 : Int32) 230 (hb hby at_229) rfl rfl ?_
        refine gicmpYes X hx 250 (hb hby at_230) (by decide) (by decide) (by decide) ?_
        refine giload (v := (0 : Int32)) X hx 252 (hb hby at_250) rfl rfl ?_
        refine giconst X hx (3 : Int32) 253 (hb hby at_252) rfl rfl ?_
        refine gicmpYes X hx 273 (hb hby at_253) (by decide) (by decide) (by decide) ?_
        refine giconst X hx (-1 : Int32) 274 (hb hby at_273) rfl rfl ?_
        refine gistore X hx #[.val (.int p0), .val (.int p1), .val (.int p2), .val (.int p3), .val (.int p4), .val (.int p5), .val (.int (0 : Int32)), .val (.int sel), .val (.ref s0), .val (.ref s1), .val (.ref s2), .val (.ref qq), .val (.ref b2), .val (.int (0 : Int32)), .val (.int (1 : Int32)), .val (.int (1 : Int32)), .val (.int (-1 : Int32))] 276 (hb hby at_274) rfl rfl ?_
        refine gaload (v := (.ref b2)) X hx 278 (hb hby at_276) rfl rfl rfl ?_
        refine gaload (v := (.ref qq)) X hx 280 (hb hby at_278) rfl rfl rfl ?_
        obtain ⟨q42, hp43, hR44, ha45, -⟩ := own_miss (ds := ([] : List (List Int32))) (cs := aq_) own_inv0 (by simp)
        refine gvirtual (y := own_mNo) (z := own_mNo) (a := b2) (argsL := [(.ref qq)]) (st := []) X hx hZ hown (own_w89 hw) (own_w90 hw) (notFace_of_selects (args := #[]) (mvT hZ (own_w92 hw))) (own_w92 hw) (own_w91 hw) (by decide) A4 (payP (W := 0) (rmNo0 l Z a0 hw (qq) (uq) (aq_) (own_r32) (q42) (4) (b2) (ss_8) (sl_9) (ks_10) (ki_11) (G1) h6 n0 (Nat.le_trans Z0 sz_h) ge_qq P0_Old A4 G14 G15 G16 G17 G18 G19 P4_Str P11_Fld P12_Fld (O2) (P5) (own_inv0) (hp43) (laq_) (hR44)) hZ (own_w93 hw) (own_w29 hw) (by decide) (by decide)) eT (by rw [hml]; rfl) (lenOf own_pd13 rfl) rfl (Nat.le_of_eq rfl) 27 100 rfl rfl (by decide) (by decide) 283 (hb hby at_280) rfl ?_
        clear X eT; clear T; intro v T h46 L2 Lc X eT hL hQ47
        obtain ⟨rfl, Nq, K48, G50⟩ := hQ47
        replace N : Fr n0 L2 := by rw [hL]; exact Fr.app N Nq
        clear Nq hL
        have ne_u0_qq : u0 ≠ qq := Str.ne2 P1_Str P4_Str.exa (own_w6 hw)
        have ne_u1_qq : u1 ≠ qq := Str.ne2 P2_Str P4_Str.exa (own_w6 hw)
        have ne_u2_qq : u2 ≠ qq := Str.ne2 P3_Str P4_Str.exa (own_w6 hw)
        replace P0_Old := P0_Old.keep K48 (allS ge_qq all0)
        replace P1_Str := P1_Str.keep K48 (ninS ne_s0_qq nin0) (ninS ne_u0_qq nin0)
        replace P2_Str := P2_Str.keep K48 (ninS ne_s1_qq nin0) (ninS ne_u1_qq nin0)
        replace P3_Str := P3_Str.keep K48 (ninS ne_s2_qq nin0) (ninS ne_u2_qq nin0)
        replace P5_Fld := P5_Fld.keep K48 (ninS ne_s0_qq nin0)
        replace P6_Fld := P6_Fld.keep K48 (ninS ne_s0_qq nin0)
        replace P7_Fld := P7_Fld.keep K48 (ninS ne_s1_qq nin0)
        replace P8_Fld := P8_Fld.keep K48 (ninS ne_s1_qq nin0)
        replace P9_Fld := P9_Fld.keep K48 (ninS ne_s2_qq nin0)
        replace P10_Fld := P10_Fld.keep K48 (ninS ne_s2_qq nin0)
        replace A4 := A4.keep K48
        replace G14 := G14.keep K48 (ninS ne_b2_qq nin0)
        replace G15 := G15.keep K48 (ninS ne_b2_qq nin0)
        replace G16 := G16.keep K48 (ninS ne_b2_qq nin0)
        replace G17 := G17.keep K48 (ninS ne_b2_qq nin0)
        replace G18 := G18.keep K48 (ninS ne_ss_8_qq nin0)
        replace G19 := G19.keep K48 (ninS ne_sl_9_qq nin0)
        replace hk := Nat.le_trans hk K48.1
        replace sz_h : h0.size ≤ h46.size := Nat.le_trans sz_h K48.1
        rw [show own_at own_r32 q42 = (0 : Int32) from ha45]
        rw [show ((0 : Int32) - (1 : Int32)) = (-1 : Int32) from by decide]
        show Go p e below _ T (mkF m 283 #[.val (.int p0), .val (.int p1), .val (.int p2), .val (.int p3), .val (.int p4), .val (.int p5), .val (.int (0 : Int32)), .val (.int sel), .val (.ref s0), .val (.ref s1), .val (.ref s2), .val (.ref qq), .val (.ref b2), .val (.int (0 : Int32)), .val (.int (1 : Int32)), .val (.int (1 : Int32)), .val (.int (-1 : Int32))] [(.int (-1 : Int32))])
        refine giload (v := (-1 : Int32)) X hx 285 (hb hby at_283) rfl rfl ?_
        refine gicmpNo X hx 288 (hb hby at_285) rfl (by decide) ?_
        refine giconst X hx (1 : Int32) 289 (hb hby at_288) rfl rfl ?_
        refine ggoto X hx 293 (hb hby at_289) (by decide) (by decide) ?_
        exact gRetL X hx hlk hret rfl (Or.inl ⟨rfl, by simp, _, rfl⟩) (hb hby at_293) eT hS hk (by decide) (by decide) ⟨rfl, N⟩
    · rw [if_neg re24]
      refine gifYes X hx 148 (hb hby at_141) (by decide) (by decide) (by decide) ?_
      refine giconst X hx (1 : Int32) 149 (hb hby at_148) rfl rfl ?_
      refine gistore X hx #[.val (.int p0), .val (.int p1), .val (.int p2), .val (.int p3), .val (.int p4), .val (.int p5), .val (.int (0 : Int32)), .val (.int sel), .val (.ref s0), .val (.ref s1), .val (.ref s2), .val (.ref qq), .val (.ref b2), .val (.int (1 : Int32)), .unset, .unset, .unset] 151 (hb hby at_149) rfl rfl ?_
      refine gaload (v := (.ref s1)) X hx 153 (hb hby at_151) rfl rfl rfl ?_
      refine gaload (v := (.ref s0)) X hx 155 (hb hby at_153) rfl rfl rfl ?_
      refine gvirtual (y := own_mEq) (z := own_mEq) (a := s1) (argsL := [(.ref s0)]) (st := []) X hx hZ hown (own_w88 hw) (own_w80 hw) (notFace_of_selects (args := #[]) (mvT hZ (own_w82 hw))) (own_w82 hw) (own_w81 hw) (by decide) P2_Str.exa (payEq (W := 0) hZ hw P2_Str P1_Str (O2.ext P0_Old.2) P5 (by decide) (by decide)) eT (by rw [hml]; rfl) (lenOf own_pd12 rfl) rfl (Nat.le_of_eq rfl) 27 100 rfl rfl (by decide) (by decide) 158 (hb hby at_155) rfl ?_
      clear X eT; clear T; intro v T h51 L2 Lc X eT hL hQ52
      obtain ⟨rfl, rfl, hh⟩ := hQ52
      replace hh := hh.symm; subst hh
      replace N : Fr n0 L2 := by rw [hL]; exact Fr.app N (Fr.nil n0)
      clear hL
      show Go p e below _ T (mkF m 158 #[.val (.int p0), .val (.int p1), .val (.int p2), .val (.int p3), .val (.int p4), .val (.int p5), .val (.int (0 : Int32)), .val (.int sel), .val (.ref s0), .val (.ref s1), .val (.ref s2), .val (.ref qq), .val (.ref b2), .val (.int (1 : Int32)), .unset, .unset, .unset] [(.int (if a1_ = a0_ then 1 else 0))])
      rw [if_neg re24]
      refine gifYes X hx 165 (hb hby at_158) (by decide) (by decide) (by decide) ?_
      refine giconst X hx (2 : Int32) 166 (hb hby at_165) rfl rfl ?_
      refine gistore X hx #[.val (.int p0), .val (.int p1), .val (.int p2), .val (.int p3), .val (.int p4), .val (.int p5), .val (.int (0 : Int32)), .val (.int sel), .val (.ref s0), .val (.ref s1), .val (.ref s2), .val (.ref qq), .val (.ref b2), .val (.int (1 : Int32)), .val (.int (2 : Int32)), .unset, .unset] 168 (hb hby at_166) rfl rfl ?_
      refine gaload (v := (.ref s2)) X hx 170 (hb hby at_168) rfl rfl rfl ?_
      refine gaload (v := (.ref s0)) X hx 172 (hb hby at_170) rfl rfl rfl ?_
      refine gvirtual (y := own_mEq) (z := own_mEq) (a := s2) (argsL := [(.ref s0)]) (st := []) X hx hZ hown (own_w88 hw) (own_w80 hw) (notFace_of_selects (args := #[]) (mvT hZ (own_w82 hw))) (own_w82 hw) (own_w81 hw) (by decide) P3_Str.exa (payEq (W := 0) hZ hw P3_Str P1_Str (O2.ext P0_Old.2) P5 (by decide) (by decide)) eT (by rw [hml]; rfl) (lenOf own_pd12 rfl) rfl (Nat.le_of_eq rfl) 27 100 rfl rfl (by decide) (by decide) 175 (hb hby at_172) rfl ?_
      clear X eT; clear T; intro v T h53 L2 Lc X eT hL hQ54
      obtain ⟨rfl, rfl, hh⟩ := hQ54
      replace hh := hh.symm; subst hh
      replace N : Fr n0 L2 := by rw [hL]; exact Fr.app N (Fr.nil n0)
      clear hL
      show Go p e below _ T (mkF m 175 #[.val (.int p0), .val (.int p1), .val (.int p2), .val (.int p3), .val (.int p4), .val (.int p5), .val (.int (0 : Int32)), .val (.int sel), .val (.ref s0), .val (.ref s1), .val (.ref s2), .val (.ref qq), .val (.ref b2), .val (.int (1 : Int32)), .val (.int (2 : Int32)), .unset, .unset] [(.int (if a2_ = a0_ then 1 else 0))])
      rcases Decidable.em (a2_ = a0_) with re55 | re55
      · rw [if_pos re55]
        refine gifNo X hx 178 (hb hby at_175) rfl (by decide) ?_
        refine giconst X hx (0 : Int32) 179 (hb hby at_178) rfl rfl ?_
        refine gistore X hx #[.val (.int p0), .val (.int p1), .val (.int p2), .val (.int p3), .val (.int p4), .val (.int p5), .val (.int (0 : Int32)), .val (.int sel), .val (.ref s0), .val (.ref s1), .val (.ref s2), .val (.ref qq), .val (.ref b2), .val (.int (1 : Int32)), .val (.int (2 : Int32)), .val (.int (0 : Int32)), .unset] 181 (hb hby at_179) rfl rfl ?_
        refine ggoto X hx 205 (hb hby at_181) (by decide) (by decide) ?_
        refine giload (v := (0 : Int32)) X hx 207 (hb hby at_205) rfl rfl ?_
        refine giconst X hx (1 : Int32) 208 (hb hby at_207) rfl rfl ?_
        refine gicmpYes X hx 227 (hb hby at_208) (by decide) (by decide) (by decide) ?_
        refine giload (v := (0 : Int32)) X hx 229 (hb hby at_227) rfl rfl ?_
        refine giconst X hx (2 : Int32) 230 (hb hby at_229) rfl rfl ?_
        refine gicmpYes X hx 250 (hb hby at_230) (by decide) (by decide) (by decide) ?_
        refine giload (v := (0 : Int32)) X hx 252 (hb hby at_250) rfl rfl ?_
        refine giconst X hx (3 : Int32) 253 (hb hby at_252) rfl rfl ?_
        refine gicmpYes X hx 273 (hb hby at_253) (by decide) (by decide) (by decide) ?_
        refine giconst X hx (-1 : Int32) 274 (hb hby at_273) rfl rfl ?_
        refine gistore X hx #[.val (.int p0), .val (.int p1), .val (.int p2), .val (.int p3), .val (.int p4), .val (.int p5), .val (.int (0 : Int32)), .val (.int sel), .val (.ref s0), .val (.ref s1), .val (.ref s2), .val (.ref qq), .val (.ref b2), .val (.int (1 : Int32)), .val (.int (2 : Int32)), .val (.int (0 : Int32)), .val (.int (-1 : Int32))] 276 (hb hby at_274) rfl rfl ?_
        refine gaload (v := (.ref b2)) X hx 278 (hb hby at_276) rfl rfl rfl ?_
        refine gaload (v := (.ref qq)) X hx 280 (hb hby at_278) rfl rfl rfl ?_
        obtain ⟨q56, hp57, hR58, ha59, -⟩ := own_miss (ds := ([] : List (List Int32))) (cs := aq_) own_inv0 (by simp)
        refine gvirtual (y := own_mNo) (z := own_mNo) (a := b2) (argsL := [(.ref qq)]) (st := []) X hx hZ hown (own_w89 hw) (own_w90 hw) (notFace_of_selects (args := #[]) (mvT hZ (own_w92 hw))) (own_w92 hw) (own_w91 hw) (by decide) A4 (payP (W := 0) (rmNo0 l Z a0 hw (qq) (uq) (aq_) (own_r32) (q56) (4) (b2) (ss_8) (sl_9) (ks_10) (ki_11) (G1) h6 n0 (Nat.le_trans Z0 sz_h) ge_qq P0_Old A4 G14 G15 G16 G17 G18 G19 P4_Str P11_Fld P12_Fld (O2) (P5) (own_inv0) (hp57) (laq_) (hR58)) hZ (own_w93 hw) (own_w29 hw) (by decide) (by decide)) eT (by rw [hml]; rfl) (lenOf own_pd13 rfl) rfl (Nat.le_of_eq rfl) 27 100 rfl rfl (by decide) (by decide) 283 (hb hby at_280) rfl ?_
        clear X eT; clear T; intro v T h60 L2 Lc X eT hL hQ61
        obtain ⟨rfl, Nq, K62, G64⟩ := hQ61
        replace N : Fr n0 L2 := by rw [hL]; exact Fr.app N Nq
        clear Nq hL
        have ne_u0_qq : u0 ≠ qq := Str.ne2 P1_Str P4_Str.exa (own_w6 hw)
        have ne_u1_qq : u1 ≠ qq := Str.ne2 P2_Str P4_Str.exa (own_w6 hw)
        have ne_u2_qq : u2 ≠ qq := Str.ne2 P3_Str P4_Str.exa (own_w6 hw)
        replace P0_Old := P0_Old.keep K62 (allS ge_qq all0)
        replace P1_Str := P1_Str.keep K62 (ninS ne_s0_qq nin0) (ninS ne_u0_qq nin0)
        replace P2_Str := P2_Str.keep K62 (ninS ne_s1_qq nin0) (ninS ne_u1_qq nin0)
        replace P3_Str := P3_Str.keep K62 (ninS ne_s2_qq nin0) (ninS ne_u2_qq nin0)
        replace P5_Fld := P5_Fld.keep K62 (ninS ne_s0_qq nin0)
        replace P6_Fld := P6_Fld.keep K62 (ninS ne_s0_qq nin0)
        replace P7_Fld := P7_Fld.keep K62 (ninS ne_s1_qq nin0)
        replace P8_Fld := P8_Fld.keep K62 (ninS ne_s1_qq nin0)
        replace P9_Fld := P9_Fld.keep K62 (ninS ne_s2_qq nin0)
        replace P10_Fld := P10_Fld.keep K62 (ninS ne_s2_qq nin0)
        replace A4 := A4.keep K62
        replace G14 := G14.keep K62 (ninS ne_b2_qq nin0)
        replace G15 := G15.keep K62 (ninS ne_b2_qq nin0)
        replace G16 := G16.keep K62 (ninS ne_b2_qq nin0)
        replace G17 := G17.keep K62 (ninS ne_b2_qq nin0)
        replace G18 := G18.keep K62 (ninS ne_ss_8_qq nin0)
        replace G19 := G19.keep K62 (ninS ne_sl_9_qq nin0)
        replace hk := Nat.le_trans hk K62.1
        replace sz_h : h0.size ≤ h60.size := Nat.le_trans sz_h K62.1
        rw [show own_at own_r32 q56 = (0 : Int32) from ha59]
        rw [show ((0 : Int32) - (1 : Int32)) = (-1 : Int32) from by decide]
        show Go p e below _ T (mkF m 283 #[.val (.int p0), .val (.int p1), .val (.int p2), .val (.int p3), .val (.int p4), .val (.int p5), .val (.int (0 : Int32)), .val (.int sel), .val (.ref s0), .val (.ref s1), .val (.ref s2), .val (.ref qq), .val (.ref b2), .val (.int (1 : Int32)), .val (.int (2 : Int32)), .val (.int (0 : Int32)), .val (.int (-1 : Int32))] [(.int (-1 : Int32))])
        refine giload (v := (-1 : Int32)) X hx 285 (hb hby at_283) rfl rfl ?_
        refine gicmpNo X hx 288 (hb hby at_285) rfl (by decide) ?_
        refine giconst X hx (1 : Int32) 289 (hb hby at_288) rfl rfl ?_
        refine ggoto X hx 293 (hb hby at_289) (by decide) (by decide) ?_
        exact gRetL X hx hlk hret rfl (Or.inl ⟨rfl, by simp, _, rfl⟩) (hb hby at_293) eT hS hk (by decide) (by decide) ⟨rfl, N⟩
      · rw [if_neg re55]
        refine gifYes X hx 184 (hb hby at_175) (by decide) (by decide) (by decide) ?_
        refine gaload (v := (.ref s2)) X hx 186 (hb hby at_184) rfl rfl rfl ?_
        refine gaload (v := (.ref s1)) X hx 188 (hb hby at_186) rfl rfl rfl ?_
        refine gvirtual (y := own_mEq) (z := own_mEq) (a := s2) (argsL := [(.ref s1)]) (st := []) X hx hZ hown (own_w88 hw) (own_w80 hw) (notFace_of_selects (args := #[]) (mvT hZ (own_w82 hw))) (own_w82 hw) (own_w81 hw) (by decide) P3_Str.exa (payEq (W := 0) hZ hw P3_Str P2_Str (O2.ext P0_Old.2) P5 (by decide) (by decide)) eT (by rw [hml]; rfl) (lenOf own_pd12 rfl) rfl (Nat.le_of_eq rfl) 27 100 rfl rfl (by decide) (by decide) 191 (hb hby at_188) rfl ?_
        clear X eT; clear T; intro v T h65 L2 Lc X eT hL hQ66
        obtain ⟨rfl, rfl, hh⟩ := hQ66
        replace hh := hh.symm; subst hh
        replace N : Fr n0 L2 := by rw [hL]; exact Fr.app N (Fr.nil n0)
        clear hL
        show Go p e below _ T (mkF m 191 #[.val (.int p0), .val (.int p1), .val (.int p2), .val (.int p3), .val (.int p4), .val (.int p5), .val (.int (0 : Int32)), .val (.int sel), .val (.ref s0), .val (.ref s1), .val (.ref s2), .val (.ref qq), .val (.ref b2), .val (.int (1 : Int32)), .val (.int (2 : Int32)), .unset, .unset] [(.int (if a2_ = a1_ then 1 else 0))])
        rcases Decidable.em (a2_ = a1_) with re67 | re67
        · rw [if_pos re67]
          refine gifNo X hx 194 (hb hby at_191) rfl (by decide) ?_
          refine giload (v := (1 : Int32)) X hx 196 (hb hby at_194) rfl rfl ?_
          refine gistore X hx #[.val (.int p0), .val (.int p1), .val (.int p2), .val (.int p3), .val (.int p4), .val (.int p5), .val (.int (0 : Int32)), .val (.int sel), .val (.ref s0), .val (.ref s1), .val (.ref s2), .val (.ref qq), .val (.ref b2), .val (.int (1 : Int32)), .val (.int (2 : Int32)), .val (.int (1 : Int32)), .unset] 198 (hb hby at_196) rfl rfl ?_
          refine ggoto X hx 205 (hb hby at_198) (by decide) (by decide) ?_
          refine giload (v := (0 : Int32)) X hx 207 (hb hby at_205) rfl rfl ?_
          refine giconst X hx (1 : Int32) 208 (hb hby at_207) rfl rfl ?_
          refine gicmpYes X hx 227 (hb hby at_208) (by decide) (by decide) (by decide) ?_
          refine giload (v := (0 : Int32)) X hx 229 (hb hby at_227) rfl rfl ?_
          refine giconst X hx (2 : Int32) 230 (hb hby at_229) rfl rfl ?_
          refine gicmpYes X hx 250 (hb hby at_230) (by decide) (by decide) (by decide) ?_
          refine giload (v := (0 : Int32)) X hx 252 (hb hby at_250) rfl rfl ?_
          refine giconst X hx (3 : Int32) 253 (hb hby at_252) rfl rfl ?_
          refine gicmpYes X hx 273 (hb hby at_253) (by decide) (by decide) (by decide) ?_
          refine giconst X hx (-1 : Int32) 274 (hb hby at_273) rfl rfl ?_
          refine gistore X hx #[.val (.int p0), .val (.int p1), .val (.int p2), .val (.int p3), .val (.int p4), .val (.int p5), .val (.int (0 : Int32)), .val (.int sel), .val (.ref s0), .val (.ref s1), .val (.ref s2), .val (.ref qq), .val (.ref b2), .val (.int (1 : Int32)), .val (.int (2 : Int32)), .val (.int (1 : Int32)), .val (.int (-1 : Int32))] 276 (hb hby at_274) rfl rfl ?_
          refine gaload (v := (.ref b2)) X hx 278 (hb hby at_276) rfl rfl rfl ?_
          refine gaload (v := (.ref qq)) X hx 280 (hb hby at_278) rfl rfl rfl ?_
          obtain ⟨q68, hp69, hR70, ha71, -⟩ := own_miss (ds := ([] : List (List Int32))) (cs := aq_) own_inv0 (by simp)
          refine gvirtual (y := own_mNo) (z := own_mNo) (a := b2) (argsL := [(.ref qq)]) (st := []) X hx hZ hown (own_w89 hw) (own_w90 hw) (notFace_of_selects (args := #[]) (mvT hZ (own_w92 hw))) (own_w92 hw) (own_w91 hw) (by decide) A4 (payP (W := 0) (rmNo0 l Z a0 hw (qq) (uq) (aq_) (own_r32) (q68) (4) (b2) (ss_8) (sl_9) (ks_10) (ki_11) (G1) h6 n0 (Nat.le_trans Z0 sz_h) ge_qq P0_Old A4 G14 G15 G16 G17 G18 G19 P4_Str P11_Fld P12_Fld (O2) (P5) (own_inv0) (hp69) (laq_) (hR70)) hZ (own_w93 hw) (own_w29 hw) (by decide) (by decide)) eT (by rw [hml]; rfl) (lenOf own_pd13 rfl) rfl (Nat.le_of_eq rfl) 27 100 rfl rfl (by decide) (by decide) 283 (hb hby at_280) rfl ?_
          clear X eT; clear T; intro v T h72 L2 Lc X eT hL hQ73
          obtain ⟨rfl, Nq, K74, G76⟩ := hQ73
          replace N : Fr n0 L2 := by rw [hL]; exact Fr.app N Nq
          clear Nq hL
          have ne_u0_qq : u0 ≠ qq := Str.ne2 P1_Str P4_Str.exa (own_w6 hw)
          have ne_u1_qq : u1 ≠ qq := Str.ne2 P2_Str P4_Str.exa (own_w6 hw)
          have ne_u2_qq : u2 ≠ qq := Str.ne2 P3_Str P4_Str.exa (own_w6 hw)
          replace P0_Old := P0_Old.keep K74 (allS ge_qq all0)
          replace P1_Str := P1_Str.keep K74 (ninS ne_s0_qq nin0) (ninS ne_u0_qq nin0)
          replace P2_Str := P2_Str.keep K74 (ninS ne_s1_qq nin0) (ninS ne_u1_qq nin0)
          replace P3_Str := P3_Str.keep K74 (ninS ne_s2_qq nin0) (ninS ne_u2_qq nin0)
          replace P5_Fld := P5_Fld.keep K74 (ninS ne_s0_qq nin0)
          replace P6_Fld := P6_Fld.keep K74 (ninS ne_s0_qq nin0)
          replace P7_Fld := P7_Fld.keep K74 (ninS ne_s1_qq nin0)
          replace P8_Fld := P8_Fld.keep K74 (ninS ne_s1_qq nin0)
          replace P9_Fld := P9_Fld.keep K74 (ninS ne_s2_qq nin0)
          replace P10_Fld := P10_Fld.keep K74 (ninS ne_s2_qq nin0)
          replace A4 := A4.keep K74
          replace G14 := G14.keep K74 (ninS ne_b2_qq nin0)
          replace G15 := G15.keep K74 (ninS ne_b2_qq nin0)
          replace G16 := G16.keep K74 (ninS ne_b2_qq nin0)
          replace G17 := G17.keep K74 (ninS ne_b2_qq nin0)
          replace G18 := G18.keep K74 (ninS ne_ss_8_qq nin0)
          replace G19 := G19.keep K74 (ninS ne_sl_9_qq nin0)
          replace hk := Nat.le_trans hk K74.1
          replace sz_h : h0.size ≤ h72.size := Nat.le_trans sz_h K74.1
          rw [show own_at own_r32 q68 = (0 : Int32) from ha71]
          rw [show ((0 : Int32) - (1 : Int32)) = (-1 : Int32) from by decide]
          show Go p e below _ T (mkF m 283 #[.val (.int p0), .val (.int p1), .val (.int p2), .val (.int p3), .val (.int p4), .val (.int p5), .val (.int (0 : Int32)), .val (.int sel), .val (.ref s0), .val (.ref s1), .val (.ref s2), .val (.ref qq), .val (.ref b2), .val (.int (1 : Int32)), .val (.int (2 : Int32)), .val (.int (1 : Int32)), .val (.int (-1 : Int32))] [(.int (-1 : Int32))])
          refine giload (v := (-1 : Int32)) X hx 285 (hb hby at_283) rfl rfl ?_
          refine gicmpNo X hx 288 (hb hby at_285) rfl (by decide) ?_
          refine giconst X hx (1 : Int32) 289 (hb hby at_288) rfl rfl ?_
          refine ggoto X hx 293 (hb hby at_289) (by decide) (by decide) ?_
          exact gRetL X hx hlk hret rfl (Or.inl ⟨rfl, by simp, _, rfl⟩) (hb hby at_293) eT hS hk (by decide) (by decide) ⟨rfl, N⟩
        · rw [if_neg re67]
          refine gifYes X hx 201 (hb hby at_191) (by decide) (by decide) (by decide) ?_
          refine giload (v := (2 : Int32)) X hx 203 (hb hby at_201) rfl rfl ?_
          refine gistore X hx #[.val (.int p0), .val (.int p1), .val (.int p2), .val (.int p3), .val (.int p4), .val (.int p5), .val (.int (0 : Int32)), .val (.int sel), .val (.ref s0), .val (.ref s1), .val (.ref s2), .val (.ref qq), .val (.ref b2), .val (.int (1 : Int32)), .val (.int (2 : Int32)), .val (.int (2 : Int32)), .unset] 205 (hb hby at_203) rfl rfl ?_
          refine giload (v := (0 : Int32)) X hx 207 (hb hby at_205) rfl rfl ?_
          refine giconst X hx (1 : Int32) 208 (hb hby at_207) rfl rfl ?_
          refine gicmpYes X hx 227 (hb hby at_208) (by decide) (by decide) (by decide) ?_
          refine giload (v := (0 : Int32)) X hx 229 (hb hby at_227) rfl rfl ?_
          refine giconst X hx (2 : Int32) 230 (hb hby at_229) rfl rfl ?_
          refine gicmpYes X hx 250 (hb hby at_230) (by decide) (by decide) (by decide) ?_
          refine giload (v := (0 : Int32)) X hx 252 (hb hby at_250) rfl rfl ?_
          refine giconst X hx (3 : Int32) 253 (hb hby at_252) rfl rfl ?_
          refine gicmpYes X hx 273 (hb hby at_253) (by decide) (by decide) (by decide) ?_
          refine giconst X hx (-1 : Int32) 274 (hb hby at_273) rfl rfl ?_
          refine gistore X hx #[.val (.int p0), .val (.int p1), .val (.int p2), .val (.int p3), .val (.int p4), .val (.int p5), .val (.int (0 : Int32)), .val (.int sel), .val (.ref s0), .val (.ref s1), .val (.ref s2), .val (.ref qq), .val (.ref b2), .val (.int (1 : Int32)), .val (.int (2 : Int32)), .val (.int (2 : Int32)), .val (.int (-1 : Int32))] 276 (hb hby at_274) rfl rfl ?_
          refine gaload (v := (.ref b2)) X hx 278 (hb hby at_276) rfl rfl rfl ?_
          refine gaload (v := (.ref qq)) X hx 280 (hb hby at_278) rfl rfl rfl ?_
          obtain ⟨q77, hp78, hR79, ha80, -⟩ := own_miss (ds := ([] : List (List Int32))) (cs := aq_) own_inv0 (by simp)
          refine gvirtual (y := own_mNo) (z := own_mNo) (a := b2) (argsL := [(.ref qq)]) (st := []) X hx hZ hown (own_w89 hw) (own_w90 hw) (notFace_of_selects (args := #[]) (mvT hZ (own_w92 hw))) (own_w92 hw) (own_w91 hw) (by decide) A4 (payP (W := 0) (rmNo0 l Z a0 hw (qq) (uq) (aq_) (own_r32) (q77) (4) (b2) (ss_8) (sl_9) (ks_10) (ki_11) (G1) h6 n0 (Nat.le_trans Z0 sz_h) ge_qq P0_Old A4 G14 G15 G16 G17 G18 G19 P4_Str P11_Fld P12_Fld (O2) (P5) (own_inv0) (hp78) (laq_) (hR79)) hZ (own_w93 hw) (own_w29 hw) (by decide) (by decide)) eT (by rw [hml]; rfl) (lenOf own_pd13 rfl) rfl (Nat.le_of_eq rfl) 27 100 rfl rfl (by decide) (by decide) 283 (hb hby at_280) rfl ?_
          clear X eT; clear T; intro v T h81 L2 Lc X eT hL hQ82
          obtain ⟨rfl, Nq, K83, G85⟩ := hQ82
          replace N : Fr n0 L2 := by rw [hL]; exact Fr.app N Nq
          clear Nq hL
          have ne_u0_qq : u0 ≠ qq := Str.ne2 P1_Str P4_Str.exa (own_w6 hw)
          have ne_u1_qq : u1 ≠ qq := Str.ne2 P2_Str P4_Str.exa (own_w6 hw)
          have ne_u2_qq : u2 ≠ qq := Str.ne2 P3_Str P4_Str.exa (own_w6 hw)
          replace P0_Old := P0_Old.keep K83 (allS ge_qq all0)
          replace P1_Str := P1_Str.keep K83 (ninS ne_s0_qq nin0) (ninS ne_u0_qq nin0)
          replace P2_Str := P2_Str.keep K83 (ninS ne_s1_qq nin0) (ninS ne_u1_qq nin0)
          replace P3_Str := P3_Str.keep K83 (ninS ne_s2_qq nin0) (ninS ne_u2_qq nin0)
          replace P5_Fld := P5_Fld.keep K83 (ninS ne_s0_qq nin0)
          replace P6_Fld := P6_Fld.keep K83 (ninS ne_s0_qq nin0)
          replace P7_Fld := P7_Fld.keep K83 (ninS ne_s1_qq nin0)
          replace P8_Fld := P8_Fld.keep K83 (ninS ne_s1_qq nin0)
          replace P9_Fld := P9_Fld.keep K83 (ninS ne_s2_qq nin0)
          replace P10_Fld := P10_Fld.keep K83 (ninS ne_s2_qq nin0)
          replace A4 := A4.keep K83
          replace G14 := G14.keep K83 (ninS ne_b2_qq nin0)
          replace G15 := G15.keep K83 (ninS ne_b2_qq nin0)
          replace G16 := G16.keep K83 (ninS ne_b2_qq nin0)
          replace G17 := G17.keep K83 (ninS ne_b2_qq nin0)
          replace G18 := G18.keep K83 (ninS ne_ss_8_qq nin0)
          replace G19 := G19.keep K83 (ninS ne_sl_9_qq nin0)
          replace hk := Nat.le_trans hk K83.1
          replace sz_h : h0.size ≤ h81.size := Nat.le_trans sz_h K83.1
          rw [show own_at own_r32 q77 = (0 : Int32) from ha80]
          rw [show ((0 : Int32) - (1 : Int32)) = (-1 : Int32) from by decide]
          show Go p e below _ T (mkF m 283 #[.val (.int p0), .val (.int p1), .val (.int p2), .val (.int p3), .val (.int p4), .val (.int p5), .val (.int (0 : Int32)), .val (.int sel), .val (.ref s0), .val (.ref s1), .val (.ref s2), .val (.ref qq), .val (.ref b2), .val (.int (1 : Int32)), .val (.int (2 : Int32)), .val (.int (2 : Int32)), .val (.int (-1 : Int32))] [(.int (-1 : Int32))])
          refine giload (v := (-1 : Int32)) X hx 285 (hb hby at_283) rfl rfl ?_
          refine gicmpNo X hx 288 (hb hby at_285) rfl (by decide) ?_
          refine giconst X hx (1 : Int32) 289 (hb hby at_288) rfl rfl ?_
          refine ggoto X hx 293 (hb hby at_289) (by decide) (by decide) ?_
          exact gRetL X hx hlk hret rfl (Or.inl ⟨rfl, by simp, _, rfl⟩) (hb hby at_293) eT hS hk (by decide) (by decide) ⟨rfl, N⟩
  · show Go p e below _ T (mkF m 92 #[.val (.int p0), .val (.int p1), .val (.int p2), .val (.int p3), .val (.int p4), .val (.int p5), .val (.int (1 : Int32)), .val (.int sel), .val (.ref s0), .val (.ref s1), .val (.ref s2), .val (.ref qq), .val (.ref b2), .unset, .unset, .unset, .unset] [])
    refine giload (v := (1 : Int32)) X hx 94 (hb hby at_92) rfl rfl ?_
    refine giconst X hx (1 : Int32) 95 (hb hby at_94) rfl rfl ?_
    refine gicmpNo X hx 98 (hb hby at_95) rfl (by decide) ?_
    refine gaload (v := (.ref b2)) X hx 100 (hb hby at_98) rfl rfl rfl ?_
    refine gaload (v := (.ref s0)) X hx 102 (hb hby at_100) rfl rfl rfl ?_
    obtain ⟨q86, hp87, hR88, ha89, hI90⟩ := own_miss (ds := ([] : List (List Int32))) (cs := a0_) own_inv0 (by simp)
    refine gvirtual (y := own_mAd) (z := own_mAd) (a := b2) (argsL := [(.ref s0)]) (st := []) X hx hZ hown (own_w48 hw) (own_w49 hw) (notFace_of_selects (args := #[]) (mvT hZ (own_w51 hw))) (own_w51 hw) (own_w50 hw) (by decide) A4 (payP (W := 0) (rmAd0 l Z a0 hw (s0) (u0) (a0_) (own_r32) (q86) (4) (b2) (ss_8) (sl_9) (ks_10) (ki_11) (G1) h6 n0 (Nat.le_trans Z0 sz_h) ge_s0 ge_b2 ge_ss_8 ge_sl_9 P0_Old A4 G14 G15 G16 G17 G18 G19 P1_Str P5_Fld P6_Fld (O2) (P5) (own_inv0) (hp87) (la0_) (hR88) (ha89) (pp20) (ne_ss_8_sl_9) (ne_u0_sl_9)) hZ (own_w52 hw) (own_w29 hw) (by decide) (by decide)) eT (by rw [hml]; rfl) (lenOf own_pd13 rfl) rfl (Nat.le_of_eq rfl) 27 100 rfl rfl (by decide) (by decide) 105 (hb hby at_102) rfl ?_
    clear X eT; clear T; intro v T h91 L2 Lc X eT hL hQ92
    obtain ⟨rfl, Nq, K93, G95, G96, G97, G98, G99, G100, G101⟩ := hQ92
    replace N : Fr n0 L2 := by rw [hL]; exact Fr.app N Nq
    clear Nq hL
    have ne_u1_s0 : u1 ≠ s0 := Str.ne2 P2_Str P1_Str.exa (own_w6 hw)
    have ne_u2_s0 : u2 ≠ s0 := Str.ne2 P3_Str P1_Str.exa (own_w6 hw)
    have ne_uq_s0 : uq ≠ s0 := Str.ne2 P4_Str P1_Str.exa (own_w6 hw)
    replace P0_Old := P0_Old.keep K93 (allS ge_s0 (allS ge_b2 (allS ge_ss_8 (allS ge_sl_9 all0))))
    replace P2_Str := P2_Str.keep K93 (ninS ne_s1_s0 (ninS ne_s1_b2 (ninS ne_s1_ss_8 (ninS ne_s1_sl_9 nin0)))) (ninS ne_u1_s0 (ninS ne_u1_b2 (ninS ne_u1_ss_8 (ninS ne_u1_sl_9 nin0))))
    replace P3_Str := P3_Str.keep K93 (ninS ne_s2_s0 (ninS ne_s2_b2 (ninS ne_s2_ss_8 (ninS ne_s2_sl_9 nin0)))) (ninS ne_u2_s0 (ninS ne_u2_b2 (ninS ne_u2_ss_8 (ninS ne_u2_sl_9 nin0))))
    replace P4_Str := P4_Str.keep K93 (ninS ne_qq_s0 (ninS ne_qq_b2 (ninS ne_qq_ss_8 (ninS ne_qq_sl_9 nin0)))) (ninS ne_uq_s0 (ninS ne_uq_b2 (ninS ne_uq_ss_8 (ninS ne_uq_sl_9 nin0))))
    replace P7_Fld := P7_Fld.keep K93 (ninS ne_s1_s0 (ninS ne_s1_b2 (ninS ne_s1_ss_8 (ninS ne_s1_sl_9 nin0))))
    replace P8_Fld := P8_Fld.keep K93 (ninS ne_s1_s0 (ninS ne_s1_b2 (ninS ne_s1_ss_8 (ninS ne_s1_sl_9 nin0))))
    replace P9_Fld := P9_Fld.keep K93 (ninS ne_s2_s0 (ninS ne_s2_b2 (ninS ne_s2_ss_8 (ninS ne_s2_sl_9 nin0))))
    replace P10_Fld := P10_Fld.keep K93 (ninS ne_s2_s0 (ninS ne_s2_b2 (ninS ne_s2_ss_8 (ninS ne_s2_sl_9 nin0))))
    replace P11_Fld := P11_Fld.keep K93 (ninS ne_qq_s0 (ninS ne_qq_b2 (ninS ne_qq_ss_8 (ninS ne_qq_sl_9 nin0))))
    replace P12_Fld := P12_Fld.keep K93 (ninS ne_qq_s0 (ninS ne_qq_b2 (ninS ne_qq_ss_8 (ninS ne_qq_sl_9 nin0))))
    replace A4 := A4.keep K93
    replace hk := Nat.le_trans hk K93.1
    replace sz_h : h0.size ≤ h91.size := Nat.le_trans sz_h K93.1
    show Go p e below _ T (mkF m 105 #[.val (.int p0), .val (.int p1), .val (.int p2), .val (.int p3), .val (.int p4), .val (.int p5), .val (.int (1 : Int32)), .val (.int sel), .val (.ref s0), .val (.ref s1), .val (.ref s2), .val (.ref qq), .val (.ref b2), .unset, .unset, .unset, .unset] [(.int (0 : Int32))])
    have I102 : own_Inv (own_r32.set q86.toNatClampNeg (1 : Int32)) ([a0_] : List (List Int32)) := hI90 (by simp)
    refine gpop X hx 106 (hb hby at_105) rfl rfl ?_
    refine giload (v := (1 : Int32)) X hx 108 (hb hby at_106) rfl rfl ?_
    refine giconst X hx (2 : Int32) 109 (hb hby at_108) rfl rfl ?_
    refine gicmpYes X hx 120 (hb hby at_109) (by decide) (by decide) (by decide) ?_
    refine giload (v := (1 : Int32)) X hx 122 (hb hby at_120) rfl rfl ?_
    refine giconst X hx (3 : Int32) 123 (hb hby at_122) rfl rfl ?_
    refine gicmpYes X hx 134 (hb hby at_123) (by decide) (by decide) (by decide) ?_
    refine gaload (v := (.ref s1)) X hx 136 (hb hby at_134) rfl rfl rfl ?_
    refine gaload (v := (.ref s0)) X hx 138 (hb hby at_136) rfl rfl rfl ?_
    refine gvirtual (y := own_mEq) (z := own_mEq) (a := s1) (argsL := [(.ref s0)]) (st := []) X hx hZ hown (own_w88 hw) (own_w80 hw) (notFace_of_selects (args := #[]) (mvT hZ (own_w82 hw))) (own_w82 hw) (own_w81 hw) (by decide) P2_Str.exa (payEq (W := 0) hZ hw P2_Str G95 (O2.ext P0_Old.2) P5 (by decide) (by decide)) eT (by rw [hml]; rfl) (lenOf own_pd12 rfl) rfl (Nat.le_of_eq rfl) 27 100 rfl rfl (by decide) (by decide) 141 (hb hby at_138) rfl ?_
    clear X eT; clear T; intro v T h103 L2 Lc X eT hL hQ104
    obtain ⟨rfl, rfl, hh⟩ := hQ104
    replace hh := hh.symm; subst hh
    replace N : Fr n0 L2 := by rw [hL]; exact Fr.app N (Fr.nil n0)
    clear hL
    show Go p e below _ T (mkF m 141 #[.val (.int p0), .val (.int p1), .val (.int p2), .val (.int p3), .val (.int p4), .val (.int p5), .val (.int (1 : Int32)), .val (.int sel), .val (.ref s0), .val (.ref s1), .val (.ref s2), .val (.ref qq), .val (.ref b2), .unset, .unset, .unset, .unset] [(.int (if a1_ = a0_ then 1 else 0))])
    rcases Decidable.em (a1_ = a0_) with re105 | re105
    · rw [if_pos re105]
      refine gifNo X hx 144 (hb hby at_141) rfl (by decide) ?_
      refine giconst X hx (0 : Int32) 145 (hb hby at_144) rfl rfl ?_
      refine ggoto X hx 149 (hb hby at_145) (by decide) (by decide) ?_
      refine gistore X hx #[.val (.int p0), .val (.int p1), .val (.int p2), .val (.int p3), .val (.int p4), .val (.int p5), .val (.int (1 : Int32)), .val (.int sel), .val (.ref s0), .val (.ref s1), .val (.ref s2), .val (.ref qq), .val (.ref b2), .val (.int (0 : Int32)), .unset, .unset, .unset] 151 (hb hby at_149) rfl rfl ?_
      refine gaload (v := (.ref s1)) X hx 153 (hb hby at_151) rfl rfl rfl ?_
      refine gaload (v := (.ref s0)) X hx 155 (hb hby at_153) rfl rfl rfl ?_
      refine gvirtual (y := own_mEq) (z := own_mEq) (a := s1) (argsL := [(.ref s0)]) (st := []) X hx hZ hown (own_w88 hw) (own_w80 hw) (notFace_of_selects (args := #[]) (mvT hZ (own_w82 hw))) (own_w82 hw) (own_w81 hw) (by decide) P2_Str.exa (payEq (W := 0) hZ hw P2_Str G95 (O2.ext P0_Old.2) P5 (by decide) (by decide)) eT (by rw [hml]; rfl) (lenOf own_pd12 rfl) rfl (Nat.le_of_eq rfl) 27 100 rfl rfl (by decide) (by decide) 158 (hb hby at_155) rfl ?_
      clear X eT; clear T; intro v T h106 L2 Lc X eT hL hQ107
      obtain ⟨rfl, rfl, hh⟩ := hQ107
      replace hh := hh.symm; subst hh
      replace N : Fr n0 L2 := by rw [hL]; exact Fr.app N (Fr.nil n0)
      clear hL
      show Go p e below _ T (mkF m 158 #[.val (.int p0), .val (.int p1), .val (.int p2), .val (.int p3), .val (.int p4), .val (.int p5), .val (.int (1 : Int32)), .val (.int sel), .val (.ref s0), .val (.ref s1), .val (.ref s2), .val (.ref qq), .val (.ref b2), .val (.int (0 : Int32)), .unset, .unset, .unset] [(.int (if a1_ = a0_ then 1 else 0))])
      rw [if_pos re105]
      refine gifNo X hx 161 (hb hby at_158) rfl (by decide) ?_
      refine giconst X hx (1 : Int32) 162 (hb hby at_161) rfl rfl ?_
      refine ggoto X hx 166 (hb hby at_162) (by decide) (by decide) ?_
      refine gistore X hx #[.val (.int p0), .val (.int p1), .val (.int p2), .val (.int p3), .val (.int p4), .val (.int p5), .val (.int (1 : Int32)), .val (.int sel), .val (.ref s0), .val (.ref s1), .val (.ref s2), .val (.ref qq), .val (.ref b2), .val (.int (0 : Int32)), .val (.int (1 : Int32)), .unset, .unset] 168 (hb hby at_166) rfl rfl ?_
      refine gaload (v := (.ref s2)) X hx 170 (hb hby at_168) rfl rfl rfl ?_
      refine gaload (v := (.ref s0)) X hx 172 (hb hby at_170) rfl rfl rfl ?_
      refine gvirtual (y := own_mEq) (z := own_mEq) (a := s2) (argsL := [(.ref s0)]) (st := []) X hx hZ hown (own_w88 hw) (own_w80 hw) (notFace_of_selects (args := #[]) (mvT hZ (own_w82 hw))) (own_w82 hw) (own_w81 hw) (by decide) P3_Str.exa (payEq (W := 0) hZ hw P3_Str G95 (O2.ext P0_Old.2) P5 (by decide) (by decide)) eT (by rw [hml]; rfl) (lenOf own_pd12 rfl) rfl (Nat.le_of_eq rfl) 27 100 rfl rfl (by decide) (by decide) 175 (hb hby at_172) rfl ?_
      clear X eT; clear T; intro v T h108 L2 Lc X eT hL hQ109
      obtain ⟨rfl, rfl, hh⟩ := hQ109
      replace hh := hh.symm; subst hh
      replace N : Fr n0 L2 := by rw [hL]; exact Fr.app N (Fr.nil n0)
      clear hL
      show Go p e below _ T (mkF m 175 #[.val (.int p0), .val (.int p1), .val (.int p2), .val (.int p3), .val (.int p4), .val (.int p5), .val (.int (1 : Int32)), .val (.int sel), .val (.ref s0), .val (.ref s1), .val (.ref s2), .val (.ref qq), .val (.ref b2), .val (.int (0 : Int32)), .val (.int (1 : Int32)), .unset, .unset] [(.int (if a2_ = a0_ then 1 else 0))])
      rcases Decidable.em (a2_ = a0_) with re110 | re110
      · rw [if_pos re110]
        refine gifNo X hx 178 (hb hby at_175) rfl (by decide) ?_
        refine giconst X hx (0 : Int32) 179 (hb hby at_178) rfl rfl ?_
        refine gistore X hx #[.val (.int p0), .val (.int p1), .val (.int p2), .val (.int p3), .val (.int p4), .val (.int p5), .val (.int (1 : Int32)), .val (.int sel), .val (.ref s0), .val (.ref s1), .val (.ref s2), .val (.ref qq), .val (.ref b2), .val (.int (0 : Int32)), .val (.int (1 : Int32)), .val (.int (0 : Int32)), .unset] 181 (hb hby at_179) rfl rfl ?_
        refine ggoto X hx 205 (hb hby at_181) (by decide) (by decide) ?_
        refine giload (v := (1 : Int32)) X hx 207 (hb hby at_205) rfl rfl ?_
        refine giconst X hx (1 : Int32) 208 (hb hby at_207) rfl rfl ?_
        refine gicmpNo X hx 211 (hb hby at_208) rfl (by decide) ?_
        refine gaload (v := (.ref qq)) X hx 213 (hb hby at_211) rfl rfl rfl ?_
        refine gaload (v := (.ref s0)) X hx 215 (hb hby at_213) rfl rfl rfl ?_
        refine gvirtual (y := own_mEq) (z := own_mEq) (a := qq) (argsL := [(.ref s0)]) (st := []) X hx hZ hown (own_w88 hw) (own_w80 hw) (notFace_of_selects (args := #[]) (mvT hZ (own_w82 hw))) (own_w82 hw) (own_w81 hw) (by decide) P4_Str.exa (payEq (W := 0) hZ hw P4_Str G95 (O2.ext P0_Old.2) P5 (by decide) (by decide)) eT (by rw [hml]; rfl) (lenOf own_pd12 rfl) rfl (Nat.le_of_eq rfl) 27 100 rfl rfl (by decide) (by decide) 218 (hb hby at_215) rfl ?_
        clear X eT; clear T; intro v T h111 L2 Lc X eT hL hQ112
        obtain ⟨rfl, rfl, hh⟩ := hQ112
        replace hh := hh.symm; subst hh
        replace N : Fr n0 L2 := by rw [hL]; exact Fr.app N (Fr.nil n0)
        clear hL
        show Go p e below _ T (mkF m 218 #[.val (.int p0), .val (.int p1), .val (.int p2), .val (.int p3), .val (.int p4), .val (.int p5), .val (.int (1 : Int32)), .val (.int sel), .val (.ref s0), .val (.ref s1), .val (.ref s2), .val (.ref qq), .val (.ref b2), .val (.int (0 : Int32)), .val (.int (1 : Int32)), .val (.int (0 : Int32)), .unset] [(.int (if aq_ = a0_ then 1 else 0))])
        rcases Decidable.em (aq_ = a0_) with re113 | re113
        · rw [if_pos re113]
          refine gifNo X hx 221 (hb hby at_218) rfl (by decide) ?_
          refine giconst X hx (0 : Int32) 222 (hb hby at_221) rfl rfl ?_
          refine gistore X hx #[.val (.int p0), .val (.int p1), .val (.int p2), .val (.int p3), .val (.int p4), .val (.int p5), .val (.int (1 : Int32)), .val (.int sel), .val (.ref s0), .val (.ref s1), .val (.ref s2), .val (.ref qq), .val (.ref b2), .val (.int (0 : Int32)), .val (.int (1 : Int32)), .val (.int (0 : Int32)), .val (.int (0 : Int32))] 224 (hb hby at_222) rfl rfl ?_
          refine ggoto X hx 276 (hb hby at_224) (by decide) (by decide) ?_
          refine gaload (v := (.ref b2)) X hx 278 (hb hby at_276) rfl rfl rfl ?_
          refine gaload (v := (.ref qq)) X hx 280 (hb hby at_278) rfl rfl rfl ?_
          obtain ⟨q114, hp115, hR116, ha117⟩ := own_found (i := 0) (ds := ([a0_] : List (List Int32))) I102 (by simp)
          have ne_u0_qq : u0 ≠ qq := Str.ne2 G95 P4_Str.exa (own_w6 hw)
          refine gvirtual (y := own_mNo) (z := own_mNo) (a := b2) (argsL := [(.ref qq)]) (st := []) X hx hZ hown (own_w89 hw) (own_w90 hw) (notFace_of_selects (args := #[]) (mvT hZ (own_w92 hw))) (own_w92 hw) (own_w91 hw) (by decide) A4 (payP (W := 0) (rmNo1 l Z a0 hw (qq) (uq) (aq_) ((own_r32.set q86.toNatClampNeg (1 : Int32))) (q114) (4) (b2) (ss_8) (sl_9) (ks_10) (ki_11) (G1) (s0) (u0) (a0_) h91 n0 (Nat.le_trans Z0 sz_h) ge_qq P0_Old A4 G96 G97 G98 G99 G100 G101 P4_Str P11_Fld P12_Fld G95 (O2) (P5) (I102) (by rw [re113]; exact hp115) (laq_) (ne_s0_qq) (ne_u0_qq) (hR116)) hZ (own_w93 hw) (own_w29 hw) (by decide) (by decide)) eT (by rw [hml]; rfl) (lenOf own_pd13 rfl) rfl (Nat.le_of_eq rfl) 27 100 rfl rfl (by decide) (by decide) 283 (hb hby at_280) rfl ?_
          clear X eT; clear T; intro v T h118 L2 Lc X eT hL hQ119
          obtain ⟨rfl, Nq, K120, G122⟩ := hQ119
          replace N : Fr n0 L2 := by rw [hL]; exact Fr.app N Nq
          clear Nq hL
          have ne_u1_qq : u1 ≠ qq := Str.ne2 P2_Str P4_Str.exa (own_w6 hw)
          have ne_u2_qq : u2 ≠ qq := Str.ne2 P3_Str P4_Str.exa (own_w6 hw)
          replace P0_Old := P0_Old.keep K120 (allS ge_qq all0)
          replace P2_Str := P2_Str.keep K120 (ninS ne_s1_qq nin0) (ninS ne_u1_qq nin0)
          replace P3_Str := P3_Str.keep K120 (ninS ne_s2_qq nin0) (ninS ne_u2_qq nin0)
          replace P7_Fld := P7_Fld.keep K120 (ninS ne_s1_qq nin0)
          replace P8_Fld := P8_Fld.keep K120 (ninS ne_s1_qq nin0)
          replace P9_Fld := P9_Fld.keep K120 (ninS ne_s2_qq nin0)
          replace P10_Fld := P10_Fld.keep K120 (ninS ne_s2_qq nin0)
          replace A4 := A4.keep K120
          replace G95 := G95.keep K120 (ninS ne_s0_qq nin0) (ninS ne_u0_qq nin0)
          replace G96 := G96.keep K120 (ninS ne_b2_qq nin0)
          replace G97 := G97.keep K120 (ninS ne_b2_qq nin0)
          replace G98 := G98.keep K120 (ninS ne_b2_qq nin0)
          replace G99 := G99.keep K120 (ninS ne_b2_qq nin0)
          replace G100 := G100.keep K120 (ninS ne_ss_8_qq nin0)
          replace G101 := G101.keep K120 (ninS ne_sl_9_qq nin0)
          replace hk := Nat.le_trans hk K120.1
          replace sz_h : h0.size ≤ h118.size := Nat.le_trans sz_h K120.1
          rw [show own_at (own_r32.set q86.toNatClampNeg (1 : Int32)) q114 = (1 : Int32) from ha117]
          rw [show ((1 : Int32) - (1 : Int32)) = (0 : Int32) from by decide]
          show Go p e below _ T (mkF m 283 #[.val (.int p0), .val (.int p1), .val (.int p2), .val (.int p3), .val (.int p4), .val (.int p5), .val (.int (1 : Int32)), .val (.int sel), .val (.ref s0), .val (.ref s1), .val (.ref s2), .val (.ref qq), .val (.ref b2), .val (.int (0 : Int32)), .val (.int (1 : Int32)), .val (.int (0 : Int32)), .val (.int (0 : Int32))] [(.int (0 : Int32))])
          refine giload (v := (0 : Int32)) X hx 285 (hb hby at_283) rfl rfl ?_
          refine gicmpNo X hx 288 (hb hby at_285) rfl (by decide) ?_
          refine giconst X hx (1 : Int32) 289 (hb hby at_288) rfl rfl ?_
          refine ggoto X hx 293 (hb hby at_289) (by decide) (by decide) ?_
          exact gRetL X hx hlk hret rfl (Or.inl ⟨rfl, by simp, _, rfl⟩) (hb hby at_293) eT hS hk (by decide) (by decide) ⟨rfl, N⟩
        · rw [if_neg re113]
          refine gifYes X hx 227 (hb hby at_218) (by decide) (by decide) (by decide) ?_
          refine giload (v := (1 : Int32)) X hx 229 (hb hby at_227) rfl rfl ?_
          refine giconst X hx (2 : Int32) 230 (hb hby at_229) rfl rfl ?_
          refine gicmpYes X hx 250 (hb hby at_230) (by decide) (by decide) (by decide) ?_
          refine giload (v := (1 : Int32)) X hx 252 (hb hby at_250) rfl rfl ?_
          refine giconst X hx (3 : Int32) 253 (hb hby at_252) rfl rfl ?_
          refine gicmpYes X hx 273 (hb hby at_253) (by decide) (by decide) (by decide) ?_
          refine giconst X hx (-1 : Int32) 274 (hb hby at_273) rfl rfl ?_
          refine gistore X hx #[.val (.int p0), .val (.int p1), .val (.int p2), .val (.int p3), .val (.int p4), .val (.int p5), .val (.int (1 : Int32)), .val (.int sel), .val (.ref s0), .val (.ref s1), .val (.ref s2), .val (.ref qq), .val (.ref b2), .val (.int (0 : Int32)), .val (.int (1 : Int32)), .val (.int (0 : Int32)), .val (.int (-1 : Int32))] 276 (hb hby at_274) rfl rfl ?_
          refine gaload (v := (.ref b2)) X hx 278 (hb hby at_276) rfl rfl rfl ?_
          refine gaload (v := (.ref qq)) X hx 280 (hb hby at_278) rfl rfl rfl ?_
          obtain ⟨q123, hp124, hR125, ha126, -⟩ := own_miss (ds := ([a0_] : List (List Int32))) (cs := aq_) I102 (by simp [re113])
          have ne_u0_qq : u0 ≠ qq := Str.ne2 G95 P4_Str.exa (own_w6 hw)
          refine gvirtual (y := own_mNo) (z := own_mNo) (a := b2) (argsL := [(.ref qq)]) (st := []) X hx hZ hown (own_w89 hw) (own_w90 hw) (notFace_of_selects (args := #[]) (mvT hZ (own_w92 hw))) (own_w92 hw) (own_w91 hw) (by decide) A4 (payP (W := 0) (rmNo1 l Z a0 hw (qq) (uq) (aq_) ((own_r32.set q86.toNatClampNeg (1 : Int32))) (q123) (4) (b2) (ss_8) (sl_9) (ks_10) (ki_11) (G1) (s0) (u0) (a0_) h91 n0 (Nat.le_trans Z0 sz_h) ge_qq P0_Old A4 G96 G97 G98 G99 G100 G101 P4_Str P11_Fld P12_Fld G95 (O2) (P5) (I102) (hp124) (laq_) (ne_s0_qq) (ne_u0_qq) (hR125)) hZ (own_w93 hw) (own_w29 hw) (by decide) (by decide)) eT (by rw [hml]; rfl) (lenOf own_pd13 rfl) rfl (Nat.le_of_eq rfl) 27 100 rfl rfl (by decide) (by decide) 283 (hb hby at_280) rfl ?_
          clear X eT; clear T; intro v T h127 L2 Lc X eT hL hQ128
          obtain ⟨rfl, Nq, K129, G131⟩ := hQ128
          replace N : Fr n0 L2 := by rw [hL]; exact Fr.app N Nq
          clear Nq hL
          have ne_u1_qq : u1 ≠ qq := Str.ne2 P2_Str P4_Str.exa (own_w6 hw)
          have ne_u2_qq : u2 ≠ qq := Str.ne2 P3_Str P4_Str.exa (own_w6 hw)
          replace P0_Old := P0_Old.keep K129 (allS ge_qq all0)
          replace P2_Str := P2_Str.keep K129 (ninS ne_s1_qq nin0) (ninS ne_u1_qq nin0)
          replace P3_Str := P3_Str.keep K129 (ninS ne_s2_qq nin0) (ninS ne_u2_qq nin0)
          replace P7_Fld := P7_Fld.keep K129 (ninS ne_s1_qq nin0)
          replace P8_Fld := P8_Fld.keep K129 (ninS ne_s1_qq nin0)
          replace P9_Fld := P9_Fld.keep K129 (ninS ne_s2_qq nin0)
          replace P10_Fld := P10_Fld.keep K129 (ninS ne_s2_qq nin0)
          replace A4 := A4.keep K129
          replace G95 := G95.keep K129 (ninS ne_s0_qq nin0) (ninS ne_u0_qq nin0)
          replace G96 := G96.keep K129 (ninS ne_b2_qq nin0)
          replace G97 := G97.keep K129 (ninS ne_b2_qq nin0)
          replace G98 := G98.keep K129 (ninS ne_b2_qq nin0)
          replace G99 := G99.keep K129 (ninS ne_b2_qq nin0)
          replace G100 := G100.keep K129 (ninS ne_ss_8_qq nin0)
          replace G101 := G101.keep K129 (ninS ne_sl_9_qq nin0)
          replace hk := Nat.le_trans hk K129.1
          replace sz_h : h0.size ≤ h127.size := Nat.le_trans sz_h K129.1
          rw [show own_at (own_r32.set q86.toNatClampNeg (1 : Int32)) q123 = (0 : Int32) from ha126]
          rw [show ((0 : Int32) - (1 : Int32)) = (-1 : Int32) from by decide]
          show Go p e below _ T (mkF m 283 #[.val (.int p0), .val (.int p1), .val (.int p2), .val (.int p3), .val (.int p4), .val (.int p5), .val (.int (1 : Int32)), .val (.int sel), .val (.ref s0), .val (.ref s1), .val (.ref s2), .val (.ref qq), .val (.ref b2), .val (.int (0 : Int32)), .val (.int (1 : Int32)), .val (.int (0 : Int32)), .val (.int (-1 : Int32))] [(.int (-1 : Int32))])
          refine giload (v := (-1 : Int32)) X hx 285 (hb hby at_283) rfl rfl ?_
          refine gicmpNo X hx 288 (hb hby at_285) rfl (by decide) ?_
          refine giconst X hx (1 : Int32) 289 (hb hby at_288) rfl rfl ?_
          refine ggoto X hx 293 (hb hby at_289) (by decide) (by decide) ?_
          exact gRetL X hx hlk hret rfl (Or.inl ⟨rfl, by simp, _, rfl⟩) (hb hby at_293) eT hS hk (by decide) (by decide) ⟨rfl, N⟩
      · rw [if_neg re110]
        refine gifYes X hx 184 (hb hby at_175) (by decide) (by decide) (by decide) ?_
        refine gaload (v := (.ref s2)) X hx 186 (hb hby at_184) rfl rfl rfl ?_
        refine gaload (v := (.ref s1)) X hx 188 (hb hby at_186) rfl rfl rfl ?_
        refine gvirtual (y := own_mEq) (z := own_mEq) (a := s2) (argsL := [(.ref s1)]) (st := []) X hx hZ hown (own_w88 hw) (own_w80 hw) (notFace_of_selects (args := #[]) (mvT hZ (own_w82 hw))) (own_w82 hw) (own_w81 hw) (by decide) P3_Str.exa (payEq (W := 0) hZ hw P3_Str P2_Str (O2.ext P0_Old.2) P5 (by decide) (by decide)) eT (by rw [hml]; rfl) (lenOf own_pd12 rfl) rfl (Nat.le_of_eq rfl) 27 100 rfl rfl (by decide) (by decide) 191 (hb hby at_188) rfl ?_
        clear X eT; clear T; intro v T h132 L2 Lc X eT hL hQ133
        obtain ⟨rfl, rfl, hh⟩ := hQ133
        replace hh := hh.symm; subst hh
        replace N : Fr n0 L2 := by rw [hL]; exact Fr.app N (Fr.nil n0)
        clear hL
        show Go p e below _ T (mkF m 191 #[.val (.int p0), .val (.int p1), .val (.int p2), .val (.int p3), .val (.int p4), .val (.int p5), .val (.int (1 : Int32)), .val (.int sel), .val (.ref s0), .val (.ref s1), .val (.ref s2), .val (.ref qq), .val (.ref b2), .val (.int (0 : Int32)), .val (.int (1 : Int32)), .unset, .unset] [(.int (if a2_ = a1_ then 1 else 0))])
        have re134 : ¬ a2_ = a1_ := fun z => re110 (z.trans re105)
        rw [if_neg re134]
        refine gifYes X hx 201 (hb hby at_191) (by decide) (by decide) (by decide) ?_
        refine giload (v := (1 : Int32)) X hx 203 (hb hby at_201) rfl rfl ?_
        refine gistore X hx #[.val (.int p0), .val (.int p1), .val (.int p2), .val (.int p3), .val (.int p4), .val (.int p5), .val (.int (1 : Int32)), .val (.int sel), .val (.ref s0), .val (.ref s1), .val (.ref s2), .val (.ref qq), .val (.ref b2), .val (.int (0 : Int32)), .val (.int (1 : Int32)), .val (.int (1 : Int32)), .unset] 205 (hb hby at_203) rfl rfl ?_
        refine giload (v := (1 : Int32)) X hx 207 (hb hby at_205) rfl rfl ?_
        refine giconst X hx (1 : Int32) 208 (hb hby at_207) rfl rfl ?_
        refine gicmpNo X hx 211 (hb hby at_208) rfl (by decide) ?_
        refine gaload (v := (.ref qq)) X hx 213 (hb hby at_211) rfl rfl rfl ?_
        refine gaload (v := (.ref s0)) X hx 215 (hb hby at_213) rfl rfl rfl ?_
        refine gvirtual (y := own_mEq) (z := own_mEq) (a := qq) (argsL := [(.ref s0)]) (st := []) X hx hZ hown (own_w88 hw) (own_w80 hw) (notFace_of_selects (args := #[]) (mvT hZ (own_w82 hw))) (own_w82 hw) (own_w81 hw) (by decide) P4_Str.exa (payEq (W := 0) hZ hw P4_Str G95 (O2.ext P0_Old.2) P5 (by decide) (by decide)) eT (by rw [hml]; rfl) (lenOf own_pd12 rfl) rfl (Nat.le_of_eq rfl) 27 100 rfl rfl (by decide) (by decide) 218 (hb hby at_215) rfl ?_
        clear X eT; clear T; intro v T h135 L2 Lc X eT hL hQ136
        obtain ⟨rfl, rfl, hh⟩ := hQ136
        replace hh := hh.symm; subst hh
        replace N : Fr n0 L2 := by rw [hL]; exact Fr.app N (Fr.nil n0)
        clear hL
        show Go p e below _ T (mkF m 218 #[.val (.int p0), .val (.int p1), .val (.int p2), .val (.int p3), .val (.int p4), .val (.int p5), .val (.int (1 : Int32)), .val (.int sel), .val (.ref s0), .val (.ref s1), .val (.ref s2), .val (.ref qq), .val (.ref b2), .val (.int (0 : Int32)), .val (.int (1 : Int32)), .val (.int (1 : Int32)), .unset] [(.int (if aq_ = a0_ then 1 else 0))])
        rcases Decidable.em (aq_ = a0_) with re137 | re137
        · rw [if_pos re137]
          refine gifNo X hx 221 (hb hby at_218) rfl (by decide) ?_
          refine giconst X hx (0 : Int32) 222 (hb hby at_221) rfl rfl ?_
          refine gistore X hx #[.val (.int p0), .val (.int p1), .val (.int p2), .val (.int p3), .val (.int p4), .val (.int p5), .val (.int (1 : Int32)), .val (.int sel), .val (.ref s0), .val (.ref s1), .val (.ref s2), .val (.ref qq), .val (.ref b2), .val (.int (0 : Int32)), .val (.int (1 : Int32)), .val (.int (1 : Int32)), .val (.int (0 : Int32))] 224 (hb hby at_222) rfl rfl ?_
          refine ggoto X hx 276 (hb hby at_224) (by decide) (by decide) ?_
          refine gaload (v := (.ref b2)) X hx 278 (hb hby at_276) rfl rfl rfl ?_
          refine gaload (v := (.ref qq)) X hx 280 (hb hby at_278) rfl rfl rfl ?_
          obtain ⟨q138, hp139, hR140, ha141⟩ := own_found (i := 0) (ds := ([a0_] : List (List Int32))) I102 (by simp)
          have ne_u0_qq : u0 ≠ qq := Str.ne2 G95 P4_Str.exa (own_w6 hw)
          refine gvirtual (y := own_mNo) (z := own_mNo) (a := b2) (argsL := [(.ref qq)]) (st := []) X hx hZ hown (own_w89 hw) (own_w90 hw) (notFace_of_selects (args := #[]) (mvT hZ (own_w92 hw))) (own_w92 hw) (own_w91 hw) (by decide) A4 (payP (W := 0) (rmNo1 l Z a0 hw (qq) (uq) (aq_) ((own_r32.set q86.toNatClampNeg (1 : Int32))) (q138) (4) (b2) (ss_8) (sl_9) (ks_10) (ki_11) (G1) (s0) (u0) (a0_) h91 n0 (Nat.le_trans Z0 sz_h) ge_qq P0_Old A4 G96 G97 G98 G99 G100 G101 P4_Str P11_Fld P12_Fld G95 (O2) (P5) (I102) (by rw [re137]; exact hp139) (laq_) (ne_s0_qq) (ne_u0_qq) (hR140)) hZ (own_w93 hw) (own_w29 hw) (by decide) (by decide)) eT (by rw [hml]; rfl) (lenOf own_pd13 rfl) rfl (Nat.le_of_eq rfl) 27 100 rfl rfl (by decide) (by decide) 283 (hb hby at_280) rfl ?_
          clear X eT; clear T; intro v T h142 L2 Lc X eT hL hQ143
          obtain ⟨rfl, Nq, K144, G146⟩ := hQ143
          replace N : Fr n0 L2 := by rw [hL]; exact Fr.app N Nq
          clear Nq hL
          have ne_u1_qq : u1 ≠ qq := Str.ne2 P2_Str P4_Str.exa (own_w6 hw)
          have ne_u2_qq : u2 ≠ qq := Str.ne2 P3_Str P4_Str.exa (own_w6 hw)
          replace P0_Old := P0_Old.keep K144 (allS ge_qq all0)
          replace P2_Str := P2_Str.keep K144 (ninS ne_s1_qq nin0) (ninS ne_u1_qq nin0)
          replace P3_Str := P3_Str.keep K144 (ninS ne_s2_qq nin0) (ninS ne_u2_qq nin0)
          replace P7_Fld := P7_Fld.keep K144 (ninS ne_s1_qq nin0)
          replace P8_Fld := P8_Fld.keep K144 (ninS ne_s1_qq nin0)
          replace P9_Fld := P9_Fld.keep K144 (ninS ne_s2_qq nin0)
          replace P10_Fld := P10_Fld.keep K144 (ninS ne_s2_qq nin0)
          replace A4 := A4.keep K144
          replace G95 := G95.keep K144 (ninS ne_s0_qq nin0) (ninS ne_u0_qq nin0)
          replace G96 := G96.keep K144 (ninS ne_b2_qq nin0)
          replace G97 := G97.keep K144 (ninS ne_b2_qq nin0)
          replace G98 := G98.keep K144 (ninS ne_b2_qq nin0)
          replace G99 := G99.keep K144 (ninS ne_b2_qq nin0)
          replace G100 := G100.keep K144 (ninS ne_ss_8_qq nin0)
          replace G101 := G101.keep K144 (ninS ne_sl_9_qq nin0)
          replace hk := Nat.le_trans hk K144.1
          replace sz_h : h0.size ≤ h142.size := Nat.le_trans sz_h K144.1
          rw [show own_at (own_r32.set q86.toNatClampNeg (1 : Int32)) q138 = (1 : Int32) from ha141]
          rw [show ((1 : Int32) - (1 : Int32)) = (0 : Int32) from by decide]
          show Go p e below _ T (mkF m 283 #[.val (.int p0), .val (.int p1), .val (.int p2), .val (.int p3), .val (.int p4), .val (.int p5), .val (.int (1 : Int32)), .val (.int sel), .val (.ref s0), .val (.ref s1), .val (.ref s2), .val (.ref qq), .val (.ref b2), .val (.int (0 : Int32)), .val (.int (1 : Int32)), .val (.int (1 : Int32)), .val (.int (0 : Int32))] [(.int (0 : Int32))])
          refine giload (v := (0 : Int32)) X hx 285 (hb hby at_283) rfl rfl ?_
          refine gicmpNo X hx 288 (hb hby at_285) rfl (by decide) ?_
          refine giconst X hx (1 : Int32) 289 (hb hby at_288) rfl rfl ?_
          refine ggoto X hx 293 (hb hby at_289) (by decide) (by decide) ?_
          exact gRetL X hx hlk hret rfl (Or.inl ⟨rfl, by simp, _, rfl⟩) (hb hby at_293) eT hS hk (by decide) (by decide) ⟨rfl, N⟩
        · rw [if_neg re137]
          refine gifYes X hx 227 (hb hby at_218) (by decide) (by decide) (by decide) ?_
          refine giload (v := (1 : Int32)) X hx 229 (hb hby at_227) rfl rfl ?_
          refine giconst X hx (2 : Int32) 230 (hb hby at_229) rfl rfl ?_
          refine gicmpYes X hx 250 (hb hby at_230) (by decide) (by decide) (by decide) ?_
          refine giload (v := (1 : Int32)) X hx 252 (hb hby at_250) rfl rfl ?_
          refine giconst X hx (3 : Int32) 253 (hb hby at_252) rfl rfl ?_
          refine gicmpYes X hx 273 (hb hby at_253) (by decide) (by decide) (by decide) ?_
          refine giconst X hx (-1 : Int32) 274 (hb hby at_273) rfl rfl ?_
          refine gistore X hx #[.val (.int p0), .val (.int p1), .val (.int p2), .val (.int p3), .val (.int p4), .val (.int p5), .val (.int (1 : Int32)), .val (.int sel), .val (.ref s0), .val (.ref s1), .val (.ref s2), .val (.ref qq), .val (.ref b2), .val (.int (0 : Int32)), .val (.int (1 : Int32)), .val (.int (1 : Int32)), .val (.int (-1 : Int32))] 276 (hb hby at_274) rfl rfl ?_
          refine gaload (v := (.ref b2)) X hx 278 (hb hby at_276) rfl rfl rfl ?_
          refine gaload (v := (.ref qq)) X hx 280 (hb hby at_278) rfl rfl rfl ?_
          obtain ⟨q147, hp148, hR149, ha150, -⟩ := own_miss (ds := ([a0_] : List (List Int32))) (cs := aq_) I102 (by simp [re137])
          have ne_u0_qq : u0 ≠ qq := Str.ne2 G95 P4_Str.exa (own_w6 hw)
          refine gvirtual (y := own_mNo) (z := own_mNo) (a := b2) (argsL := [(.ref qq)]) (st := []) X hx hZ hown (own_w89 hw) (own_w90 hw) (notFace_of_selects (args := #[]) (mvT hZ (own_w92 hw))) (own_w92 hw) (own_w91 hw) (by decide) A4 (payP (W := 0) (rmNo1 l Z a0 hw (qq) (uq) (aq_) ((own_r32.set q86.toNatClampNeg (1 : Int32))) (q147) (4) (b2) (ss_8) (sl_9) (ks_10) (ki_11) (G1) (s0) (u0) (a0_) h91 n0 (Nat.le_trans Z0 sz_h) ge_qq P0_Old A4 G96 G97 G98 G99 G100 G101 P4_Str P11_Fld P12_Fld G95 (O2) (P5) (I102) (hp148) (laq_) (ne_s0_qq) (ne_u0_qq) (hR149)) hZ (own_w93 hw) (own_w29 hw) (by decide) (by decide)) eT (by rw [hml]; rfl) (lenOf own_pd13 rfl) rfl (Nat.le_of_eq rfl) 27 100 rfl rfl (by decide) (by decide) 283 (hb hby at_280) rfl ?_
          clear X eT; clear T; intro v T h151 L2 Lc X eT hL hQ152
          obtain ⟨rfl, Nq, K153, G155⟩ := hQ152
          replace N : Fr n0 L2 := by rw [hL]; exact Fr.app N Nq
          clear Nq hL
          have ne_u1_qq : u1 ≠ qq := Str.ne2 P2_Str P4_Str.exa (own_w6 hw)
          have ne_u2_qq : u2 ≠ qq := Str.ne2 P3_Str P4_Str.exa (own_w6 hw)
          replace P0_Old := P0_Old.keep K153 (allS ge_qq all0)
          replace P2_Str := P2_Str.keep K153 (ninS ne_s1_qq nin0) (ninS ne_u1_qq nin0)
          replace P3_Str := P3_Str.keep K153 (ninS ne_s2_qq nin0) (ninS ne_u2_qq nin0)
          replace P7_Fld := P7_Fld.keep K153 (ninS ne_s1_qq nin0)
          replace P8_Fld := P8_Fld.keep K153 (ninS ne_s1_qq nin0)
          replace P9_Fld := P9_Fld.keep K153 (ninS ne_s2_qq nin0)
          replace P10_Fld := P10_Fld.keep K153 (ninS ne_s2_qq nin0)
          replace A4 := A4.keep K153
          replace G95 := G95.keep K153 (ninS ne_s0_qq nin0) (ninS ne_u0_qq nin0)
          replace G96 := G96.keep K153 (ninS ne_b2_qq nin0)
          replace G97 := G97.keep K153 (ninS ne_b2_qq nin0)
          replace G98 := G98.keep K153 (ninS ne_b2_qq nin0)
          replace G99 := G99.keep K153 (ninS ne_b2_qq nin0)
          replace G100 := G100.keep K153 (ninS ne_ss_8_qq nin0)
          replace G101 := G101.keep K153 (ninS ne_sl_9_qq nin0)
          replace hk := Nat.le_trans hk K153.1
          replace sz_h : h0.size ≤ h151.size := Nat.le_trans sz_h K153.1
          rw [show own_at (own_r32.set q86.toNatClampNeg (1 : Int32)) q147 = (0 : Int32) from ha150]
          rw [show ((0 : Int32) - (1 : Int32)) = (-1 : Int32) from by decide]
          show Go p e below _ T (mkF m 283 #[.val (.int p0), .val (.int p1), .val (.int p2), .val (.int p3), .val (.int p4), .val (.int p5), .val (.int (1 : Int32)), .val (.int sel), .val (.ref s0), .val (.ref s1), .val (.ref s2), .val (.ref qq), .val (.ref b2), .val (.int (0 : Int32)), .val (.int (1 : Int32)), .val (.int (1 : Int32)), .val (.int (-1 : Int32))] [(.int (-1 : Int32))])
          refine giload (v := (-1 : Int32)) X hx 285 (hb hby at_283) rfl rfl ?_
          refine gicmpNo X hx 288 (hb hby at_285) rfl (by decide) ?_
          refine giconst X hx (1 : Int32) 289 (hb hby at_288) rfl rfl ?_
          refine ggoto X hx 293 (hb hby at_289) (by decide) (by decide) ?_
          exact gRetL X hx hlk hret rfl (Or.inl ⟨rfl, by simp, _, rfl⟩) (hb hby at_293) eT hS hk (by decide) (by decide) ⟨rfl, N⟩
    · rw [if_neg re105]
      refine gifYes X hx 148 (hb hby at_141) (by decide) (by decide) (by decide) ?_
      refine giconst X hx (1 : Int32) 149 (hb hby at_148) rfl rfl ?_
      refine gistore X hx #[.val (.int p0), .val (.int p1), .val (.int p2), .val (.int p3), .val (.int p4), .val (.int p5), .val (.int (1 : Int32)), .val (.int sel), .val (.ref s0), .val (.ref s1), .val (.ref s2), .val (.ref qq), .val (.ref b2), .val (.int (1 : Int32)), .unset, .unset, .unset] 151 (hb hby at_149) rfl rfl ?_
      refine gaload (v := (.ref s1)) X hx 153 (hb hby at_151) rfl rfl rfl ?_
      refine gaload (v := (.ref s0)) X hx 155 (hb hby at_153) rfl rfl rfl ?_
      refine gvirtual (y := own_mEq) (z := own_mEq) (a := s1) (argsL := [(.ref s0)]) (st := []) X hx hZ hown (own_w88 hw) (own_w80 hw) (notFace_of_selects (args := #[]) (mvT hZ (own_w82 hw))) (own_w82 hw) (own_w81 hw) (by decide) P2_Str.exa (payEq (W := 0) hZ hw P2_Str G95 (O2.ext P0_Old.2) P5 (by decide) (by decide)) eT (by rw [hml]; rfl) (lenOf own_pd12 rfl) rfl (Nat.le_of_eq rfl) 27 100 rfl rfl (by decide) (by decide) 158 (hb hby at_155) rfl ?_
      clear X eT; clear T; intro v T h156 L2 Lc X eT hL hQ157
      obtain ⟨rfl, rfl, hh⟩ := hQ157
      replace hh := hh.symm; subst hh
      replace N : Fr n0 L2 := by rw [hL]; exact Fr.app N (Fr.nil n0)
      clear hL
      show Go p e below _ T (mkF m 158 #[.val (.int p0), .val (.int p1), .val (.int p2), .val (.int p3), .val (.int p4), .val (.int p5), .val (.int (1 : Int32)), .val (.int sel), .val (.ref s0), .val (.ref s1), .val (.ref s2), .val (.ref qq), .val (.ref b2), .val (.int (1 : Int32)), .unset, .unset, .unset] [(.int (if a1_ = a0_ then 1 else 0))])
      rw [if_neg re105]
      refine gifYes X hx 165 (hb hby at_158) (by decide) (by decide) (by decide) ?_
      refine giconst X hx (2 : Int32) 166 (hb hby at_165) rfl rfl ?_
      refine gistore X hx #[.val (.int p0), .val (.int p1), .val (.int p2), .val (.int p3), .val (.int p4), .val (.int p5), .val (.int (1 : Int32)), .val (.int sel), .val (.ref s0), .val (.ref s1), .val (.ref s2), .val (.ref qq), .val (.ref b2), .val (.int (1 : Int32)), .val (.int (2 : Int32)), .unset, .unset] 168 (hb hby at_166) rfl rfl ?_
      refine gaload (v := (.ref s2)) X hx 170 (hb hby at_168) rfl rfl rfl ?_
      refine gaload (v := (.ref s0)) X hx 172 (hb hby at_170) rfl rfl rfl ?_
      refine gvirtual (y := own_mEq) (z := own_mEq) (a := s2) (argsL := [(.ref s0)]) (st := []) X hx hZ hown (own_w88 hw) (own_w80 hw) (notFace_of_selects (args := #[]) (mvT hZ (own_w82 hw))) (own_w82 hw) (own_w81 hw) (by decide) P3_Str.exa (payEq (W := 0) hZ hw P3_Str G95 (O2.ext P0_Old.2) P5 (by decide) (by decide)) eT (by rw [hml]; rfl) (lenOf own_pd12 rfl) rfl (Nat.le_of_eq rfl) 27 100 rfl rfl (by decide) (by decide) 175 (hb hby at_172) rfl ?_
      clear X eT; clear T; intro v T h158 L2 Lc X eT hL hQ159
      obtain ⟨rfl, rfl, hh⟩ := hQ159
      replace hh := hh.symm; subst hh
      replace N : Fr n0 L2 := by rw [hL]; exact Fr.app N (Fr.nil n0)
      clear hL
      show Go p e below _ T (mkF m 175 #[.val (.int p0), .val (.int p1), .val (.int p2), .val (.int p3), .val (.int p4), .val (.int p5), .val (.int (1 : Int32)), .val (.int sel), .val (.ref s0), .val (.ref s1), .val (.ref s2), .val (.ref qq), .val (.ref b2), .val (.int (1 : Int32)), .val (.int (2 : Int32)), .unset, .unset] [(.int (if a2_ = a0_ then 1 else 0))])
      rcases Decidable.em (a2_ = a0_) with re160 | re160
      · rw [if_pos re160]
        refine gifNo X hx 178 (hb hby at_175) rfl (by decide) ?_
        refine giconst X hx (0 : Int32) 179 (hb hby at_178) rfl rfl ?_
        refine gistore X hx #[.val (.int p0), .val (.int p1), .val (.int p2), .val (.int p3), .val (.int p4), .val (.int p5), .val (.int (1 : Int32)), .val (.int sel), .val (.ref s0), .val (.ref s1), .val (.ref s2), .val (.ref qq), .val (.ref b2), .val (.int (1 : Int32)), .val (.int (2 : Int32)), .val (.int (0 : Int32)), .unset] 181 (hb hby at_179) rfl rfl ?_
        refine ggoto X hx 205 (hb hby at_181) (by decide) (by decide) ?_
        refine giload (v := (1 : Int32)) X hx 207 (hb hby at_205) rfl rfl ?_
        refine giconst X hx (1 : Int32) 208 (hb hby at_207) rfl rfl ?_
        refine gicmpNo X hx 211 (hb hby at_208) rfl (by decide) ?_
        refine gaload (v := (.ref qq)) X hx 213 (hb hby at_211) rfl rfl rfl ?_
        refine gaload (v := (.ref s0)) X hx 215 (hb hby at_213) rfl rfl rfl ?_
        refine gvirtual (y := own_mEq) (z := own_mEq) (a := qq) (argsL := [(.ref s0)]) (st := []) X hx hZ hown (own_w88 hw) (own_w80 hw) (notFace_of_selects (args := #[]) (mvT hZ (own_w82 hw))) (own_w82 hw) (own_w81 hw) (by decide) P4_Str.exa (payEq (W := 0) hZ hw P4_Str G95 (O2.ext P0_Old.2) P5 (by decide) (by decide)) eT (by rw [hml]; rfl) (lenOf own_pd12 rfl) rfl (Nat.le_of_eq rfl) 27 100 rfl rfl (by decide) (by decide) 218 (hb hby at_215) rfl ?_
        clear X eT; clear T; intro v T h161 L2 Lc X eT hL hQ162
        obtain ⟨rfl, rfl, hh⟩ := hQ162
        replace hh := hh.symm; subst hh
        replace N : Fr n0 L2 := by rw [hL]; exact Fr.app N (Fr.nil n0)
        clear hL
        show Go p e below _ T (mkF m 218 #[.val (.int p0), .val (.int p1), .val (.int p2), .val (.int p3), .val (.int p4), .val (.int p5), .val (.int (1 : Int32)), .val (.int sel), .val (.ref s0), .val (.ref s1), .val (.ref s2), .val (.ref qq), .val (.ref b2), .val (.int (1 : Int32)), .val (.int (2 : Int32)), .val (.int (0 : Int32)), .unset] [(.int (if aq_ = a0_ then 1 else 0))])
        rcases Decidable.em (aq_ = a0_) with re163 | re163
        · rw [if_pos re163]
          refine gifNo X hx 221 (hb hby at_218) rfl (by decide) ?_
          refine giconst X hx (0 : Int32) 222 (hb hby at_221) rfl rfl ?_
          refine gistore X hx #[.val (.int p0), .val (.int p1), .val (.int p2), .val (.int p3), .val (.int p4), .val (.int p5), .val (.int (1 : Int32)), .val (.int sel), .val (.ref s0), .val (.ref s1), .val (.ref s2), .val (.ref qq), .val (.ref b2), .val (.int (1 : Int32)), .val (.int (2 : Int32)), .val (.int (0 : Int32)), .val (.int (0 : Int32))] 224 (hb hby at_222) rfl rfl ?_
          refine ggoto X hx 276 (hb hby at_224) (by decide) (by decide) ?_
          refine gaload (v := (.ref b2)) X hx 278 (hb hby at_276) rfl rfl rfl ?_
          refine gaload (v := (.ref qq)) X hx 280 (hb hby at_278) rfl rfl rfl ?_
          obtain ⟨q164, hp165, hR166, ha167⟩ := own_found (i := 0) (ds := ([a0_] : List (List Int32))) I102 (by simp)
          have ne_u0_qq : u0 ≠ qq := Str.ne2 G95 P4_Str.exa (own_w6 hw)
          refine gvirtual (y := own_mNo) (z := own_mNo) (a := b2) (argsL := [(.ref qq)]) (st := []) X hx hZ hown (own_w89 hw) (own_w90 hw) (notFace_of_selects (args := #[]) (mvT hZ (own_w92 hw))) (own_w92 hw) (own_w91 hw) (by decide) A4 (payP (W := 0) (rmNo1 l Z a0 hw (qq) (uq) (aq_) ((own_r32.set q86.toNatClampNeg (1 : Int32))) (q164) (4) (b2) (ss_8) (sl_9) (ks_10) (ki_11) (G1) (s0) (u0) (a0_) h91 n0 (Nat.le_trans Z0 sz_h) ge_qq P0_Old A4 G96 G97 G98 G99 G100 G101 P4_Str P11_Fld P12_Fld G95 (O2) (P5) (I102) (by rw [re163]; exact hp165) (laq_) (ne_s0_qq) (ne_u0_qq) (hR166)) hZ (own_w93 hw) (own_w29 hw) (by decide) (by decide)) eT (by rw [hml]; rfl) (lenOf own_pd13 rfl) rfl (Nat.le_of_eq rfl) 27 100 rfl rfl (by decide) (by decide) 283 (hb hby at_280) rfl ?_
          clear X eT; clear T; intro v T h168 L2 Lc X eT hL hQ169
          obtain ⟨rfl, Nq, K170, G172⟩ := hQ169
          replace N : Fr n0 L2 := by rw [hL]; exact Fr.app N Nq
          clear Nq hL
          have ne_u1_qq : u1 ≠ qq := Str.ne2 P2_Str P4_Str.exa (own_w6 hw)
          have ne_u2_qq : u2 ≠ qq := Str.ne2 P3_Str P4_Str.exa (own_w6 hw)
          replace P0_Old := P0_Old.keep K170 (allS ge_qq all0)
          replace P2_Str := P2_Str.keep K170 (ninS ne_s1_qq nin0) (ninS ne_u1_qq nin0)
          replace P3_Str := P3_Str.keep K170 (ninS ne_s2_qq nin0) (ninS ne_u2_qq nin0)
          replace P7_Fld := P7_Fld.keep K170 (ninS ne_s1_qq nin0)
          replace P8_Fld := P8_Fld.keep K170 (ninS ne_s1_qq nin0)
          replace P9_Fld := P9_Fld.keep K170 (ninS ne_s2_qq nin0)
          replace P10_Fld := P10_Fld.keep K170 (ninS ne_s2_qq nin0)
          replace A4 := A4.keep K170
          replace G95 := G95.keep K170 (ninS ne_s0_qq nin0) (ninS ne_u0_qq nin0)
          replace G96 := G96.keep K170 (ninS ne_b2_qq nin0)
          replace G97 := G97.keep K170 (ninS ne_b2_qq nin0)
          replace G98 := G98.keep K170 (ninS ne_b2_qq nin0)
          replace G99 := G99.keep K170 (ninS ne_b2_qq nin0)
          replace G100 := G100.keep K170 (ninS ne_ss_8_qq nin0)
          replace G101 := G101.keep K170 (ninS ne_sl_9_qq nin0)
          replace hk := Nat.le_trans hk K170.1
          replace sz_h : h0.size ≤ h168.size := Nat.le_trans sz_h K170.1
          rw [show own_at (own_r32.set q86.toNatClampNeg (1 : Int32)) q164 = (1 : Int32) from ha167]
          rw [show ((1 : Int32) - (1 : Int32)) = (0 : Int32) from by decide]
          show Go p e below _ T (mkF m 283 #[.val (.int p0), .val (.int p1), .val (.int p2), .val (.int p3), .val (.int p4), .val (.int p5), .val (.int (1 : Int32)), .val (.int sel), .val (.ref s0), .val (.ref s1), .val (.ref s2), .val (.ref qq), .val (.ref b2), .val (.int (1 : Int32)), .val (.int (2 : Int32)), .val (.int (0 : Int32)), .val (.int (0 : Int32))] [(.int (0 : Int32))])
          refine giload (v := (0 : Int32)) X hx 285 (hb hby at_283) rfl rfl ?_
          refine gicmpNo X hx 288 (hb hby at_285) rfl (by decide) ?_
          refine giconst X hx (1 : Int32) 289 (hb hby at_288) rfl rfl ?_
          refine ggoto X hx 293 (hb hby at_289) (by decide) (by decide) ?_
          exact gRetL X hx hlk hret rfl (Or.inl ⟨rfl, by simp, _, rfl⟩) (hb hby at_293) eT hS hk (by decide) (by decide) ⟨rfl, N⟩
        · rw [if_neg re163]
          refine gifYes X hx 227 (hb hby at_218) (by decide) (by decide) (by decide) ?_
          refine giload (v := (1 : Int32)) X hx 229 (hb hby at_227) rfl rfl ?_
          refine giconst X hx (2 : Int32) 230 (hb hby at_229) rfl rfl ?_
          refine gicmpYes X hx 250 (hb hby at_230) (by decide) (by decide) (by decide) ?_
          refine giload (v := (1 : Int32)) X hx 252 (hb hby at_250) rfl rfl ?_
          refine giconst X hx (3 : Int32) 253 (hb hby at_252) rfl rfl ?_
          refine gicmpYes X hx 273 (hb hby at_253) (by decide) (by decide) (by decide) ?_
          refine giconst X hx (-1 : Int32) 274 (hb hby at_273) rfl rfl ?_
          refine gistore X hx #[.val (.int p0), .val (.int p1), .val (.int p2), .val (.int p3), .val (.int p4), .val (.int p5), .val (.int (1 : Int32)), .val (.int sel), .val (.ref s0), .val (.ref s1), .val (.ref s2), .val (.ref qq), .val (.ref b2), .val (.int (1 : Int32)), .val (.int (2 : Int32)), .val (.int (0 : Int32)), .val (.int (-1 : Int32))] 276 (hb hby at_274) rfl rfl ?_
          refine gaload (v := (.ref b2)) X hx 278 (hb hby at_276) rfl rfl rfl ?_
          refine gaload (v := (.ref qq)) X hx 280 (hb hby at_278) rfl rfl rfl ?_
          obtain ⟨q173, hp174, hR175, ha176, -⟩ := own_miss (ds := ([a0_] : List (List Int32))) (cs := aq_) I102 (by simp [re163])
          have ne_u0_qq : u0 ≠ qq := Str.ne2 G95 P4_Str.exa (own_w6 hw)
          refine gvirtual (y := own_mNo) (z := own_mNo) (a := b2) (argsL := [(.ref qq)]) (st := []) X hx hZ hown (own_w89 hw) (own_w90 hw) (notFace_of_selects (args := #[]) (mvT hZ (own_w92 hw))) (own_w92 hw) (own_w91 hw) (by decide) A4 (payP (W := 0) (rmNo1 l Z a0 hw (qq) (uq) (aq_) ((own_r32.set q86.toNatClampNeg (1 : Int32))) (q173) (4) (b2) (ss_8) (sl_9) (ks_10) (ki_11) (G1) (s0) (u0) (a0_) h91 n0 (Nat.le_trans Z0 sz_h) ge_qq P0_Old A4 G96 G97 G98 G99 G100 G101 P4_Str P11_Fld P12_Fld G95 (O2) (P5) (I102) (hp174) (laq_) (ne_s0_qq) (ne_u0_qq) (hR175)) hZ (own_w93 hw) (own_w29 hw) (by decide) (by decide)) eT (by rw [hml]; rfl) (lenOf own_pd13 rfl) rfl (Nat.le_of_eq rfl) 27 100 rfl rfl (by decide) (by decide) 283 (hb hby at_280) rfl ?_
          clear X eT; clear T; intro v T h177 L2 Lc X eT hL hQ178
          obtain ⟨rfl, Nq, K179, G181⟩ := hQ178
          replace N : Fr n0 L2 := by rw [hL]; exact Fr.app N Nq
          clear Nq hL
          have ne_u1_qq : u1 ≠ qq := Str.ne2 P2_Str P4_Str.exa (own_w6 hw)
          have ne_u2_qq : u2 ≠ qq := Str.ne2 P3_Str P4_Str.exa (own_w6 hw)
          replace P0_Old := P0_Old.keep K179 (allS ge_qq all0)
          replace P2_Str := P2_Str.keep K179 (ninS ne_s1_qq nin0) (ninS ne_u1_qq nin0)
          replace P3_Str := P3_Str.keep K179 (ninS ne_s2_qq nin0) (ninS ne_u2_qq nin0)
          replace P7_Fld := P7_Fld.keep K179 (ninS ne_s1_qq nin0)
          replace P8_Fld := P8_Fld.keep K179 (ninS ne_s1_qq nin0)
          replace P9_Fld := P9_Fld.keep K179 (ninS ne_s2_qq nin0)
          replace P10_Fld := P10_Fld.keep K179 (ninS ne_s2_qq nin0)
          replace A4 := A4.keep K179
          replace G95 := G95.keep K179 (ninS ne_s0_qq nin0) (ninS ne_u0_qq nin0)
          replace G96 := G96.keep K179 (ninS ne_b2_qq nin0)
          replace G97 := G97.keep K179 (ninS ne_b2_qq nin0)
          replace G98 := G98.keep K179 (ninS ne_b2_qq nin0)
          replace G99 := G99.keep K179 (ninS ne_b2_qq nin0)
          replace G100 := G100.keep K179 (ninS ne_ss_8_qq nin0)
          replace G101 := G101.keep K179 (ninS ne_sl_9_qq nin0)
          replace hk := Nat.le_trans hk K179.1
          replace sz_h : h0.size ≤ h177.size := Nat.le_trans sz_h K179.1
          rw [show own_at (own_r32.set q86.toNatClampNeg (1 : Int32)) q173 = (0 : Int32) from ha176]
          rw [show ((0 : Int32) - (1 : Int32)) = (-1 : Int32) from by decide]
          show Go p e below _ T (mkF m 283 #[.val (.int p0), .val (.int p1), .val (.int p2), .val (.int p3), .val (.int p4), .val (.int p5), .val (.int (1 : Int32)), .val (.int sel), .val (.ref s0), .val (.ref s1), .val (.ref s2), .val (.ref qq), .val (.ref b2), .val (.int (1 : Int32)), .val (.int (2 : Int32)), .val (.int (0 : Int32)), .val (.int (-1 : Int32))] [(.int (-1 : Int32))])
          refine giload (v := (-1 : Int32)) X hx 285 (hb hby at_283) rfl rfl ?_
          refine gicmpNo X hx 288 (hb hby at_285) rfl (by decide) ?_
          refine giconst X hx (1 : Int32) 289 (hb hby at_288) rfl rfl ?_
          refine ggoto X hx 293 (hb hby at_289) (by decide) (by decide) ?_
          exact gRetL X hx hlk hret rfl (Or.inl ⟨rfl, by simp, _, rfl⟩) (hb hby at_293) eT hS hk (by decide) (by decide) ⟨rfl, N⟩
      · rw [if_neg re160]
        refine gifYes X hx 184 (hb hby at_175) (by decide) (by decide) (by decide) ?_
        refine gaload (v := (.ref s2)) X hx 186 (hb hby at_184) rfl rfl rfl ?_
        refine gaload (v := (.ref s1)) X hx 188 (hb hby at_186) rfl rfl rfl ?_
        refine gvirtual (y := own_mEq) (z := own_mEq) (a := s2) (argsL := [(.ref s1)]) (st := []) X hx hZ hown (own_w88 hw) (own_w80 hw) (notFace_of_selects (args := #[]) (mvT hZ (own_w82 hw))) (own_w82 hw) (own_w81 hw) (by decide) P3_Str.exa (payEq (W := 0) hZ hw P3_Str P2_Str (O2.ext P0_Old.2) P5 (by decide) (by decide)) eT (by rw [hml]; rfl) (lenOf own_pd12 rfl) rfl (Nat.le_of_eq rfl) 27 100 rfl rfl (by decide) (by decide) 191 (hb hby at_188) rfl ?_
        clear X eT; clear T; intro v T h182 L2 Lc X eT hL hQ183
        obtain ⟨rfl, rfl, hh⟩ := hQ183
        replace hh := hh.symm; subst hh
        replace N : Fr n0 L2 := by rw [hL]; exact Fr.app N (Fr.nil n0)
        clear hL
        show Go p e below _ T (mkF m 191 #[.val (.int p0), .val (.int p1), .val (.int p2), .val (.int p3), .val (.int p4), .val (.int p5), .val (.int (1 : Int32)), .val (.int sel), .val (.ref s0), .val (.ref s1), .val (.ref s2), .val (.ref qq), .val (.ref b2), .val (.int (1 : Int32)), .val (.int (2 : Int32)), .unset, .unset] [(.int (if a2_ = a1_ then 1 else 0))])
        rcases Decidable.em (a2_ = a1_) with re184 | re184
        · rw [if_pos re184]
          refine gifNo X hx 194 (hb hby at_191) rfl (by decide) ?_
          refine giload (v := (1 : Int32)) X hx 196 (hb hby at_194) rfl rfl ?_
          refine gistore X hx #[.val (.int p0), .val (.int p1), .val (.int p2), .val (.int p3), .val (.int p4), .val (.int p5), .val (.int (1 : Int32)), .val (.int sel), .val (.ref s0), .val (.ref s1), .val (.ref s2), .val (.ref qq), .val (.ref b2), .val (.int (1 : Int32)), .val (.int (2 : Int32)), .val (.int (1 : Int32)), .unset] 198 (hb hby at_196) rfl rfl ?_
          refine ggoto X hx 205 (hb hby at_198) (by decide) (by decide) ?_
          refine giload (v := (1 : Int32)) X hx 207 (hb hby at_205) rfl rfl ?_
          refine giconst X hx (1 : Int32) 208 (hb hby at_207) rfl rfl ?_
          refine gicmpNo X hx 211 (hb hby at_208) rfl (by decide) ?_
          refine gaload (v := (.ref qq)) X hx 213 (hb hby at_211) rfl rfl rfl ?_
          refine gaload (v := (.ref s0)) X hx 215 (hb hby at_213) rfl rfl rfl ?_
          refine gvirtual (y := own_mEq) (z := own_mEq) (a := qq) (argsL := [(.ref s0)]) (st := []) X hx hZ hown (own_w88 hw) (own_w80 hw) (notFace_of_selects (args := #[]) (mvT hZ (own_w82 hw))) (own_w82 hw) (own_w81 hw) (by decide) P4_Str.exa (payEq (W := 0) hZ hw P4_Str G95 (O2.ext P0_Old.2) P5 (by decide) (by decide)) eT (by rw [hml]; rfl) (lenOf own_pd12 rfl) rfl (Nat.le_of_eq rfl) 27 100 rfl rfl (by decide) (by decide) 218 (hb hby at_215) rfl ?_
          clear X eT; clear T; intro v T h185 L2 Lc X eT hL hQ186
          obtain ⟨rfl, rfl, hh⟩ := hQ186
          replace hh := hh.symm; subst hh
          replace N : Fr n0 L2 := by rw [hL]; exact Fr.app N (Fr.nil n0)
          clear hL
          show Go p e below _ T (mkF m 218 #[.val (.int p0), .val (.int p1), .val (.int p2), .val (.int p3), .val (.int p4), .val (.int p5), .val (.int (1 : Int32)), .val (.int sel), .val (.ref s0), .val (.ref s1), .val (.ref s2), .val (.ref qq), .val (.ref b2), .val (.int (1 : Int32)), .val (.int (2 : Int32)), .val (.int (1 : Int32)), .unset] [(.int (if aq_ = a0_ then 1 else 0))])
          rcases Decidable.em (aq_ = a0_) with re187 | re187
          · rw [if_pos re187]
            refine gifNo X hx 221 (hb hby at_218) rfl (by decide) ?_
            refine giconst X hx (0 : Int32) 222 (hb hby at_221) rfl rfl ?_
            refine gistore X hx #[.val (.int p0), .val (.int p1), .val (.int p2), .val (.int p3), .val (.int p4), .val (.int p5), .val (.int (1 : Int32)), .val (.int sel), .val (.ref s0), .val (.ref s1), .val (.ref s2), .val (.ref qq), .val (.ref b2), .val (.int (1 : Int32)), .val (.int (2 : Int32)), .val (.int (1 : Int32)), .val (.int (0 : Int32))] 224 (hb hby at_222) rfl rfl ?_
            refine ggoto X hx 276 (hb hby at_224) (by decide) (by decide) ?_
            refine gaload (v := (.ref b2)) X hx 278 (hb hby at_276) rfl rfl rfl ?_
            refine gaload (v := (.ref qq)) X hx 280 (hb hby at_278) rfl rfl rfl ?_
            obtain ⟨q188, hp189, hR190, ha191⟩ := own_found (i := 0) (ds := ([a0_] : List (List Int32))) I102 (by simp)
            have ne_u0_qq : u0 ≠ qq := Str.ne2 G95 P4_Str.exa (own_w6 hw)
            refine gvirtual (y := own_mNo) (z := own_mNo) (a := b2) (argsL := [(.ref qq)]) (st := []) X hx hZ hown (own_w89 hw) (own_w90 hw) (notFace_of_selects (args := #[]) (mvT hZ (own_w92 hw))) (own_w92 hw) (own_w91 hw) (by decide) A4 (payP (W := 0) (rmNo1 l Z a0 hw (qq) (uq) (aq_) ((own_r32.set q86.toNatClampNeg (1 : Int32))) (q188) (4) (b2) (ss_8) (sl_9) (ks_10) (ki_11) (G1) (s0) (u0) (a0_) h91 n0 (Nat.le_trans Z0 sz_h) ge_qq P0_Old A4 G96 G97 G98 G99 G100 G101 P4_Str P11_Fld P12_Fld G95 (O2) (P5) (I102) (by rw [re187]; exact hp189) (laq_) (ne_s0_qq) (ne_u0_qq) (hR190)) hZ (own_w93 hw) (own_w29 hw) (by decide) (by decide)) eT (by rw [hml]; rfl) (lenOf own_pd13 rfl) rfl (Nat.le_of_eq rfl) 27 100 rfl rfl (by decide) (by decide) 283 (hb hby at_280) rfl ?_
            clear X eT; clear T; intro v T h192 L2 Lc X eT hL hQ193
            obtain ⟨rfl, Nq, K194, G196⟩ := hQ193
            replace N : Fr n0 L2 := by rw [hL]; exact Fr.app N Nq
            clear Nq hL
            have ne_u1_qq : u1 ≠ qq := Str.ne2 P2_Str P4_Str.exa (own_w6 hw)
            have ne_u2_qq : u2 ≠ qq := Str.ne2 P3_Str P4_Str.exa (own_w6 hw)
            replace P0_Old := P0_Old.keep K194 (allS ge_qq all0)
            replace P2_Str := P2_Str.keep K194 (ninS ne_s1_qq nin0) (ninS ne_u1_qq nin0)
            replace P3_Str := P3_Str.keep K194 (ninS ne_s2_qq nin0) (ninS ne_u2_qq nin0)
            replace P7_Fld := P7_Fld.keep K194 (ninS ne_s1_qq nin0)
            replace P8_Fld := P8_Fld.keep K194 (ninS ne_s1_qq nin0)
            replace P9_Fld := P9_Fld.keep K194 (ninS ne_s2_qq nin0)
            replace P10_Fld := P10_Fld.keep K194 (ninS ne_s2_qq nin0)
            replace A4 := A4.keep K194
            replace G95 := G95.keep K194 (ninS ne_s0_qq nin0) (ninS ne_u0_qq nin0)
            replace G96 := G96.keep K194 (ninS ne_b2_qq nin0)
            replace G97 := G97.keep K194 (ninS ne_b2_qq nin0)
            replace G98 := G98.keep K194 (ninS ne_b2_qq nin0)
            replace G99 := G99.keep K194 (ninS ne_b2_qq nin0)
            replace G100 := G100.keep K194 (ninS ne_ss_8_qq nin0)
            replace G101 := G101.keep K194 (ninS ne_sl_9_qq nin0)
            replace hk := Nat.le_trans hk K194.1
            replace sz_h : h0.size ≤ h192.size := Nat.le_trans sz_h K194.1
            rw [show own_at (own_r32.set q86.toNatClampNeg (1 : Int32)) q188 = (1 : Int32) from ha191]
            rw [show ((1 : Int32) - (1 : Int32)) = (0 : Int32) from by decide]
            show Go p e below _ T (mkF m 283 #[.val (.int p0), .val (.int p1), .val (.int p2), .val (.int p3), .val (.int p4), .val (.int p5), .val (.int (1 : Int32)), .val (.int sel), .val (.ref s0), .val (.ref s1), .val (.ref s2), .val (.ref qq), .val (.ref b2), .val (.int (1 : Int32)), .val (.int (2 : Int32)), .val (.int (1 : Int32)), .val (.int (0 : Int32))] [(.int (0 : Int32))])
            refine giload (v := (0 : Int32)) X hx 285 (hb hby at_283) rfl rfl ?_
            refine gicmpNo X hx 288 (hb hby at_285) rfl (by decide) ?_
            refine giconst X hx (1 : Int32) 289 (hb hby at_288) rfl rfl ?_
            refine ggoto X hx 293 (hb hby at_289) (by decide) (by decide) ?_
            exact gRetL X hx hlk hret rfl (Or.inl ⟨rfl, by simp, _, rfl⟩) (hb hby at_293) eT hS hk (by decide) (by decide) ⟨rfl, N⟩
          · rw [if_neg re187]
            refine gifYes X hx 227 (hb hby at_218) (by decide) (by decide) (by decide) ?_
            refine giload (v := (1 : Int32)) X hx 229 (hb hby at_227) rfl rfl ?_
            refine giconst X hx (2 : Int32) 230 (hb hby at_229) rfl rfl ?_
            refine gicmpYes X hx 250 (hb hby at_230) (by decide) (by decide) (by decide) ?_
            refine giload (v := (1 : Int32)) X hx 252 (hb hby at_250) rfl rfl ?_
            refine giconst X hx (3 : Int32) 253 (hb hby at_252) rfl rfl ?_
            refine gicmpYes X hx 273 (hb hby at_253) (by decide) (by decide) (by decide) ?_
            refine giconst X hx (-1 : Int32) 274 (hb hby at_273) rfl rfl ?_
            refine gistore X hx #[.val (.int p0), .val (.int p1), .val (.int p2), .val (.int p3), .val (.int p4), .val (.int p5), .val (.int (1 : Int32)), .val (.int sel), .val (.ref s0), .val (.ref s1), .val (.ref s2), .val (.ref qq), .val (.ref b2), .val (.int (1 : Int32)), .val (.int (2 : Int32)), .val (.int (1 : Int32)), .val (.int (-1 : Int32))] 276 (hb hby at_274) rfl rfl ?_
            refine gaload (v := (.ref b2)) X hx 278 (hb hby at_276) rfl rfl rfl ?_
            refine gaload (v := (.ref qq)) X hx 280 (hb hby at_278) rfl rfl rfl ?_
            obtain ⟨q197, hp198, hR199, ha200, -⟩ := own_miss (ds := ([a0_] : List (List Int32))) (cs := aq_) I102 (by simp [re187])
            have ne_u0_qq : u0 ≠ qq := Str.ne2 G95 P4_Str.exa (own_w6 hw)
            refine gvirtual (y := own_mNo) (z := own_mNo) (a := b2) (argsL := [(.ref qq)]) (st := []) X hx hZ hown (own_w89 hw) (own_w90 hw) (notFace_of_selects (args := #[]) (mvT hZ (own_w92 hw))) (own_w92 hw) (own_w91 hw) (by decide) A4 (payP (W := 0) (rmNo1 l Z a0 hw (qq) (uq) (aq_) ((own_r32.set q86.toNatClampNeg (1 : Int32))) (q197) (4) (b2) (ss_8) (sl_9) (ks_10) (ki_11) (G1) (s0) (u0) (a0_) h91 n0 (Nat.le_trans Z0 sz_h) ge_qq P0_Old A4 G96 G97 G98 G99 G100 G101 P4_Str P11_Fld P12_Fld G95 (O2) (P5) (I102) (hp198) (laq_) (ne_s0_qq) (ne_u0_qq) (hR199)) hZ (own_w93 hw) (own_w29 hw) (by decide) (by decide)) eT (by rw [hml]; rfl) (lenOf own_pd13 rfl) rfl (Nat.le_of_eq rfl) 27 100 rfl rfl (by decide) (by decide) 283 (hb hby at_280) rfl ?_
            clear X eT; clear T; intro v T h201 L2 Lc X eT hL hQ202
            obtain ⟨rfl, Nq, K203, G205⟩ := hQ202
            replace N : Fr n0 L2 := by rw [hL]; exact Fr.app N Nq
            clear Nq hL
            have ne_u1_qq : u1 ≠ qq := Str.ne2 P2_Str P4_Str.exa (own_w6 hw)
            have ne_u2_qq : u2 ≠ qq := Str.ne2 P3_Str P4_Str.exa (own_w6 hw)
            replace P0_Old := P0_Old.keep K203 (allS ge_qq all0)
            replace P2_Str := P2_Str.keep K203 (ninS ne_s1_qq nin0) (ninS ne_u1_qq nin0)
            replace P3_Str := P3_Str.keep K203 (ninS ne_s2_qq nin0) (ninS ne_u2_qq nin0)
            replace P7_Fld := P7_Fld.keep K203 (ninS ne_s1_qq nin0)
            replace P8_Fld := P8_Fld.keep K203 (ninS ne_s1_qq nin0)
            replace P9_Fld := P9_Fld.keep K203 (ninS ne_s2_qq nin0)
            replace P10_Fld := P10_Fld.keep K203 (ninS ne_s2_qq nin0)
            replace A4 := A4.keep K203
            replace G95 := G95.keep K203 (ninS ne_s0_qq nin0) (ninS ne_u0_qq nin0)
            replace G96 := G96.keep K203 (ninS ne_b2_qq nin0)
            replace G97 := G97.keep K203 (ninS ne_b2_qq nin0)
            replace G98 := G98.keep K203 (ninS ne_b2_qq nin0)
            replace G99 := G99.keep K203 (ninS ne_b2_qq nin0)
            replace G100 := G100.keep K203 (ninS ne_ss_8_qq nin0)
            replace G101 := G101.keep K203 (ninS ne_sl_9_qq nin0)
            replace hk := Nat.le_trans hk K203.1
            replace sz_h : h0.size ≤ h201.size := Nat.le_trans sz_h K203.1
            rw [show own_at (own_r32.set q86.toNatClampNeg (1 : Int32)) q197 = (0 : Int32) from ha200]
            rw [show ((0 : Int32) - (1 : Int32)) = (-1 : Int32) from by decide]
            show Go p e below _ T (mkF m 283 #[.val (.int p0), .val (.int p1), .val (.int p2), .val (.int p3), .val (.int p4), .val (.int p5), .val (.int (1 : Int32)), .val (.int sel), .val (.ref s0), .val (.ref s1), .val (.ref s2), .val (.ref qq), .val (.ref b2), .val (.int (1 : Int32)), .val (.int (2 : Int32)), .val (.int (1 : Int32)), .val (.int (-1 : Int32))] [(.int (-1 : Int32))])
            refine giload (v := (-1 : Int32)) X hx 285 (hb hby at_283) rfl rfl ?_
            refine gicmpNo X hx 288 (hb hby at_285) rfl (by decide) ?_
            refine giconst X hx (1 : Int32) 289 (hb hby at_288) rfl rfl ?_
            refine ggoto X hx 293 (hb hby at_289) (by decide) (by decide) ?_
            exact gRetL X hx hlk hret rfl (Or.inl ⟨rfl, by simp, _, rfl⟩) (hb hby at_293) eT hS hk (by decide) (by decide) ⟨rfl, N⟩
        · rw [if_neg re184]
          refine gifYes X hx 201 (hb hby at_191) (by decide) (by decide) (by decide) ?_
          refine giload (v := (2 : Int32)) X hx 203 (hb hby at_201) rfl rfl ?_
          refine gistore X hx #[.val (.int p0), .val (.int p1), .val (.int p2), .val (.int p3), .val (.int p4), .val (.int p5), .val (.int (1 : Int32)), .val (.int sel), .val (.ref s0), .val (.ref s1), .val (.ref s2), .val (.ref qq), .val (.ref b2), .val (.int (1 : Int32)), .val (.int (2 : Int32)), .val (.int (2 : Int32)), .unset] 205 (hb hby at_203) rfl rfl ?_
          refine giload (v := (1 : Int32)) X hx 207 (hb hby at_205) rfl rfl ?_
          refine giconst X hx (1 : Int32) 208 (hb hby at_207) rfl rfl ?_
          refine gicmpNo X hx 211 (hb hby at_208) rfl (by decide) ?_
          refine gaload (v := (.ref qq)) X hx 213 (hb hby at_211) rfl rfl rfl ?_
          refine gaload (v := (.ref s0)) X hx 215 (hb hby at_213) rfl rfl rfl ?_
          refine gvirtual (y := own_mEq) (z := own_mEq) (a := qq) (argsL := [(.ref s0)]) (st := []) X hx hZ hown (own_w88 hw) (own_w80 hw) (notFace_of_selects (args := #[]) (mvT hZ (own_w82 hw))) (own_w82 hw) (own_w81 hw) (by decide) P4_Str.exa (payEq (W := 0) hZ hw P4_Str G95 (O2.ext P0_Old.2) P5 (by decide) (by decide)) eT (by rw [hml]; rfl) (lenOf own_pd12 rfl) rfl (Nat.le_of_eq rfl) 27 100 rfl rfl (by decide) (by decide) 218 (hb hby at_215) rfl ?_
          clear X eT; clear T; intro v T h206 L2 Lc X eT hL hQ207
          obtain ⟨rfl, rfl, hh⟩ := hQ207
          replace hh := hh.symm; subst hh
          replace N : Fr n0 L2 := by rw [hL]; exact Fr.app N (Fr.nil n0)
          clear hL
          show Go p e below _ T (mkF m 218 #[.val (.int p0), .val (.int p1), .val (.int p2), .val (.int p3), .val (.int p4), .val (.int p5), .val (.int (1 : Int32)), .val (.int sel), .val (.ref s0), .val (.ref s1), .val (.ref s2), .val (.ref qq), .val (.ref b2), .val (.int (1 : Int32)), .val (.int (2 : Int32)), .val (.int (2 : Int32)), .unset] [(.int (if aq_ = a0_ then 1 else 0))])
          rcases Decidable.em (aq_ = a0_) with re208 | re208
          · rw [if_pos re208]
            refine gifNo X hx 221 (hb hby at_218) rfl (by decide) ?_
            refine giconst X hx (0 : Int32) 222 (hb hby at_221) rfl rfl ?_
            refine gistore X hx #[.val (.int p0), .val (.int p1), .val (.int p2), .val (.int p3), .val (.int p4), .val (.int p5), .val (.int (1 : Int32)), .val (.int sel), .val (.ref s0), .val (.ref s1), .val (.ref s2), .val (.ref qq), .val (.ref b2), .val (.int (1 : Int32)), .val (.int (2 : Int32)), .val (.int (2 : Int32)), .val (.int (0 : Int32))] 224 (hb hby at_222) rfl rfl ?_
            refine ggoto X hx 276 (hb hby at_224) (by decide) (by decide) ?_
            refine gaload (v := (.ref b2)) X hx 278 (hb hby at_276) rfl rfl rfl ?_
            refine gaload (v := (.ref qq)) X hx 280 (hb hby at_278) rfl rfl rfl ?_
            obtain ⟨q209, hp210, hR211, ha212⟩ := own_found (i := 0) (ds := ([a0_] : List (List Int32))) I102 (by simp)
            have ne_u0_qq : u0 ≠ qq := Str.ne2 G95 P4_Str.exa (own_w6 hw)
            refine gvirtual (y := own_mNo) (z := own_mNo) (a := b2) (argsL := [(.ref qq)]) (st := []) X hx hZ hown (own_w89 hw) (own_w90 hw) (notFace_of_selects (args := #[]) (mvT hZ (own_w92 hw))) (own_w92 hw) (own_w91 hw) (by decide) A4 (payP (W := 0) (rmNo1 l Z a0 hw (qq) (uq) (aq_) ((own_r32.set q86.toNatClampNeg (1 : Int32))) (q209) (4) (b2) (ss_8) (sl_9) (ks_10) (ki_11) (G1) (s0) (u0) (a0_) h91 n0 (Nat.le_trans Z0 sz_h) ge_qq P0_Old A4 G96 G97 G98 G99 G100 G101 P4_Str P11_Fld P12_Fld G95 (O2) (P5) (I102) (by rw [re208]; exact hp210) (laq_) (ne_s0_qq) (ne_u0_qq) (hR211)) hZ (own_w93 hw) (own_w29 hw) (by decide) (by decide)) eT (by rw [hml]; rfl) (lenOf own_pd13 rfl) rfl (Nat.le_of_eq rfl) 27 100 rfl rfl (by decide) (by decide) 283 (hb hby at_280) rfl ?_
            clear X eT; clear T; intro v T h213 L2 Lc X eT hL hQ214
            obtain ⟨rfl, Nq, K215, G217⟩ := hQ214
            replace N : Fr n0 L2 := by rw [hL]; exact Fr.app N Nq
            clear Nq hL
            have ne_u1_qq : u1 ≠ qq := Str.ne2 P2_Str P4_Str.exa (own_w6 hw)
            have ne_u2_qq : u2 ≠ qq := Str.ne2 P3_Str P4_Str.exa (own_w6 hw)
            replace P0_Old := P0_Old.keep K215 (allS ge_qq all0)
            replace P2_Str := P2_Str.keep K215 (ninS ne_s1_qq nin0) (ninS ne_u1_qq nin0)
            replace P3_Str := P3_Str.keep K215 (ninS ne_s2_qq nin0) (ninS ne_u2_qq nin0)
            replace P7_Fld := P7_Fld.keep K215 (ninS ne_s1_qq nin0)
            replace P8_Fld := P8_Fld.keep K215 (ninS ne_s1_qq nin0)
            replace P9_Fld := P9_Fld.keep K215 (ninS ne_s2_qq nin0)
            replace P10_Fld := P10_Fld.keep K215 (ninS ne_s2_qq nin0)
            replace A4 := A4.keep K215
            replace G95 := G95.keep K215 (ninS ne_s0_qq nin0) (ninS ne_u0_qq nin0)
            replace G96 := G96.keep K215 (ninS ne_b2_qq nin0)
            replace G97 := G97.keep K215 (ninS ne_b2_qq nin0)
            replace G98 := G98.keep K215 (ninS ne_b2_qq nin0)
            replace G99 := G99.keep K215 (ninS ne_b2_qq nin0)
            replace G100 := G100.keep K215 (ninS ne_ss_8_qq nin0)
            replace G101 := G101.keep K215 (ninS ne_sl_9_qq nin0)
            replace hk := Nat.le_trans hk K215.1
            replace sz_h : h0.size ≤ h213.size := Nat.le_trans sz_h K215.1
            rw [show own_at (own_r32.set q86.toNatClampNeg (1 : Int32)) q209 = (1 : Int32) from ha212]
            rw [show ((1 : Int32) - (1 : Int32)) = (0 : Int32) from by decide]
            show Go p e below _ T (mkF m 283 #[.val (.int p0), .val (.int p1), .val (.int p2), .val (.int p3), .val (.int p4), .val (.int p5), .val (.int (1 : Int32)), .val (.int sel), .val (.ref s0), .val (.ref s1), .val (.ref s2), .val (.ref qq), .val (.ref b2), .val (.int (1 : Int32)), .val (.int (2 : Int32)), .val (.int (2 : Int32)), .val (.int (0 : Int32))] [(.int (0 : Int32))])
            refine giload (v := (0 : Int32)) X hx 285 (hb hby at_283) rfl rfl ?_
            refine gicmpNo X hx 288 (hb hby at_285) rfl (by decide) ?_
            refine giconst X hx (1 : Int32) 289 (hb hby at_288) rfl rfl ?_
            refine ggoto X hx 293 (hb hby at_289) (by decide) (by decide) ?_
            exact gRetL X hx hlk hret rfl (Or.inl ⟨rfl, by simp, _, rfl⟩) (hb hby at_293) eT hS hk (by decide) (by decide) ⟨rfl, N⟩
          · rw [if_neg re208]
            refine gifYes X hx 227 (hb hby at_218) (by decide) (by decide) (by decide) ?_
            refine giload (v := (1 : Int32)) X hx 229 (hb hby at_227) rfl rfl ?_
            refine giconst X hx (2 : Int32) 230 (hb hby at_229) rfl rfl ?_
            refine gicmpYes X hx 250 (hb hby at_230) (by decide) (by decide) (by decide) ?_
            refine giload (v := (1 : Int32)) X hx 252 (hb hby at_250) rfl rfl ?_
            refine giconst X hx (3 : Int32) 253 (hb hby at_252) rfl rfl ?_
            refine gicmpYes X hx 273 (hb hby at_253) (by decide) (by decide) (by decide) ?_
            refine giconst X hx (-1 : Int32) 274 (hb hby at_273) rfl rfl ?_
            refine gistore X hx #[.val (.int p0), .val (.int p1), .val (.int p2), .val (.int p3), .val (.int p4), .val (.int p5), .val (.int (1 : Int32)), .val (.int sel), .val (.ref s0), .val (.ref s1), .val (.ref s2), .val (.ref qq), .val (.ref b2), .val (.int (1 : Int32)), .val (.int (2 : Int32)), .val (.int (2 : Int32)), .val (.int (-1 : Int32))] 276 (hb hby at_274) rfl rfl ?_
            refine gaload (v := (.ref b2)) X hx 278 (hb hby at_276) rfl rfl rfl ?_
            refine gaload (v := (.ref qq)) X hx 280 (hb hby at_278) rfl rfl rfl ?_
            obtain ⟨q218, hp219, hR220, ha221, -⟩ := own_miss (ds := ([a0_] : List (List Int32))) (cs := aq_) I102 (by simp [re208])
            have ne_u0_qq : u0 ≠ qq := Str.ne2 G95 P4_Str.exa (own_w6 hw)
            refine gvirtual (y := own_mNo) (z := own_mNo) (a := b2) (argsL := [(.ref qq)]) (st := []) X hx hZ hown (own_w89 hw) (own_w90 hw) (notFace_of_selects (args := #[]) (mvT hZ (own_w92 hw))) (own_w92 hw) (own_w91 hw) (by decide) A4 (payP (W := 0) (rmNo1 l Z a0 hw (qq) (uq) (aq_) ((own_r32.set q86.toNatClampNeg (1 : Int32))) (q218) (4) (b2) (ss_8) (sl_9) (ks_10) (ki_11) (G1) (s0) (u0) (a0_) h91 n0 (Nat.le_trans Z0 sz_h) ge_qq P0_Old A4 G96 G97 G98 G99 G100 G101 P4_Str P11_Fld P12_Fld G95 (O2) (P5) (I102) (hp219) (laq_) (ne_s0_qq) (ne_u0_qq) (hR220)) hZ (own_w93 hw) (own_w29 hw) (by decide) (by decide)) eT (by rw [hml]; rfl) (lenOf own_pd13 rfl) rfl (Nat.le_of_eq rfl) 27 100 rfl rfl (by decide) (by decide) 283 (hb hby at_280) rfl ?_
            clear X eT; clear T; intro v T h222 L2 Lc X eT hL hQ223
            obtain ⟨rfl, Nq, K224, G226⟩ := hQ223
            replace N : Fr n0 L2 := by rw [hL]; exact Fr.app N Nq
            clear Nq hL
            have ne_u1_qq : u1 ≠ qq := Str.ne2 P2_Str P4_Str.exa (own_w6 hw)
            have ne_u2_qq : u2 ≠ qq := Str.ne2 P3_Str P4_Str.exa (own_w6 hw)
            replace P0_Old := P0_Old.keep K224 (allS ge_qq all0)
            replace P2_Str := P2_Str.keep K224 (ninS ne_s1_qq nin0) (ninS ne_u1_qq nin0)
            replace P3_Str := P3_Str.keep K224 (ninS ne_s2_qq nin0) (ninS ne_u2_qq nin0)
            replace P7_Fld := P7_Fld.keep K224 (ninS ne_s1_qq nin0)
            replace P8_Fld := P8_Fld.keep K224 (ninS ne_s1_qq nin0)
            replace P9_Fld := P9_Fld.keep K224 (ninS ne_s2_qq nin0)
            replace P10_Fld := P10_Fld.keep K224 (ninS ne_s2_qq nin0)
            replace A4 := A4.keep K224
            replace G95 := G95.keep K224 (ninS ne_s0_qq nin0) (ninS ne_u0_qq nin0)
            replace G96 := G96.keep K224 (ninS ne_b2_qq nin0)
            replace G97 := G97.keep K224 (ninS ne_b2_qq nin0)
            replace G98 := G98.keep K224 (ninS ne_b2_qq nin0)
            replace G99 := G99.keep K224 (ninS ne_b2_qq nin0)
            replace G100 := G100.keep K224 (ninS ne_ss_8_qq nin0)
            replace G101 := G101.keep K224 (ninS ne_sl_9_qq nin0)
            replace hk := Nat.le_trans hk K224.1
            replace sz_h : h0.size ≤ h222.size := Nat.le_trans sz_h K224.1
            rw [show own_at (own_r32.set q86.toNatClampNeg (1 : Int32)) q218 = (0 : Int32) from ha221]
            rw [show ((0 : Int32) - (1 : Int32)) = (-1 : Int32) from by decide]
            show Go p e below _ T (mkF m 283 #[.val (.int p0), .val (.int p1), .val (.int p2), .val (.int p3), .val (.int p4), .val (.int p5), .val (.int (1 : Int32)), .val (.int sel), .val (.ref s0), .val (.ref s1), .val (.ref s2), .val (.ref qq), .val (.ref b2), .val (.int (1 : Int32)), .val (.int (2 : Int32)), .val (.int (2 : Int32)), .val (.int (-1 : Int32))] [(.int (-1 : Int32))])
            refine giload (v := (-1 : Int32)) X hx 285 (hb hby at_283) rfl rfl ?_
            refine gicmpNo X hx 288 (hb hby at_285) rfl (by decide) ?_
            refine giconst X hx (1 : Int32) 289 (hb hby at_288) rfl rfl ?_
            refine ggoto X hx 293 (hb hby at_289) (by decide) (by decide) ?_
            exact gRetL X hx hlk hret rfl (Or.inl ⟨rfl, by simp, _, rfl⟩) (hb hby at_293) eT hS hk (by decide) (by decide) ⟨rfl, N⟩
  · show Go p e below _ T (mkF m 92 #[.val (.int p0), .val (.int p1), .val (.int p2), .val (.int p3), .val (.int p4), .val (.int p5), .val (.int (2 : Int32)), .val (.int sel), .val (.ref s0), .val (.ref s1), .val (.ref s2), .val (.ref qq), .val (.ref b2), .unset, .unset, .unset, .unset] [])
    refine giload (v := (2 : Int32)) X hx 94 (hb hby at_92) rfl rfl ?_
    refine giconst X hx (1 : Int32) 95 (hb hby at_94) rfl rfl ?_
    refine gicmpNo X hx 98 (hb hby at_95) rfl (by decide) ?_
    refine gaload (v := (.ref b2)) X hx 100 (hb hby at_98) rfl rfl rfl ?_
    refine gaload (v := (.ref s0)) X hx 102 (hb hby at_100) rfl rfl rfl ?_
    obtain ⟨q227, hp228, hR229, ha230, hI231⟩ := own_miss (ds := ([] : List (List Int32))) (cs := a0_) own_inv0 (by simp)
    refine gvirtual (y := own_mAd) (z := own_mAd) (a := b2) (argsL := [(.ref s0)]) (st := []) X hx hZ hown (own_w48 hw) (own_w49 hw) (notFace_of_selects (args := #[]) (mvT hZ (own_w51 hw))) (own_w51 hw) (own_w50 hw) (by decide) A4 (payP (W := 0) (rmAd0 l Z a0 hw (s0) (u0) (a0_) (own_r32) (q227) (4) (b2) (ss_8) (sl_9) (ks_10) (ki_11) (G1) h6 n0 (Nat.le_trans Z0 sz_h) ge_s0 ge_b2 ge_ss_8 ge_sl_9 P0_Old A4 G14 G15 G16 G17 G18 G19 P1_Str P5_Fld P6_Fld (O2) (P5) (own_inv0) (hp228) (la0_) (hR229) (ha230) (pp20) (ne_ss_8_sl_9) (ne_u0_sl_9)) hZ (own_w52 hw) (own_w29 hw) (by decide) (by decide)) eT (by rw [hml]; rfl) (lenOf own_pd13 rfl) rfl (Nat.le_of_eq rfl) 27 100 rfl rfl (by decide) (by decide) 105 (hb hby at_102) rfl ?_
    clear X eT; clear T; intro v T h232 L2 Lc X eT hL hQ233
    obtain ⟨rfl, Nq, K234, G236, G237, G238, G239, G240, G241, G242⟩ := hQ233
    replace N : Fr n0 L2 := by rw [hL]; exact Fr.app N Nq
    clear Nq hL
    have ne_u1_s0 : u1 ≠ s0 := Str.ne2 P2_Str P1_Str.exa (own_w6 hw)
    have ne_u2_s0 : u2 ≠ s0 := Str.ne2 P3_Str P1_Str.exa (own_w6 hw)
    have ne_uq_s0 : uq ≠ s0 := Str.ne2 P4_Str P1_Str.exa (own_w6 hw)
    replace P0_Old := P0_Old.keep K234 (allS ge_s0 (allS ge_b2 (allS ge_ss_8 (allS ge_sl_9 all0))))
    replace P2_Str := P2_Str.keep K234 (ninS ne_s1_s0 (ninS ne_s1_b2 (ninS ne_s1_ss_8 (ninS ne_s1_sl_9 nin0)))) (ninS ne_u1_s0 (ninS ne_u1_b2 (ninS ne_u1_ss_8 (ninS ne_u1_sl_9 nin0))))
    replace P3_Str := P3_Str.keep K234 (ninS ne_s2_s0 (ninS ne_s2_b2 (ninS ne_s2_ss_8 (ninS ne_s2_sl_9 nin0)))) (ninS ne_u2_s0 (ninS ne_u2_b2 (ninS ne_u2_ss_8 (ninS ne_u2_sl_9 nin0))))
    replace P4_Str := P4_Str.keep K234 (ninS ne_qq_s0 (ninS ne_qq_b2 (ninS ne_qq_ss_8 (ninS ne_qq_sl_9 nin0)))) (ninS ne_uq_s0 (ninS ne_uq_b2 (ninS ne_uq_ss_8 (ninS ne_uq_sl_9 nin0))))
    replace P7_Fld := P7_Fld.keep K234 (ninS ne_s1_s0 (ninS ne_s1_b2 (ninS ne_s1_ss_8 (ninS ne_s1_sl_9 nin0))))
    replace P8_Fld := P8_Fld.keep K234 (ninS ne_s1_s0 (ninS ne_s1_b2 (ninS ne_s1_ss_8 (ninS ne_s1_sl_9 nin0))))
    replace P9_Fld := P9_Fld.keep K234 (ninS ne_s2_s0 (ninS ne_s2_b2 (ninS ne_s2_ss_8 (ninS ne_s2_sl_9 nin0))))
    replace P10_Fld := P10_Fld.keep K234 (ninS ne_s2_s0 (ninS ne_s2_b2 (ninS ne_s2_ss_8 (ninS ne_s2_sl_9 nin0))))
    replace P11_Fld := P11_Fld.keep K234 (ninS ne_qq_s0 (ninS ne_qq_b2 (ninS ne_qq_ss_8 (ninS ne_qq_sl_9 nin0))))
    replace P12_Fld := P12_Fld.keep K234 (ninS ne_qq_s0 (ninS ne_qq_b2 (ninS ne_qq_ss_8 (ninS ne_qq_sl_9 nin0))))
    replace A4 := A4.keep K234
    replace hk := Nat.le_trans hk K234.1
    replace sz_h : h0.size ≤ h232.size := Nat.le_trans sz_h K234.1
    show Go p e below _ T (mkF m 105 #[.val (.int p0), .val (.int p1), .val (.int p2), .val (.int p3), .val (.int p4), .val (.int p5), .val (.int (2 : Int32)), .val (.int sel), .val (.ref s0), .val (.ref s1), .val (.ref s2), .val (.ref qq), .val (.ref b2), .unset, .unset, .unset, .unset] [(.int (0 : Int32))])
    have I243 : own_Inv (own_r32.set q227.toNatClampNeg (1 : Int32)) ([a0_] : List (List Int32)) := hI231 (by simp)
    refine gpop X hx 106 (hb hby at_105) rfl rfl ?_
    refine giload (v := (2 : Int32)) X hx 108 (hb hby at_106) rfl rfl ?_
    refine giconst X hx (2 : Int32) 109 (hb hby at_108) rfl rfl ?_
    refine gicmpNo X hx 112 (hb hby at_109) rfl (by decide) ?_
    refine gaload (v := (.ref b2)) X hx 114 (hb hby at_112) rfl rfl rfl ?_
    refine gaload (v := (.ref s1)) X hx 116 (hb hby at_114) rfl rfl rfl ?_
    rcases Decidable.em (a1_ = a0_) with re244 | re244
    · obtain ⟨q245, hp246, hR247, ha248⟩ := own_found (i := 0) (ds := ([a0_] : List (List Int32))) I243 (by simp)
      have ne_u0_s1 : u0 ≠ s1 := Str.ne2 G236 P2_Str.exa (own_w6 hw)
      refine gvirtual (y := own_mAd) (z := own_mAd) (a := b2) (argsL := [(.ref s1)]) (st := []) X hx hZ hown (own_w48 hw) (own_w49 hw) (notFace_of_selects (args := #[]) (mvT hZ (own_w51 hw))) (own_w51 hw) (own_w50 hw) (by decide) A4 (payP (W := 0) (rmAf1 l Z a0 hw (s1) (u1) (a1_) ((own_r32.set q227.toNatClampNeg (1 : Int32))) (q245) (4) (b2) (ss_8) (sl_9) (ks_10) (ki_11) (G1) (s0) (u0) (a0_) h232 n0 (Nat.le_trans Z0 sz_h) ge_s1 P0_Old A4 G237 G238 G239 G240 G241 G242 P2_Str P7_Fld P8_Fld G236 (O2) (P5) (I243) (by rw [re244]; exact hp246) (la1_) (ne_s0_s1) (ne_u0_s1) (hR247) (by rw [ha248]; decide)) hZ (own_w52 hw) (own_w29 hw) (by decide) (by decide)) eT (by rw [hml]; rfl) (lenOf own_pd13 rfl) rfl (Nat.le_of_eq rfl) 27 100 rfl rfl (by decide) (by decide) 119 (hb hby at_116) rfl ?_
      clear X eT; clear T; intro v T h250 L2 Lc X eT hL hQ251
      obtain ⟨rfl, Nq, K252, G254⟩ := hQ251
      replace N : Fr n0 L2 := by rw [hL]; exact Fr.app N Nq
      clear Nq hL
      have ne_u2_s1 : u2 ≠ s1 := Str.ne2 P3_Str P2_Str.exa (own_w6 hw)
      have ne_uq_s1 : uq ≠ s1 := Str.ne2 P4_Str P2_Str.exa (own_w6 hw)
      replace P0_Old := P0_Old.keep K252 (allS ge_s1 all0)
      replace P3_Str := P3_Str.keep K252 (ninS ne_s2_s1 nin0) (ninS ne_u2_s1 nin0)
      replace P4_Str := P4_Str.keep K252 (ninS ne_qq_s1 nin0) (ninS ne_uq_s1 nin0)
      replace P9_Fld := P9_Fld.keep K252 (ninS ne_s2_s1 nin0)
      replace P10_Fld := P10_Fld.keep K252 (ninS ne_s2_s1 nin0)
      replace P11_Fld := P11_Fld.keep K252 (ninS ne_qq_s1 nin0)
      replace P12_Fld := P12_Fld.keep K252 (ninS ne_qq_s1 nin0)
      replace A4 := A4.keep K252
      replace G236 := G236.keep K252 (ninS ne_s0_s1 nin0) (ninS ne_u0_s1 nin0)
      replace G237 := G237.keep K252 (ninS ne_b2_s1 nin0)
      replace G238 := G238.keep K252 (ninS ne_b2_s1 nin0)
      replace G239 := G239.keep K252 (ninS ne_b2_s1 nin0)
      replace G240 := G240.keep K252 (ninS ne_b2_s1 nin0)
      replace G241 := G241.keep K252 (ninS ne_ss_8_s1 nin0)
      replace G242 := G242.keep K252 (ninS ne_sl_9_s1 nin0)
      replace hk := Nat.le_trans hk K252.1
      replace sz_h : h0.size ≤ h250.size := Nat.le_trans sz_h K252.1
      show Go p e below _ T (mkF m 119 #[.val (.int p0), .val (.int p1), .val (.int p2), .val (.int p3), .val (.int p4), .val (.int p5), .val (.int (2 : Int32)), .val (.int sel), .val (.ref s0), .val (.ref s1), .val (.ref s2), .val (.ref qq), .val (.ref b2), .unset, .unset, .unset, .unset] [(.int (own_at (own_r32.set q227.toNatClampNeg (1 : Int32)) q245 - (1 : Int32)))])
      refine gpop X hx 120 (hb hby at_119) rfl rfl ?_
      refine giload (v := (2 : Int32)) X hx 122 (hb hby at_120) rfl rfl ?_
      refine giconst X hx (3 : Int32) 123 (hb hby at_122) rfl rfl ?_
      refine gicmpYes X hx 134 (hb hby at_123) (by decide) (by decide) (by decide) ?_
      refine gaload (v := (.ref s1)) X hx 136 (hb hby at_134) rfl rfl rfl ?_
      refine gaload (v := (.ref s0)) X hx 138 (hb hby at_136) rfl rfl rfl ?_
      refine gvirtual (y := own_mEq) (z := own_mEq) (a := s1) (argsL := [(.ref s0)]) (st := []) X hx hZ hown (own_w88 hw) (own_w80 hw) (notFace_of_selects (args := #[]) (mvT hZ (own_w82 hw))) (own_w82 hw) (own_w81 hw) (by decide) G254.exa (payEq (W := 0) hZ hw G254 G236 (O2.ext P0_Old.2) P5 (by decide) (by decide)) eT (by rw [hml]; rfl) (lenOf own_pd12 rfl) rfl (Nat.le_of_eq rfl) 27 100 rfl rfl (by decide) (by decide) 141 (hb hby at_138) rfl ?_
      clear X eT; clear T; intro v T h272 L2 Lc X eT hL hQ273
      obtain ⟨rfl, rfl, hh⟩ := hQ273
      replace hh := hh.symm; subst hh
      replace N : Fr n0 L2 := by rw [hL]; exact Fr.app N (Fr.nil n0)
      clear hL
      show Go p e below _ T (mkF m 141 #[.val (.int p0), .val (.int p1), .val (.int p2), .val (.int p3), .val (.int p4), .val (.int p5), .val (.int (2 : Int32)), .val (.int sel), .val (.ref s0), .val (.ref s1), .val (.ref s2), .val (.ref qq), .val (.ref b2), .unset, .unset, .unset, .unset] [(.int (if a1_ = a0_ then 1 else 0))])
      rw [if_pos re244]
      refine gifNo X hx 144 (hb hby at_141) rfl (by decide) ?_
      refine giconst X hx (0 : Int32) 145 (hb hby at_144) rfl rfl ?_
      refine ggoto X hx 149 (hb hby at_145) (by decide) (by decide) ?_
      refine gistore X hx #[.val (.int p0), .val (.int p1), .val (.int p2), .val (.int p3), .val (.int p4), .val (.int p5), .val (.int (2 : Int32)), .val (.int sel), .val (.ref s0), .val (.ref s1), .val (.ref s2), .val (.ref qq), .val (.ref b2), .val (.int (0 : Int32)), .unset, .unset, .unset] 151 (hb hby at_149) rfl rfl ?_
      refine gaload (v := (.ref s1)) X hx 153 (hb hby at_151) rfl rfl rfl ?_
      refine gaload (v := (.ref s0)) X hx 155 (hb hby at_153) rfl rfl rfl ?_
      refine gvirtual (y := own_mEq) (z := own_mEq) (a := s1) (argsL := [(.ref s0)]) (st := []) X hx hZ hown (own_w88 hw) (own_w80 hw) (notFace_of_selects (args := #[]) (mvT hZ (own_w82 hw))) (own_w82 hw) (own_w81 hw) (by decide) G254.exa (payEq (W := 0) hZ hw G254 G236 (O2.ext P0_Old.2) P5 (by decide) (by decide)) eT (by rw [hml]; rfl) (lenOf own_pd12 rfl) rfl (Nat.le_of_eq rfl) 27 100 rfl rfl (by decide) (by decide) 158 (hb hby at_155) rfl ?_
      clear X eT; clear T; intro v T h274 L2 Lc X eT hL hQ275
      obtain ⟨rfl, rfl, hh⟩ := hQ275
      replace hh := hh.symm; subst hh
      replace N : Fr n0 L2 := by rw [hL]; exact Fr.app N (Fr.nil n0)
      clear hL
      show Go p e below _ T (mkF m 158 #[.val (.int p0), .val (.int p1), .val (.int p2), .val (.int p3), .val (.int p4), .val (.int p5), .val (.int (2 : Int32)), .val (.int sel), .val (.ref s0), .val (.ref s1), .val (.ref s2), .val (.ref qq), .val (.ref b2), .val (.int (0 : Int32)), .unset, .unset, .unset] [(.int (if a1_ = a0_ then 1 else 0))])
      rw [if_pos re244]
      refine gifNo X hx 161 (hb hby at_158) rfl (by decide) ?_
      refine giconst X hx (1 : Int32) 162 (hb hby at_161) rfl rfl ?_
      refine ggoto X hx 166 (hb hby at_162) (by decide) (by decide) ?_
      refine gistore X hx #[.val (.int p0), .val (.int p1), .val (.int p2), .val (.int p3), .val (.int p4), .val (.int p5), .val (.int (2 : Int32)), .val (.int sel), .val (.ref s0), .val (.ref s1), .val (.ref s2), .val (.ref qq), .val (.ref b2), .val (.int (0 : Int32)), .val (.int (1 : Int32)), .unset, .unset] 168 (hb hby at_166) rfl rfl ?_
      refine gaload (v := (.ref s2)) X hx 170 (hb hby at_168) rfl rfl rfl ?_
      refine gaload (v := (.ref s0)) X hx 172 (hb hby at_170) rfl rfl rfl ?_
      refine gvirtual (y := own_mEq) (z := own_mEq) (a := s2) (argsL := [(.ref s0)]) (st := []) X hx hZ hown (own_w88 hw) (own_w80 hw) (notFace_of_selects (args := #[]) (mvT hZ (own_w82 hw))) (own_w82 hw) (own_w81 hw) (by decide) P3_Str.exa (payEq (W := 0) hZ hw P3_Str G236 (O2.ext P0_Old.2) P5 (by decide) (by decide)) eT (by rw [hml]; rfl) (lenOf own_pd12 rfl) rfl (Nat.le_of_eq rfl) 27 100 rfl rfl (by decide) (by decide) 175 (hb hby at_172) rfl ?_
      clear X eT; clear T; intro v T h276 L2 Lc X eT hL hQ277
      obtain ⟨rfl, rfl, hh⟩ := hQ277
      replace hh := hh.symm; subst hh
      replace N : Fr n0 L2 := by rw [hL]; exact Fr.app N (Fr.nil n0)
      clear hL
      show Go p e below _ T (mkF m 175 #[.val (.int p0), .val (.int p1), .val (.int p2), .val (.int p3), .val (.int p4), .val (.int p5), .val (.int (2 : Int32)), .val (.int sel), .val (.ref s0), .val (.ref s1), .val (.ref s2), .val (.ref qq), .val (.ref b2), .val (.int (0 : Int32)), .val (.int (1 : Int32)), .unset, .unset] [(.int (if a2_ = a0_ then 1 else 0))])
      rcases Decidable.em (a2_ = a0_) with re278 | re278
      · rw [if_pos re278]
        refine gifNo X hx 178 (hb hby at_175) rfl (by decide) ?_
        refine giconst X hx (0 : Int32) 179 (hb hby at_178) rfl rfl ?_
        refine gistore X hx #[.val (.int p0), .val (.int p1), .val (.int p2), .val (.int p3), .val (.int p4), .val (.int p5), .val (.int (2 : Int32)), .val (.int sel), .val (.ref s0), .val (.ref s1), .val (.ref s2), .val (.ref qq), .val (.ref b2), .val (.int (0 : Int32)), .val (.int (1 : Int32)), .val (.int (0 : Int32)), .unset] 181 (hb hby at_179) rfl rfl ?_
        refine ggoto X hx 205 (hb hby at_181) (by decide) (by decide) ?_
        refine giload (v := (2 : Int32)) X hx 207 (hb hby at_205) rfl rfl ?_
        refine giconst X hx (1 : Int32) 208 (hb hby at_207) rfl rfl ?_
        refine gicmpNo X hx 211 (hb hby at_208) rfl (by decide) ?_
        refine gaload (v := (.ref qq)) X hx 213 (hb hby at_211) rfl rfl rfl ?_
        refine gaload (v := (.ref s0)) X hx 215 (hb hby at_213) rfl rfl rfl ?_
        refine gvirtual (y := own_mEq) (z := own_mEq) (a := qq) (argsL := [(.ref s0)]) (st := []) X hx hZ hown (own_w88 hw) (own_w80 hw) (notFace_of_selects (args := #[]) (mvT hZ (own_w82 hw))) (own_w82 hw) (own_w81 hw) (by decide) P4_Str.exa (payEq (W := 0) hZ hw P4_Str G236 (O2.ext P0_Old.2) P5 (by decide) (by decide)) eT (by rw [hml]; rfl) (lenOf own_pd12 rfl) rfl (Nat.le_of_eq rfl) 27 100 rfl rfl (by decide) (by decide) 218 (hb hby at_215) rfl ?_
        clear X eT; clear T; intro v T h279 L2 Lc X eT hL hQ280
        obtain ⟨rfl, rfl, hh⟩ := hQ280
        replace hh := hh.symm; subst hh
        replace N : Fr n0 L2 := by rw [hL]; exact Fr.app N (Fr.nil n0)
        clear hL
        show Go p e below _ T (mkF m 218 #[.val (.int p0), .val (.int p1), .val (.int p2), .val (.int p3), .val (.int p4), .val (.int p5), .val (.int (2 : Int32)), .val (.int sel), .val (.ref s0), .val (.ref s1), .val (.ref s2), .val (.ref qq), .val (.ref b2), .val (.int (0 : Int32)), .val (.int (1 : Int32)), .val (.int (0 : Int32)), .unset] [(.int (if aq_ = a0_ then 1 else 0))])
        rcases Decidable.em (aq_ = a0_) with re281 | re281
        · rw [if_pos re281]
          refine gifNo X hx 221 (hb hby at_218) rfl (by decide) ?_
          refine giconst X hx (0 : Int32) 222 (hb hby at_221) rfl rfl ?_
          refine gistore X hx #[.val (.int p0), .val (.int p1), .val (.int p2), .val (.int p3), .val (.int p4), .val (.int p5), .val (.int (2 : Int32)), .val (.int sel), .val (.ref s0), .val (.ref s1), .val (.ref s2), .val (.ref qq), .val (.ref b2), .val (.int (0 : Int32)), .val (.int (1 : Int32)), .val (.int (0 : Int32)), .val (.int (0 : Int32))] 224 (hb hby at_222) rfl rfl ?_
          refine ggoto X hx 276 (hb hby at_224) (by decide) (by decide) ?_
          refine gaload (v := (.ref b2)) X hx 278 (hb hby at_276) rfl rfl rfl ?_
          refine gaload (v := (.ref qq)) X hx 280 (hb hby at_278) rfl rfl rfl ?_
          obtain ⟨q282, hp283, hR284, ha285⟩ := own_found (i := 0) (ds := ([a0_] : List (List Int32))) I243 (by simp)
          have ne_u0_qq : u0 ≠ qq := Str.ne2 G236 P4_Str.exa (own_w6 hw)
          refine gvirtual (y := own_mNo) (z := own_mNo) (a := b2) (argsL := [(.ref qq)]) (st := []) X hx hZ hown (own_w89 hw) (own_w90 hw) (notFace_of_selects (args := #[]) (mvT hZ (own_w92 hw))) (own_w92 hw) (own_w91 hw) (by decide) A4 (payP (W := 0) (rmNo1 l Z a0 hw (qq) (uq) (aq_) ((own_r32.set q227.toNatClampNeg (1 : Int32))) (q282) (4) (b2) (ss_8) (sl_9) (ks_10) (ki_11) (G1) (s0) (u0) (a0_) h250 n0 (Nat.le_trans Z0 sz_h) ge_qq P0_Old A4 G237 G238 G239 G240 G241 G242 P4_Str P11_Fld P12_Fld G236 (O2) (P5) (I243) (by rw [re281]; exact hp283) (laq_) (ne_s0_qq) (ne_u0_qq) (hR284)) hZ (own_w93 hw) (own_w29 hw) (by decide) (by decide)) eT (by rw [hml]; rfl) (lenOf own_pd13 rfl) rfl (Nat.le_of_eq rfl) 27 100 rfl rfl (by decide) (by decide) 283 (hb hby at_280) rfl ?_
          clear X eT; clear T; intro v T h286 L2 Lc X eT hL hQ287
          obtain ⟨rfl, Nq, K288, G290⟩ := hQ287
          replace N : Fr n0 L2 := by rw [hL]; exact Fr.app N Nq
          clear Nq hL
          have ne_u2_qq : u2 ≠ qq := Str.ne2 P3_Str P4_Str.exa (own_w6 hw)
          have ne_u1_qq : u1 ≠ qq := Str.ne2 G254 P4_Str.exa (own_w6 hw)
          replace P0_Old := P0_Old.keep K288 (allS ge_qq all0)
          replace P3_Str := P3_Str.keep K288 (ninS ne_s2_qq nin0) (ninS ne_u2_qq nin0)
          replace P9_Fld := P9_Fld.keep K288 (ninS ne_s2_qq nin0)
          replace P10_Fld := P10_Fld.keep K288 (ninS ne_s2_qq nin0)
          replace A4 := A4.keep K288
          replace G236 := G236.keep K288 (ninS ne_s0_qq nin0) (ninS ne_u0_qq nin0)
          replace G237 := G237.keep K288 (ninS ne_b2_qq nin0)
          replace G238 := G238.keep K288 (ninS ne_b2_qq nin0)
          replace G239 := G239.keep K288 (ninS ne_b2_qq nin0)
          replace G240 := G240.keep K288 (ninS ne_b2_qq nin0)
          replace G241 := G241.keep K288 (ninS ne_ss_8_qq nin0)
          replace G242 := G242.keep K288 (ninS ne_sl_9_qq nin0)
          replace G254 := G254.keep K288 (ninS ne_s1_qq nin0) (ninS ne_u1_qq nin0)
          replace hk := Nat.le_trans hk K288.1
          replace sz_h : h0.size ≤ h286.size := Nat.le_trans sz_h K288.1
          rw [show own_at (own_r32.set q227.toNatClampNeg (1 : Int32)) q282 = (1 : Int32) from ha285]
          rw [show ((1 : Int32) - (1 : Int32)) = (0 : Int32) from by decide]
          show Go p e below _ T (mkF m 283 #[.val (.int p0), .val (.int p1), .val (.int p2), .val (.int p3), .val (.int p4), .val (.int p5), .val (.int (2 : Int32)), .val (.int sel), .val (.ref s0), .val (.ref s1), .val (.ref s2), .val (.ref qq), .val (.ref b2), .val (.int (0 : Int32)), .val (.int (1 : Int32)), .val (.int (0 : Int32)), .val (.int (0 : Int32))] [(.int (0 : Int32))])
          refine giload (v := (0 : Int32)) X hx 285 (hb hby at_283) rfl rfl ?_
          refine gicmpNo X hx 288 (hb hby at_285) rfl (by decide) ?_
          refine giconst X hx (1 : Int32) 289 (hb hby at_288) rfl rfl ?_
          refine ggoto X hx 293 (hb hby at_289) (by decide) (by decide) ?_
          exact gRetL X hx hlk hret rfl (Or.inl ⟨rfl, by simp, _, rfl⟩) (hb hby at_293) eT hS hk (by decide) (by decide) ⟨rfl, N⟩
        · rw [if_neg re281]
          refine gifYes X hx 227 (hb hby at_218) (by decide) (by decide) (by decide) ?_
          refine giload (v := (2 : Int32)) X hx 229 (hb hby at_227) rfl rfl ?_
          refine giconst X hx (2 : Int32) 230 (hb hby at_229) rfl rfl ?_
          refine gicmpNo X hx 233 (hb hby at_230) rfl (by decide) ?_
          refine gaload (v := (.ref qq)) X hx 235 (hb hby at_233) rfl rfl rfl ?_
          refine gaload (v := (.ref s1)) X hx 237 (hb hby at_235) rfl rfl rfl ?_
          refine gvirtual (y := own_mEq) (z := own_mEq) (a := qq) (argsL := [(.ref s1)]) (st := []) X hx hZ hown (own_w88 hw) (own_w80 hw) (notFace_of_selects (args := #[]) (mvT hZ (own_w82 hw))) (own_w82 hw) (own_w81 hw) (by decide) P4_Str.exa (payEq (W := 0) hZ hw P4_Str G254 (O2.ext P0_Old.2) P5 (by decide) (by decide)) eT (by rw [hml]; rfl) (lenOf own_pd12 rfl) rfl (Nat.le_of_eq rfl) 27 100 rfl rfl (by decide) (by decide) 240 (hb hby at_237) rfl ?_
          clear X eT; clear T; intro v T h291 L2 Lc X eT hL hQ292
          obtain ⟨rfl, rfl, hh⟩ := hQ292
          replace hh := hh.symm; subst hh
          replace N : Fr n0 L2 := by rw [hL]; exact Fr.app N (Fr.nil n0)
          clear hL
          show Go p e below _ T (mkF m 240 #[.val (.int p0), .val (.int p1), .val (.int p2), .val (.int p3), .val (.int p4), .val (.int p5), .val (.int (2 : Int32)), .val (.int sel), .val (.ref s0), .val (.ref s1), .val (.ref s2), .val (.ref qq), .val (.ref b2), .val (.int (0 : Int32)), .val (.int (1 : Int32)), .val (.int (0 : Int32)), .unset] [(.int (if aq_ = a1_ then 1 else 0))])
          have re293 : ¬ aq_ = a1_ := fun z => re281 (z.trans re244)
          rw [if_neg re293]
          refine gifYes X hx 250 (hb hby at_240) (by decide) (by decide) (by decide) ?_
          refine giload (v := (2 : Int32)) X hx 252 (hb hby at_250) rfl rfl ?_
          refine giconst X hx (3 : Int32) 253 (hb hby at_252) rfl rfl ?_
          refine gicmpYes X hx 273 (hb hby at_253) (by decide) (by decide) (by decide) ?_
          refine giconst X hx (-1 : Int32) 274 (hb hby at_273) rfl rfl ?_
          refine gistore X hx #[.val (.int p0), .val (.int p1), .val (.int p2), .val (.int p3), .val (.int p4), .val (.int p5), .val (.int (2 : Int32)), .val (.int sel), .val (.ref s0), .val (.ref s1), .val (.ref s2), .val (.ref qq), .val (.ref b2), .val (.int (0 : Int32)), .val (.int (1 : Int32)), .val (.int (0 : Int32)), .val (.int (-1 : Int32))] 276 (hb hby at_274) rfl rfl ?_
          refine gaload (v := (.ref b2)) X hx 278 (hb hby at_276) rfl rfl rfl ?_
          refine gaload (v := (.ref qq)) X hx 280 (hb hby at_278) rfl rfl rfl ?_
          obtain ⟨q294, hp295, hR296, ha297, -⟩ := own_miss (ds := ([a0_] : List (List Int32))) (cs := aq_) I243 (by simp [re281])
          have ne_u0_qq : u0 ≠ qq := Str.ne2 G236 P4_Str.exa (own_w6 hw)
          refine gvirtual (y := own_mNo) (z := own_mNo) (a := b2) (argsL := [(.ref qq)]) (st := []) X hx hZ hown (own_w89 hw) (own_w90 hw) (notFace_of_selects (args := #[]) (mvT hZ (own_w92 hw))) (own_w92 hw) (own_w91 hw) (by decide) A4 (payP (W := 0) (rmNo1 l Z a0 hw (qq) (uq) (aq_) ((own_r32.set q227.toNatClampNeg (1 : Int32))) (q294) (4) (b2) (ss_8) (sl_9) (ks_10) (ki_11) (G1) (s0) (u0) (a0_) h250 n0 (Nat.le_trans Z0 sz_h) ge_qq P0_Old A4 G237 G238 G239 G240 G241 G242 P4_Str P11_Fld P12_Fld G236 (O2) (P5) (I243) (hp295) (laq_) (ne_s0_qq) (ne_u0_qq) (hR296)) hZ (own_w93 hw) (own_w29 hw) (by decide) (by decide)) eT (by rw [hml]; rfl) (lenOf own_pd13 rfl) rfl (Nat.le_of_eq rfl) 27 100 rfl rfl (by decide) (by decide) 283 (hb hby at_280) rfl ?_
          clear X eT; clear T; intro v T h298 L2 Lc X eT hL hQ299
          obtain ⟨rfl, Nq, K300, G302⟩ := hQ299
          replace N : Fr n0 L2 := by rw [hL]; exact Fr.app N Nq
          clear Nq hL
          have ne_u2_qq : u2 ≠ qq := Str.ne2 P3_Str P4_Str.exa (own_w6 hw)
          have ne_u1_qq : u1 ≠ qq := Str.ne2 G254 P4_Str.exa (own_w6 hw)
          replace P0_Old := P0_Old.keep K300 (allS ge_qq all0)
          replace P3_Str := P3_Str.keep K300 (ninS ne_s2_qq nin0) (ninS ne_u2_qq nin0)
          replace P9_Fld := P9_Fld.keep K300 (ninS ne_s2_qq nin0)
          replace P10_Fld := P10_Fld.keep K300 (ninS ne_s2_qq nin0)
          replace A4 := A4.keep K300
          replace G236 := G236.keep K300 (ninS ne_s0_qq nin0) (ninS ne_u0_qq nin0)
          replace G237 := G237.keep K300 (ninS ne_b2_qq nin0)
          replace G238 := G238.keep K300 (ninS ne_b2_qq nin0)
          replace G239 := G239.keep K300 (ninS ne_b2_qq nin0)
          replace G240 := G240.keep K300 (ninS ne_b2_qq nin0)
          replace G241 := G241.keep K300 (ninS ne_ss_8_qq nin0)
          replace G242 := G242.keep K300 (ninS ne_sl_9_qq nin0)
          replace G254 := G254.keep K300 (ninS ne_s1_qq nin0) (ninS ne_u1_qq nin0)
          replace hk := Nat.le_trans hk K300.1
          replace sz_h : h0.size ≤ h298.size := Nat.le_trans sz_h K300.1
          rw [show own_at (own_r32.set q227.toNatClampNeg (1 : Int32)) q294 = (0 : Int32) from ha297]
          rw [show ((0 : Int32) - (1 : Int32)) = (-1 : Int32) from by decide]
          show Go p e below _ T (mkF m 283 #[.val (.int p0), .val (.int p1), .val (.int p2), .val (.int p3), .val (.int p4), .val (.int p5), .val (.int (2 : Int32)), .val (.int sel), .val (.ref s0), .val (.ref s1), .val (.ref s2), .val (.ref qq), .val (.ref b2), .val (.int (0 : Int32)), .val (.int (1 : Int32)), .val (.int (0 : Int32)), .val (.int (-1 : Int32))] [(.int (-1 : Int32))])
          refine giload (v := (-1 : Int32)) X hx 285 (hb hby at_283) rfl rfl ?_
          refine gicmpNo X hx 288 (hb hby at_285) rfl (by decide) ?_
          refine giconst X hx (1 : Int32) 289 (hb hby at_288) rfl rfl ?_
          refine ggoto X hx 293 (hb hby at_289) (by decide) (by decide) ?_
          exact gRetL X hx hlk hret rfl (Or.inl ⟨rfl, by simp, _, rfl⟩) (hb hby at_293) eT hS hk (by decide) (by decide) ⟨rfl, N⟩
      · rw [if_neg re278]
        refine gifYes X hx 184 (hb hby at_175) (by decide) (by decide) (by decide) ?_
        refine gaload (v := (.ref s2)) X hx 186 (hb hby at_184) rfl rfl rfl ?_
        refine gaload (v := (.ref s1)) X hx 188 (hb hby at_186) rfl rfl rfl ?_
        refine gvirtual (y := own_mEq) (z := own_mEq) (a := s2) (argsL := [(.ref s1)]) (st := []) X hx hZ hown (own_w88 hw) (own_w80 hw) (notFace_of_selects (args := #[]) (mvT hZ (own_w82 hw))) (own_w82 hw) (own_w81 hw) (by decide) P3_Str.exa (payEq (W := 0) hZ hw P3_Str G254 (O2.ext P0_Old.2) P5 (by decide) (by decide)) eT (by rw [hml]; rfl) (lenOf own_pd12 rfl) rfl (Nat.le_of_eq rfl) 27 100 rfl rfl (by decide) (by decide) 191 (hb hby at_188) rfl ?_
        clear X eT; clear T; intro v T h303 L2 Lc X eT hL hQ304
        obtain ⟨rfl, rfl, hh⟩ := hQ304
        replace hh := hh.symm; subst hh
        replace N : Fr n0 L2 := by rw [hL]; exact Fr.app N (Fr.nil n0)
        clear hL
        show Go p e below _ T (mkF m 191 #[.val (.int p0), .val (.int p1), .val (.int p2), .val (.int p3), .val (.int p4), .val (.int p5), .val (.int (2 : Int32)), .val (.int sel), .val (.ref s0), .val (.ref s1), .val (.ref s2), .val (.ref qq), .val (.ref b2), .val (.int (0 : Int32)), .val (.int (1 : Int32)), .unset, .unset] [(.int (if a2_ = a1_ then 1 else 0))])
        have re305 : ¬ a2_ = a1_ := fun z => re278 (z.trans re244)
        rw [if_neg re305]
        refine gifYes X hx 201 (hb hby at_191) (by decide) (by decide) (by decide) ?_
        refine giload (v := (1 : Int32)) X hx 203 (hb hby at_201) rfl rfl ?_
        refine gistore X hx #[.val (.int p0), .val (.int p1), .val (.int p2), .val (.int p3), .val (.int p4), .val (.int p5), .val (.int (2 : Int32)), .val (.int sel), .val (.ref s0), .val (.ref s1), .val (.ref s2), .val (.ref qq), .val (.ref b2), .val (.int (0 : Int32)), .val (.int (1 : Int32)), .val (.int (1 : Int32)), .unset] 205 (hb hby at_203) rfl rfl ?_
        refine giload (v := (2 : Int32)) X hx 207 (hb hby at_205) rfl rfl ?_
        refine giconst X hx (1 : Int32) 208 (hb hby at_207) rfl rfl ?_
        refine gicmpNo X hx 211 (hb hby at_208) rfl (by decide) ?_
        refine gaload (v := (.ref qq)) X hx 213 (hb hby at_211) rfl rfl rfl ?_
        refine gaload (v := (.ref s0)) X hx 215 (hb hby at_213) rfl rfl rfl ?_
        refine gvirtual (y := own_mEq) (z := own_mEq) (a := qq) (argsL := [(.ref s0)]) (st := []) X hx hZ hown (own_w88 hw) (own_w80 hw) (notFace_of_selects (args := #[]) (mvT hZ (own_w82 hw))) (own_w82 hw) (own_w81 hw) (by decide) P4_Str.exa (payEq (W := 0) hZ hw P4_Str G236 (O2.ext P0_Old.2) P5 (by decide) (by decide)) eT (by rw [hml]; rfl) (lenOf own_pd12 rfl) rfl (Nat.le_of_eq rfl) 27 100 rfl rfl (by decide) (by decide) 218 (hb hby at_215) rfl ?_
        clear X eT; clear T; intro v T h306 L2 Lc X eT hL hQ307
        obtain ⟨rfl, rfl, hh⟩ := hQ307
        replace hh := hh.symm; subst hh
        replace N : Fr n0 L2 := by rw [hL]; exact Fr.app N (Fr.nil n0)
        clear hL
        show Go p e below _ T (mkF m 218 #[.val (.int p0), .val (.int p1), .val (.int p2), .val (.int p3), .val (.int p4), .val (.int p5), .val (.int (2 : Int32)), .val (.int sel), .val (.ref s0), .val (.ref s1), .val (.ref s2), .val (.ref qq), .val (.ref b2), .val (.int (0 : Int32)), .val (.int (1 : Int32)), .val (.int (1 : Int32)), .unset] [(.int (if aq_ = a0_ then 1 else 0))])
        rcases Decidable.em (aq_ = a0_) with re308 | re308
        · rw [if_pos re308]
          refine gifNo X hx 221 (hb hby at_218) rfl (by decide) ?_
          refine giconst X hx (0 : Int32) 222 (hb hby at_221) rfl rfl ?_
          refine gistore X hx #[.val (.int p0), .val (.int p1), .val (.int p2), .val (.int p3), .val (.int p4), .val (.int p5), .val (.int (2 : Int32)), .val (.int sel), .val (.ref s0), .val (.ref s1), .val (.ref s2), .val (.ref qq), .val (.ref b2), .val (.int (0 : Int32)), .val (.int (1 : Int32)), .val (.int (1 : Int32)), .val (.int (0 : Int32))] 224 (hb hby at_222) rfl rfl ?_
          refine ggoto X hx 276 (hb hby at_224) (by decide) (by decide) ?_
          refine gaload (v := (.ref b2)) X hx 278 (hb hby at_276) rfl rfl rfl ?_
          refine gaload (v := (.ref qq)) X hx 280 (hb hby at_278) rfl rfl rfl ?_
          obtain ⟨q309, hp310, hR311, ha312⟩ := own_found (i := 0) (ds := ([a0_] : List (List Int32))) I243 (by simp)
          have ne_u0_qq : u0 ≠ qq := Str.ne2 G236 P4_Str.exa (own_w6 hw)
          refine gvirtual (y := own_mNo) (z := own_mNo) (a := b2) (argsL := [(.ref qq)]) (st := []) X hx hZ hown (own_w89 hw) (own_w90 hw) (notFace_of_selects (args := #[]) (mvT hZ (own_w92 hw))) (own_w92 hw) (own_w91 hw) (by decide) A4 (payP (W := 0) (rmNo1 l Z a0 hw (qq) (uq) (aq_) ((own_r32.set q227.toNatClampNeg (1 : Int32))) (q309) (4) (b2) (ss_8) (sl_9) (ks_10) (ki_11) (G1) (s0) (u0) (a0_) h250 n0 (Nat.le_trans Z0 sz_h) ge_qq P0_Old A4 G237 G238 G239 G240 G241 G242 P4_Str P11_Fld P12_Fld G236 (O2) (P5) (I243) (by rw [re308]; exact hp310) (laq_) (ne_s0_qq) (ne_u0_qq) (hR311)) hZ (own_w93 hw) (own_w29 hw) (by decide) (by decide)) eT (by rw [hml]; rfl) (lenOf own_pd13 rfl) rfl (Nat.le_of_eq rfl) 27 100 rfl rfl (by decide) (by decide) 283 (hb hby at_280) rfl ?_
          clear X eT; clear T; intro v T h313 L2 Lc X eT hL hQ314
          obtain ⟨rfl, Nq, K315, G317⟩ := hQ314
          replace N : Fr n0 L2 := by rw [hL]; exact Fr.app N Nq
          clear Nq hL
          have ne_u2_qq : u2 ≠ qq := Str.ne2 P3_Str P4_Str.exa (own_w6 hw)
          have ne_u1_qq : u1 ≠ qq := Str.ne2 G254 P4_Str.exa (own_w6 hw)
          replace P0_Old := P0_Old.keep K315 (allS ge_qq all0)
          replace P3_Str := P3_Str.keep K315 (ninS ne_s2_qq nin0) (ninS ne_u2_qq nin0)
          replace P9_Fld := P9_Fld.keep K315 (ninS ne_s2_qq nin0)
          replace P10_Fld := P10_Fld.keep K315 (ninS ne_s2_qq nin0)
          replace A4 := A4.keep K315
          replace G236 := G236.keep K315 (ninS ne_s0_qq nin0) (ninS ne_u0_qq nin0)
          replace G237 := G237.keep K315 (ninS ne_b2_qq nin0)
          replace G238 := G238.keep K315 (ninS ne_b2_qq nin0)
          replace G239 := G239.keep K315 (ninS ne_b2_qq nin0)
          replace G240 := G240.keep K315 (ninS ne_b2_qq nin0)
          replace G241 := G241.keep K315 (ninS ne_ss_8_qq nin0)
          replace G242 := G242.keep K315 (ninS ne_sl_9_qq nin0)
          replace G254 := G254.keep K315 (ninS ne_s1_qq nin0) (ninS ne_u1_qq nin0)
          replace hk := Nat.le_trans hk K315.1
          replace sz_h : h0.size ≤ h313.size := Nat.le_trans sz_h K315.1
          rw [show own_at (own_r32.set q227.toNatClampNeg (1 : Int32)) q309 = (1 : Int32) from ha312]
          rw [show ((1 : Int32) - (1 : Int32)) = (0 : Int32) from by decide]
          show Go p e below _ T (mkF m 283 #[.val (.int p0), .val (.int p1), .val (.int p2), .val (.int p3), .val (.int p4), .val (.int p5), .val (.int (2 : Int32)), .val (.int sel), .val (.ref s0), .val (.ref s1), .val (.ref s2), .val (.ref qq), .val (.ref b2), .val (.int (0 : Int32)), .val (.int (1 : Int32)), .val (.int (1 : Int32)), .val (.int (0 : Int32))] [(.int (0 : Int32))])
          refine giload (v := (0 : Int32)) X hx 285 (hb hby at_283) rfl rfl ?_
          refine gicmpNo X hx 288 (hb hby at_285) rfl (by decide) ?_
          refine giconst X hx (1 : Int32) 289 (hb hby at_288) rfl rfl ?_
          refine ggoto X hx 293 (hb hby at_289) (by decide) (by decide) ?_
          exact gRetL X hx hlk hret rfl (Or.inl ⟨rfl, by simp, _, rfl⟩) (hb hby at_293) eT hS hk (by decide) (by decide) ⟨rfl, N⟩
        · rw [if_neg re308]
          refine gifYes X hx 227 (hb hby at_218) (by decide) (by decide) (by decide) ?_
          refine giload (v := (2 : Int32)) X hx 229 (hb hby at_227) rfl rfl ?_
          refine giconst X hx (2 : Int32) 230 (hb hby at_229) rfl rfl ?_
          refine gicmpNo X hx 233 (hb hby at_230) rfl (by decide) ?_
          refine gaload (v := (.ref qq)) X hx 235 (hb hby at_233) rfl rfl rfl ?_
          refine gaload (v := (.ref s1)) X hx 237 (hb hby at_235) rfl rfl rfl ?_
          refine gvirtual (y := own_mEq) (z := own_mEq) (a := qq) (argsL := [(.ref s1)]) (st := []) X hx hZ hown (own_w88 hw) (own_w80 hw) (notFace_of_selects (args := #[]) (mvT hZ (own_w82 hw))) (own_w82 hw) (own_w81 hw) (by decide) P4_Str.exa (payEq (W := 0) hZ hw P4_Str G254 (O2.ext P0_Old.2) P5 (by decide) (by decide)) eT (by rw [hml]; rfl) (lenOf own_pd12 rfl) rfl (Nat.le_of_eq rfl) 27 100 rfl rfl (by decide) (by decide) 240 (hb hby at_237) rfl ?_
          clear X eT; clear T; intro v T h318 L2 Lc X eT hL hQ319
          obtain ⟨rfl, rfl, hh⟩ := hQ319
          replace hh := hh.symm; subst hh
          replace N : Fr n0 L2 := by rw [hL]; exact Fr.app N (Fr.nil n0)
          clear hL
          show Go p e below _ T (mkF m 240 #[.val (.int p0), .val (.int p1), .val (.int p2), .val (.int p3), .val (.int p4), .val (.int p5), .val (.int (2 : Int32)), .val (.int sel), .val (.ref s0), .val (.ref s1), .val (.ref s2), .val (.ref qq), .val (.ref b2), .val (.int (0 : Int32)), .val (.int (1 : Int32)), .val (.int (1 : Int32)), .unset] [(.int (if aq_ = a1_ then 1 else 0))])
          have re320 : ¬ aq_ = a1_ := fun z => re308 (z.trans re244)
          rw [if_neg re320]
          refine gifYes X hx 250 (hb hby at_240) (by decide) (by decide) (by decide) ?_
          refine giload (v := (2 : Int32)) X hx 252 (hb hby at_250) rfl rfl ?_
          refine giconst X hx (3 : Int32) 253 (hb hby at_252) rfl rfl ?_
          refine gicmpYes X hx 273 (hb hby at_253) (by decide) (by decide) (by decide) ?_
          refine giconst X hx (-1 : Int32) 274 (hb hby at_273) rfl rfl ?_
          refine gistore X hx #[.val (.int p0), .val (.int p1), .val (.int p2), .val (.int p3), .val (.int p4), .val (.int p5), .val (.int (2 : Int32)), .val (.int sel), .val (.ref s0), .val (.ref s1), .val (.ref s2), .val (.ref qq), .val (.ref b2), .val (.int (0 : Int32)), .val (.int (1 : Int32)), .val (.int (1 : Int32)), .val (.int (-1 : Int32))] 276 (hb hby at_274) rfl rfl ?_
          refine gaload (v := (.ref b2)) X hx 278 (hb hby at_276) rfl rfl rfl ?_
          refine gaload (v := (.ref qq)) X hx 280 (hb hby at_278) rfl rfl rfl ?_
          obtain ⟨q321, hp322, hR323, ha324, -⟩ := own_miss (ds := ([a0_] : List (List Int32))) (cs := aq_) I243 (by simp [re308])
          have ne_u0_qq : u0 ≠ qq := Str.ne2 G236 P4_Str.exa (own_w6 hw)
          refine gvirtual (y := own_mNo) (z := own_mNo) (a := b2) (argsL := [(.ref qq)]) (st := []) X hx hZ hown (own_w89 hw) (own_w90 hw) (notFace_of_selects (args := #[]) (mvT hZ (own_w92 hw))) (own_w92 hw) (own_w91 hw) (by decide) A4 (payP (W := 0) (rmNo1 l Z a0 hw (qq) (uq) (aq_) ((own_r32.set q227.toNatClampNeg (1 : Int32))) (q321) (4) (b2) (ss_8) (sl_9) (ks_10) (ki_11) (G1) (s0) (u0) (a0_) h250 n0 (Nat.le_trans Z0 sz_h) ge_qq P0_Old A4 G237 G238 G239 G240 G241 G242 P4_Str P11_Fld P12_Fld G236 (O2) (P5) (I243) (hp322) (laq_) (ne_s0_qq) (ne_u0_qq) (hR323)) hZ (own_w93 hw) (own_w29 hw) (by decide) (by decide)) eT (by rw [hml]; rfl) (lenOf own_pd13 rfl) rfl (Nat.le_of_eq rfl) 27 100 rfl rfl (by decide) (by decide) 283 (hb hby at_280) rfl ?_
          clear X eT; clear T; intro v T h325 L2 Lc X eT hL hQ326
          obtain ⟨rfl, Nq, K327, G329⟩ := hQ326
          replace N : Fr n0 L2 := by rw [hL]; exact Fr.app N Nq
          clear Nq hL
          have ne_u2_qq : u2 ≠ qq := Str.ne2 P3_Str P4_Str.exa (own_w6 hw)
          have ne_u1_qq : u1 ≠ qq := Str.ne2 G254 P4_Str.exa (own_w6 hw)
          replace P0_Old := P0_Old.keep K327 (allS ge_qq all0)
          replace P3_Str := P3_Str.keep K327 (ninS ne_s2_qq nin0) (ninS ne_u2_qq nin0)
          replace P9_Fld := P9_Fld.keep K327 (ninS ne_s2_qq nin0)
          replace P10_Fld := P10_Fld.keep K327 (ninS ne_s2_qq nin0)
          replace A4 := A4.keep K327
          replace G236 := G236.keep K327 (ninS ne_s0_qq nin0) (ninS ne_u0_qq nin0)
          replace G237 := G237.keep K327 (ninS ne_b2_qq nin0)
          replace G238 := G238.keep K327 (ninS ne_b2_qq nin0)
          replace G239 := G239.keep K327 (ninS ne_b2_qq nin0)
          replace G240 := G240.keep K327 (ninS ne_b2_qq nin0)
          replace G241 := G241.keep K327 (ninS ne_ss_8_qq nin0)
          replace G242 := G242.keep K327 (ninS ne_sl_9_qq nin0)
          replace G254 := G254.keep K327 (ninS ne_s1_qq nin0) (ninS ne_u1_qq nin0)
          replace hk := Nat.le_trans hk K327.1
          replace sz_h : h0.size ≤ h325.size := Nat.le_trans sz_h K327.1
          rw [show own_at (own_r32.set q227.toNatClampNeg (1 : Int32)) q321 = (0 : Int32) from ha324]
          rw [show ((0 : Int32) - (1 : Int32)) = (-1 : Int32) from by decide]
          show Go p e below _ T (mkF m 283 #[.val (.int p0), .val (.int p1), .val (.int p2), .val (.int p3), .val (.int p4), .val (.int p5), .val (.int (2 : Int32)), .val (.int sel), .val (.ref s0), .val (.ref s1), .val (.ref s2), .val (.ref qq), .val (.ref b2), .val (.int (0 : Int32)), .val (.int (1 : Int32)), .val (.int (1 : Int32)), .val (.int (-1 : Int32))] [(.int (-1 : Int32))])
          refine giload (v := (-1 : Int32)) X hx 285 (hb hby at_283) rfl rfl ?_
          refine gicmpNo X hx 288 (hb hby at_285) rfl (by decide) ?_
          refine giconst X hx (1 : Int32) 289 (hb hby at_288) rfl rfl ?_
          refine ggoto X hx 293 (hb hby at_289) (by decide) (by decide) ?_
          exact gRetL X hx hlk hret rfl (Or.inl ⟨rfl, by simp, _, rfl⟩) (hb hby at_293) eT hS hk (by decide) (by decide) ⟨rfl, N⟩
    · obtain ⟨q255, hp256, hR257, ha258, hI259⟩ := own_miss (ds := ([a0_] : List (List Int32))) (cs := a1_) I243 (by simp [re244])
      have ne_u0_s1 : u0 ≠ s1 := Str.ne2 G236 P2_Str.exa (own_w6 hw)
      refine gvirtual (y := own_mAd) (z := own_mAd) (a := b2) (argsL := [(.ref s1)]) (st := []) X hx hZ hown (own_w48 hw) (own_w49 hw) (notFace_of_selects (args := #[]) (mvT hZ (own_w51 hw))) (own_w51 hw) (own_w50 hw) (by decide) A4 (payP (W := 0) (rmAd1 l Z a0 hw (s1) (u1) (a1_) ((own_r32.set q227.toNatClampNeg (1 : Int32))) (q255) (4) (b2) (ss_8) (sl_9) (ks_10) (ki_11) (G1) (s0) (u0) (a0_) h232 n0 (Nat.le_trans Z0 sz_h) ge_s1 ge_b2 ge_ss_8 ge_sl_9 P0_Old A4 G237 G238 G239 G240 G241 G242 P2_Str P7_Fld P8_Fld G236 (O2) (P5) (I243) (hp256) (la1_) (ne_s0_s1) (ne_u0_s1) (hR257) (ha258) (pp20) (ne_ss_8_sl_9) (ne_u0_sl_9) (ne_u1_sl_9)) hZ (own_w52 hw) (own_w29 hw) (by decide) (by decide)) eT (by rw [hml]; rfl) (lenOf own_pd13 rfl) rfl (Nat.le_of_eq rfl) 27 100 rfl rfl (by decide) (by decide) 119 (hb hby at_116) rfl ?_
      clear X eT; clear T; intro v T h260 L2 Lc X eT hL hQ261
      obtain ⟨rfl, Nq, K262, G264, G265, G266, G267, G268, G269, G270⟩ := hQ261
      replace N : Fr n0 L2 := by rw [hL]; exact Fr.app N Nq
      clear Nq hL
      have ne_u2_s1 : u2 ≠ s1 := Str.ne2 P3_Str P2_Str.exa (own_w6 hw)
      have ne_uq_s1 : uq ≠ s1 := Str.ne2 P4_Str P2_Str.exa (own_w6 hw)
      replace P0_Old := P0_Old.keep K262 (allS ge_s1 (allS ge_b2 (allS ge_ss_8 (allS ge_sl_9 all0))))
      replace P3_Str := P3_Str.keep K262 (ninS ne_s2_s1 (ninS ne_s2_b2 (ninS ne_s2_ss_8 (ninS ne_s2_sl_9 nin0)))) (ninS ne_u2_s1 (ninS ne_u2_b2 (ninS ne_u2_ss_8 (ninS ne_u2_sl_9 nin0))))
      replace P4_Str := P4_Str.keep K262 (ninS ne_qq_s1 (ninS ne_qq_b2 (ninS ne_qq_ss_8 (ninS ne_qq_sl_9 nin0)))) (ninS ne_uq_s1 (ninS ne_uq_b2 (ninS ne_uq_ss_8 (ninS ne_uq_sl_9 nin0))))
      replace P9_Fld := P9_Fld.keep K262 (ninS ne_s2_s1 (ninS ne_s2_b2 (ninS ne_s2_ss_8 (ninS ne_s2_sl_9 nin0))))
      replace P10_Fld := P10_Fld.keep K262 (ninS ne_s2_s1 (ninS ne_s2_b2 (ninS ne_s2_ss_8 (ninS ne_s2_sl_9 nin0))))
      replace P11_Fld := P11_Fld.keep K262 (ninS ne_qq_s1 (ninS ne_qq_b2 (ninS ne_qq_ss_8 (ninS ne_qq_sl_9 nin0))))
      replace P12_Fld := P12_Fld.keep K262 (ninS ne_qq_s1 (ninS ne_qq_b2 (ninS ne_qq_ss_8 (ninS ne_qq_sl_9 nin0))))
      replace A4 := A4.keep K262
      replace G236 := G236.keep K262 (ninS ne_s0_s1 (ninS ne_s0_b2 (ninS ne_s0_ss_8 (ninS ne_s0_sl_9 nin0)))) (ninS ne_u0_s1 (ninS ne_u0_b2 (ninS ne_u0_ss_8 (ninS ne_u0_sl_9 nin0))))
      replace hk := Nat.le_trans hk K262.1
      replace sz_h : h0.size ≤ h260.size := Nat.le_trans sz_h K262.1
      show Go p e below _ T (mkF m 119 #[.val (.int p0), .val (.int p1), .val (.int p2), .val (.int p3), .val (.int p4), .val (.int p5), .val (.int (2 : Int32)), .val (.int sel), .val (.ref s0), .val (.ref s1), .val (.ref s2), .val (.ref qq), .val (.ref b2), .unset, .unset, .unset, .unset] [(.int (1 : Int32))])
      have I271 : own_Inv ((own_r32.set q227.toNatClampNeg (1 : Int32)).set q255.toNatClampNeg (2 : Int32)) ([a0_, a1_] : List (List Int32)) := hI259 (by simp)
      refine gpop X hx 120 (hb hby at_119) rfl rfl ?_
      refine giload (v := (2 : Int32)) X hx 122 (hb hby at_120) rfl rfl ?_
      refine giconst X hx (3 : Int32) 123 (hb hby at_122) rfl rfl ?_
      refine gicmpYes X hx 134 (hb hby at_123) (by decide) (by decide) (by decide) ?_
      refine gaload (v := (.ref s1)) X hx 136 (hb hby at_134) rfl rfl rfl ?_
      refine gaload (v := (.ref s0)) X hx 138 (hb hby at_136) rfl rfl rfl ?_
      refine gvirtual (y := own_mEq) (z := own_mEq) (a := s1) (argsL := [(.ref s0)]) (st := []) X hx hZ hown (own_w88 hw) (own_w80 hw) (notFace_of_selects (args := #[]) (mvT hZ (own_w82 hw))) (own_w82 hw) (own_w81 hw) (by decide) G264.exa (payEq (W := 0) hZ hw G264 G236 (O2.ext P0_Old.2) P5 (by decide) (by decide)) eT (by rw [hml]; rfl) (lenOf own_pd12 rfl) rfl (Nat.le_of_eq rfl) 27 100 rfl rfl (by decide) (by decide) 141 (hb hby at_138) rfl ?_
      clear X eT; clear T; intro v T h330 L2 Lc X eT hL hQ331
      obtain ⟨rfl, rfl, hh⟩ := hQ331
      replace hh := hh.symm; subst hh
      replace N : Fr n0 L2 := by rw [hL]; exact Fr.app N (Fr.nil n0)
      clear hL
      show Go p e below _ T (mkF m 141 #[.val (.int p0), .val (.int p1), .val (.int p2), .val (.int p3), .val (.int p4), .val (.int p5), .val (.int (2 : Int32)), .val (.int sel), .val (.ref s0), .val (.ref s1), .val (.ref s2), .val (.ref qq), .val (.ref b2), .unset, .unset, .unset, .unset] [(.int (if a1_ = a0_ then 1 else 0))])
      rw [if_neg re244]
      refine gifYes X hx 148 (hb hby at_141) (by decide) (by decide) (by decide) ?_
      refine giconst X hx (1 : Int32) 149 (hb hby at_148) rfl rfl ?_
      refine gistore X hx #[.val (.int p0), .val (.int p1), .val (.int p2), .val (.int p3), .val (.int p4), .val (.int p5), .val (.int (2 : Int32)), .val (.int sel), .val (.ref s0), .val (.ref s1), .val (.ref s2), .val (.ref qq), .val (.ref b2), .val (.int (1 : Int32)), .unset, .unset, .unset] 151 (hb hby at_149) rfl rfl ?_
      refine gaload (v := (.ref s1)) X hx 153 (hb hby at_151) rfl rfl rfl ?_
      refine gaload (v := (.ref s0)) X hx 155 (hb hby at_153) rfl rfl rfl ?_
      refine gvirtual (y := own_mEq) (z := own_mEq) (a := s1) (argsL := [(.ref s0)]) (st := []) X hx hZ hown (own_w88 hw) (own_w80 hw) (notFace_of_selects (args := #[]) (mvT hZ (own_w82 hw))) (own_w82 hw) (own_w81 hw) (by decide) G264.exa (payEq (W := 0) hZ hw G264 G236 (O2.ext P0_Old.2) P5 (by decide) (by decide)) eT (by rw [hml]; rfl) (lenOf own_pd12 rfl) rfl (Nat.le_of_eq rfl) 27 100 rfl rfl (by decide) (by decide) 158 (hb hby at_155) rfl ?_
      clear X eT; clear T; intro v T h332 L2 Lc X eT hL hQ333
      obtain ⟨rfl, rfl, hh⟩ := hQ333
      replace hh := hh.symm; subst hh
      replace N : Fr n0 L2 := by rw [hL]; exact Fr.app N (Fr.nil n0)
      clear hL
      show Go p e below _ T (mkF m 158 #[.val (.int p0), .val (.int p1), .val (.int p2), .val (.int p3), .val (.int p4), .val (.int p5), .val (.int (2 : Int32)), .val (.int sel), .val (.ref s0), .val (.ref s1), .val (.ref s2), .val (.ref qq), .val (.ref b2), .val (.int (1 : Int32)), .unset, .unset, .unset] [(.int (if a1_ = a0_ then 1 else 0))])
      rw [if_neg re244]
      refine gifYes X hx 165 (hb hby at_158) (by decide) (by decide) (by decide) ?_
      refine giconst X hx (2 : Int32) 166 (hb hby at_165) rfl rfl ?_
      refine gistore X hx #[.val (.int p0), .val (.int p1), .val (.int p2), .val (.int p3), .val (.int p4), .val (.int p5), .val (.int (2 : Int32)), .val (.int sel), .val (.ref s0), .val (.ref s1), .val (.ref s2), .val (.ref qq), .val (.ref b2), .val (.int (1 : Int32)), .val (.int (2 : Int32)), .unset, .unset] 168 (hb hby at_166) rfl rfl ?_
      refine gaload (v := (.ref s2)) X hx 170 (hb hby at_168) rfl rfl rfl ?_
      refine gaload (v := (.ref s0)) X hx 172 (hb hby at_170) rfl rfl rfl ?_
      refine gvirtual (y := own_mEq) (z := own_mEq) (a := s2) (argsL := [(.ref s0)]) (st := []) X hx hZ hown (own_w88 hw) (own_w80 hw) (notFace_of_selects (args := #[]) (mvT hZ (own_w82 hw))) (own_w82 hw) (own_w81 hw) (by decide) P3_Str.exa (payEq (W := 0) hZ hw P3_Str G236 (O2.ext P0_Old.2) P5 (by decide) (by decide)) eT (by rw [hml]; rfl) (lenOf own_pd12 rfl) rfl (Nat.le_of_eq rfl) 27 100 rfl rfl (by decide) (by decide) 175 (hb hby at_172) rfl ?_
      clear X eT; clear T; intro v T h334 L2 Lc X eT hL hQ335
      obtain ⟨rfl, rfl, hh⟩ := hQ335
      replace hh := hh.symm; subst hh
      replace N : Fr n0 L2 := by rw [hL]; exact Fr.app N (Fr.nil n0)
      clear hL
      show Go p e below _ T (mkF m 175 #[.val (.int p0), .val (.int p1), .val (.int p2), .val (.int p3), .val (.int p4), .val (.int p5), .val (.int (2 : Int32)), .val (.int sel), .val (.ref s0), .val (.ref s1), .val (.ref s2), .val (.ref qq), .val (.ref b2), .val (.int (1 : Int32)), .val (.int (2 : Int32)), .unset, .unset] [(.int (if a2_ = a0_ then 1 else 0))])
      rcases Decidable.em (a2_ = a0_) with re336 | re336
      · rw [if_pos re336]
        refine gifNo X hx 178 (hb hby at_175) rfl (by decide) ?_
        refine giconst X hx (0 : Int32) 179 (hb hby at_178) rfl rfl ?_
        refine gistore X hx #[.val (.int p0), .val (.int p1), .val (.int p2), .val (.int p3), .val (.int p4), .val (.int p5), .val (.int (2 : Int32)), .val (.int sel), .val (.ref s0), .val (.ref s1), .val (.ref s2), .val (.ref qq), .val (.ref b2), .val (.int (1 : Int32)), .val (.int (2 : Int32)), .val (.int (0 : Int32)), .unset] 181 (hb hby at_179) rfl rfl ?_
        refine ggoto X hx 205 (hb hby at_181) (by decide) (by decide) ?_
        refine giload (v := (2 : Int32)) X hx 207 (hb hby at_205) rfl rfl ?_
        refine giconst X hx (1 : Int32) 208 (hb hby at_207) rfl rfl ?_
        refine gicmpNo X hx 211 (hb hby at_208) rfl (by decide) ?_
        refine gaload (v := (.ref qq)) X hx 213 (hb hby at_211) rfl rfl rfl ?_
        refine gaload (v := (.ref s0)) X hx 215 (hb hby at_213) rfl rfl rfl ?_
        refine gvirtual (y := own_mEq) (z := own_mEq) (a := qq) (argsL := [(.ref s0)]) (st := []) X hx hZ hown (own_w88 hw) (own_w80 hw) (notFace_of_selects (args := #[]) (mvT hZ (own_w82 hw))) (own_w82 hw) (own_w81 hw) (by decide) P4_Str.exa (payEq (W := 0) hZ hw P4_Str G236 (O2.ext P0_Old.2) P5 (by decide) (by decide)) eT (by rw [hml]; rfl) (lenOf own_pd12 rfl) rfl (Nat.le_of_eq rfl) 27 100 rfl rfl (by decide) (by decide) 218 (hb hby at_215) rfl ?_
        clear X eT; clear T; intro v T h337 L2 Lc X eT hL hQ338
        obtain ⟨rfl, rfl, hh⟩ := hQ338
        replace hh := hh.symm; subst hh
        replace N : Fr n0 L2 := by rw [hL]; exact Fr.app N (Fr.nil n0)
        clear hL
        show Go p e below _ T (mkF m 218 #[.val (.int p0), .val (.int p1), .val (.int p2), .val (.int p3), .val (.int p4), .val (.int p5), .val (.int (2 : Int32)), .val (.int sel), .val (.ref s0), .val (.ref s1), .val (.ref s2), .val (.ref qq), .val (.ref b2), .val (.int (1 : Int32)), .val (.int (2 : Int32)), .val (.int (0 : Int32)), .unset] [(.int (if aq_ = a0_ then 1 else 0))])
        rcases Decidable.em (aq_ = a0_) with re339 | re339
        · rw [if_pos re339]
          refine gifNo X hx 221 (hb hby at_218) rfl (by decide) ?_
          refine giconst X hx (0 : Int32) 222 (hb hby at_221) rfl rfl ?_
          refine gistore X hx #[.val (.int p0), .val (.int p1), .val (.int p2), .val (.int p3), .val (.int p4), .val (.int p5), .val (.int (2 : Int32)), .val (.int sel), .val (.ref s0), .val (.ref s1), .val (.ref s2), .val (.ref qq), .val (.ref b2), .val (.int (1 : Int32)), .val (.int (2 : Int32)), .val (.int (0 : Int32)), .val (.int (0 : Int32))] 224 (hb hby at_222) rfl rfl ?_
          refine ggoto X hx 276 (hb hby at_224) (by decide) (by decide) ?_
          refine gaload (v := (.ref b2)) X hx 278 (hb hby at_276) rfl rfl rfl ?_
          refine gaload (v := (.ref qq)) X hx 280 (hb hby at_278) rfl rfl rfl ?_
          obtain ⟨q340, hp341, hR342, ha343⟩ := own_found (i := 0) (ds := ([a0_, a1_] : List (List Int32))) I271 (by simp)
          have ne_u0_qq : u0 ≠ qq := Str.ne2 G236 P4_Str.exa (own_w6 hw)
          have ne_u1_qq : u1 ≠ qq := Str.ne2 G264 P4_Str.exa (own_w6 hw)
          refine gvirtual (y := own_mNo) (z := own_mNo) (a := b2) (argsL := [(.ref qq)]) (st := []) X hx hZ hown (own_w89 hw) (own_w90 hw) (notFace_of_selects (args := #[]) (mvT hZ (own_w92 hw))) (own_w92 hw) (own_w91 hw) (by decide) A4 (payP (W := 0) (rmNo2 l Z a0 hw (qq) (uq) (aq_) (((own_r32.set q227.toNatClampNeg (1 : Int32)).set q255.toNatClampNeg (2 : Int32))) (q340) (4) (b2) (ss_8) (sl_9) (ks_10) (ki_11) (G1) (s0) (s1) (u0) (u1) (a0_) (a1_) h260 n0 (Nat.le_trans Z0 sz_h) ge_qq P0_Old A4 G265 G266 G267 G268 G269 G270 P4_Str P11_Fld P12_Fld G236 G264 (O2) (P5) (I271) (by rw [re339]; exact hp341) (laq_) (ne_s0_qq) (ne_s1_qq) (ne_u0_qq) (ne_u1_qq) (hR342)) hZ (own_w93 hw) (own_w29 hw) (by decide) (by decide)) eT (by rw [hml]; rfl) (lenOf own_pd13 rfl) rfl (Nat.le_of_eq rfl) 27 100 rfl rfl (by decide) (by decide) 283 (hb hby at_280) rfl ?_
          clear X eT; clear T; intro v T h344 L2 Lc X eT hL hQ345
          obtain ⟨rfl, Nq, K346, G348⟩ := hQ345
          replace N : Fr n0 L2 := by rw [hL]; exact Fr.app N Nq
          clear Nq hL
          have ne_u2_qq : u2 ≠ qq := Str.ne2 P3_Str P4_Str.exa (own_w6 hw)
          replace P0_Old := P0_Old.keep K346 (allS ge_qq all0)
          replace P3_Str := P3_Str.keep K346 (ninS ne_s2_qq nin0) (ninS ne_u2_qq nin0)
          replace P9_Fld := P9_Fld.keep K346 (ninS ne_s2_qq nin0)
          replace P10_Fld := P10_Fld.keep K346 (ninS ne_s2_qq nin0)
          replace A4 := A4.keep K346
          replace G236 := G236.keep K346 (ninS ne_s0_qq nin0) (ninS ne_u0_qq nin0)
          replace G264 := G264.keep K346 (ninS ne_s1_qq nin0) (ninS ne_u1_qq nin0)
          replace G265 := G265.keep K346 (ninS ne_b2_qq nin0)
          replace G266 := G266.keep K346 (ninS ne_b2_qq nin0)
          replace G267 := G267.keep K346 (ninS ne_b2_qq nin0)
          replace G268 := G268.keep K346 (ninS ne_b2_qq nin0)
          replace G269 := G269.keep K346 (ninS ne_ss_8_qq nin0)
          replace G270 := G270.keep K346 (ninS ne_sl_9_qq nin0)
          replace hk := Nat.le_trans hk K346.1
          replace sz_h : h0.size ≤ h344.size := Nat.le_trans sz_h K346.1
          rw [show own_at ((own_r32.set q227.toNatClampNeg (1 : Int32)).set q255.toNatClampNeg (2 : Int32)) q340 = (1 : Int32) from ha343]
          rw [show ((1 : Int32) - (1 : Int32)) = (0 : Int32) from by decide]
          show Go p e below _ T (mkF m 283 #[.val (.int p0), .val (.int p1), .val (.int p2), .val (.int p3), .val (.int p4), .val (.int p5), .val (.int (2 : Int32)), .val (.int sel), .val (.ref s0), .val (.ref s1), .val (.ref s2), .val (.ref qq), .val (.ref b2), .val (.int (1 : Int32)), .val (.int (2 : Int32)), .val (.int (0 : Int32)), .val (.int (0 : Int32))] [(.int (0 : Int32))])
          refine giload (v := (0 : Int32)) X hx 285 (hb hby at_283) rfl rfl ?_
          refine gicmpNo X hx 288 (hb hby at_285) rfl (by decide) ?_
          refine giconst X hx (1 : Int32) 289 (hb hby at_288) rfl rfl ?_
          refine ggoto X hx 293 (hb hby at_289) (by decide) (by decide) ?_
          exact gRetL X hx hlk hret rfl (Or.inl ⟨rfl, by simp, _, rfl⟩) (hb hby at_293) eT hS hk (by decide) (by decide) ⟨rfl, N⟩
        · rw [if_neg re339]
          refine gifYes X hx 227 (hb hby at_218) (by decide) (by decide) (by decide) ?_
          refine giload (v := (2 : Int32)) X hx 229 (hb hby at_227) rfl rfl ?_
          refine giconst X hx (2 : Int32) 230 (hb hby at_229) rfl rfl ?_
          refine gicmpNo X hx 233 (hb hby at_230) rfl (by decide) ?_
          refine gaload (v := (.ref qq)) X hx 235 (hb hby at_233) rfl rfl rfl ?_
          refine gaload (v := (.ref s1)) X hx 237 (hb hby at_235) rfl rfl rfl ?_
          refine gvirtual (y := own_mEq) (z := own_mEq) (a := qq) (argsL := [(.ref s1)]) (st := []) X hx hZ hown (own_w88 hw) (own_w80 hw) (notFace_of_selects (args := #[]) (mvT hZ (own_w82 hw))) (own_w82 hw) (own_w81 hw) (by decide) P4_Str.exa (payEq (W := 0) hZ hw P4_Str G264 (O2.ext P0_Old.2) P5 (by decide) (by decide)) eT (by rw [hml]; rfl) (lenOf own_pd12 rfl) rfl (Nat.le_of_eq rfl) 27 100 rfl rfl (by decide) (by decide) 240 (hb hby at_237) rfl ?_
          clear X eT; clear T; intro v T h349 L2 Lc X eT hL hQ350
          obtain ⟨rfl, rfl, hh⟩ := hQ350
          replace hh := hh.symm; subst hh
          replace N : Fr n0 L2 := by rw [hL]; exact Fr.app N (Fr.nil n0)
          clear hL
          show Go p e below _ T (mkF m 240 #[.val (.int p0), .val (.int p1), .val (.int p2), .val (.int p3), .val (.int p4), .val (.int p5), .val (.int (2 : Int32)), .val (.int sel), .val (.ref s0), .val (.ref s1), .val (.ref s2), .val (.ref qq), .val (.ref b2), .val (.int (1 : Int32)), .val (.int (2 : Int32)), .val (.int (0 : Int32)), .unset] [(.int (if aq_ = a1_ then 1 else 0))])
          rcases Decidable.em (aq_ = a1_) with re351 | re351
          · rw [if_pos re351]
            refine gifNo X hx 243 (hb hby at_240) rfl (by decide) ?_
            refine giload (v := (1 : Int32)) X hx 245 (hb hby at_243) rfl rfl ?_
            refine gistore X hx #[.val (.int p0), .val (.int p1), .val (.int p2), .val (.int p3), .val (.int p4), .val (.int p5), .val (.int (2 : Int32)), .val (.int sel), .val (.ref s0), .val (.ref s1), .val (.ref s2), .val (.ref qq), .val (.ref b2), .val (.int (1 : Int32)), .val (.int (2 : Int32)), .val (.int (0 : Int32)), .val (.int (1 : Int32))] 247 (hb hby at_245) rfl rfl ?_
            refine ggoto X hx 276 (hb hby at_247) (by decide) (by decide) ?_
            refine gaload (v := (.ref b2)) X hx 278 (hb hby at_276) rfl rfl rfl ?_
            refine gaload (v := (.ref qq)) X hx 280 (hb hby at_278) rfl rfl rfl ?_
            obtain ⟨q352, hp353, hR354, ha355⟩ := own_found (i := 1) (ds := ([a0_, a1_] : List (List Int32))) I271 (by simp)
            have ne_u0_qq : u0 ≠ qq := Str.ne2 G236 P4_Str.exa (own_w6 hw)
            have ne_u1_qq : u1 ≠ qq := Str.ne2 G264 P4_Str.exa (own_w6 hw)
            refine gvirtual (y := own_mNo) (z := own_mNo) (a := b2) (argsL := [(.ref qq)]) (st := []) X hx hZ hown (own_w89 hw) (own_w90 hw) (notFace_of_selects (args := #[]) (mvT hZ (own_w92 hw))) (own_w92 hw) (own_w91 hw) (by decide) A4 (payP (W := 0) (rmNo2 l Z a0 hw (qq) (uq) (aq_) (((own_r32.set q227.toNatClampNeg (1 : Int32)).set q255.toNatClampNeg (2 : Int32))) (q352) (4) (b2) (ss_8) (sl_9) (ks_10) (ki_11) (G1) (s0) (s1) (u0) (u1) (a0_) (a1_) h260 n0 (Nat.le_trans Z0 sz_h) ge_qq P0_Old A4 G265 G266 G267 G268 G269 G270 P4_Str P11_Fld P12_Fld G236 G264 (O2) (P5) (I271) (by rw [re351]; exact hp353) (laq_) (ne_s0_qq) (ne_s1_qq) (ne_u0_qq) (ne_u1_qq) (hR354)) hZ (own_w93 hw) (own_w29 hw) (by decide) (by decide)) eT (by rw [hml]; rfl) (lenOf own_pd13 rfl) rfl (Nat.le_of_eq rfl) 27 100 rfl rfl (by decide) (by decide) 283 (hb hby at_280) rfl ?_
            clear X eT; clear T; intro v T h356 L2 Lc X eT hL hQ357
            obtain ⟨rfl, Nq, K358, G360⟩ := hQ357
            replace N : Fr n0 L2 := by rw [hL]; exact Fr.app N Nq
            clear Nq hL
            have ne_u2_qq : u2 ≠ qq := Str.ne2 P3_Str P4_Str.exa (own_w6 hw)
            replace P0_Old := P0_Old.keep K358 (allS ge_qq all0)
            replace P3_Str := P3_Str.keep K358 (ninS ne_s2_qq nin0) (ninS ne_u2_qq nin0)
            replace P9_Fld := P9_Fld.keep K358 (ninS ne_s2_qq nin0)
            replace P10_Fld := P10_Fld.keep K358 (ninS ne_s2_qq nin0)
            replace A4 := A4.keep K358
            replace G236 := G236.keep K358 (ninS ne_s0_qq nin0) (ninS ne_u0_qq nin0)
            replace G264 := G264.keep K358 (ninS ne_s1_qq nin0) (ninS ne_u1_qq nin0)
            replace G265 := G265.keep K358 (ninS ne_b2_qq nin0)
            replace G266 := G266.keep K358 (ninS ne_b2_qq nin0)
            replace G267 := G267.keep K358 (ninS ne_b2_qq nin0)
            replace G268 := G268.keep K358 (ninS ne_b2_qq nin0)
            replace G269 := G269.keep K358 (ninS ne_ss_8_qq nin0)
            replace G270 := G270.keep K358 (ninS ne_sl_9_qq nin0)
            replace hk := Nat.le_trans hk K358.1
            replace sz_h : h0.size ≤ h356.size := Nat.le_trans sz_h K358.1
            rw [show own_at ((own_r32.set q227.toNatClampNeg (1 : Int32)).set q255.toNatClampNeg (2 : Int32)) q352 = (2 : Int32) from ha355]
            rw [show ((2 : Int32) - (1 : Int32)) = (1 : Int32) from by decide]
            show Go p e below _ T (mkF m 283 #[.val (.int p0), .val (.int p1), .val (.int p2), .val (.int p3), .val (.int p4), .val (.int p5), .val (.int (2 : Int32)), .val (.int sel), .val (.ref s0), .val (.ref s1), .val (.ref s2), .val (.ref qq), .val (.ref b2), .val (.int (1 : Int32)), .val (.int (2 : Int32)), .val (.int (0 : Int32)), .val (.int (1 : Int32))] [(.int (1 : Int32))])
            refine giload (v := (1 : Int32)) X hx 285 (hb hby at_283) rfl rfl ?_
            refine gicmpNo X hx 288 (hb hby at_285) rfl (by decide) ?_
            refine giconst X hx (1 : Int32) 289 (hb hby at_288) rfl rfl ?_
            refine ggoto X hx 293 (hb hby at_289) (by decide) (by decide) ?_
            exact gRetL X hx hlk hret rfl (Or.inl ⟨rfl, by simp, _, rfl⟩) (hb hby at_293) eT hS hk (by decide) (by decide) ⟨rfl, N⟩
          · rw [if_neg re351]
            refine gifYes X hx 250 (hb hby at_240) (by decide) (by decide) (by decide) ?_
            refine giload (v := (2 : Int32)) X hx 252 (hb hby at_250) rfl rfl ?_
            refine giconst X hx (3 : Int32) 253 (hb hby at_252) rfl rfl ?_
            refine gicmpYes X hx 273 (hb hby at_253) (by decide) (by decide) (by decide) ?_
            refine giconst X hx (-1 : Int32) 274 (hb hby at_273) rfl rfl ?_
            refine gistore X hx #[.val (.int p0), .val (.int p1), .val (.int p2), .val (.int p3), .val (.int p4), .val (.int p5), .val (.int (2 : Int32)), .val (.int sel), .val (.ref s0), .val (.ref s1), .val (.ref s2), .val (.ref qq), .val (.ref b2), .val (.int (1 : Int32)), .val (.int (2 : Int32)), .val (.int (0 : Int32)), .val (.int (-1 : Int32))] 276 (hb hby at_274) rfl rfl ?_
            refine gaload (v := (.ref b2)) X hx 278 (hb hby at_276) rfl rfl rfl ?_
            refine gaload (v := (.ref qq)) X hx 280 (hb hby at_278) rfl rfl rfl ?_
            obtain ⟨q361, hp362, hR363, ha364, -⟩ := own_miss (ds := ([a0_, a1_] : List (List Int32))) (cs := aq_) I271 (by simp [re339, re351])
            have ne_u0_qq : u0 ≠ qq := Str.ne2 G236 P4_Str.exa (own_w6 hw)
            have ne_u1_qq : u1 ≠ qq := Str.ne2 G264 P4_Str.exa (own_w6 hw)
            refine gvirtual (y := own_mNo) (z := own_mNo) (a := b2) (argsL := [(.ref qq)]) (st := []) X hx hZ hown (own_w89 hw) (own_w90 hw) (notFace_of_selects (args := #[]) (mvT hZ (own_w92 hw))) (own_w92 hw) (own_w91 hw) (by decide) A4 (payP (W := 0) (rmNo2 l Z a0 hw (qq) (uq) (aq_) (((own_r32.set q227.toNatClampNeg (1 : Int32)).set q255.toNatClampNeg (2 : Int32))) (q361) (4) (b2) (ss_8) (sl_9) (ks_10) (ki_11) (G1) (s0) (s1) (u0) (u1) (a0_) (a1_) h260 n0 (Nat.le_trans Z0 sz_h) ge_qq P0_Old A4 G265 G266 G267 G268 G269 G270 P4_Str P11_Fld P12_Fld G236 G264 (O2) (P5) (I271) (hp362) (laq_) (ne_s0_qq) (ne_s1_qq) (ne_u0_qq) (ne_u1_qq) (hR363)) hZ (own_w93 hw) (own_w29 hw) (by decide) (by decide)) eT (by rw [hml]; rfl) (lenOf own_pd13 rfl) rfl (Nat.le_of_eq rfl) 27 100 rfl rfl (by decide) (by decide) 283 (hb hby at_280) rfl ?_
            clear X eT; clear T; intro v T h365 L2 Lc X eT hL hQ366
            obtain ⟨rfl, Nq, K367, G369⟩ := hQ366
            replace N : Fr n0 L2 := by rw [hL]; exact Fr.app N Nq
            clear Nq hL
            have ne_u2_qq : u2 ≠ qq := Str.ne2 P3_Str P4_Str.exa (own_w6 hw)
            replace P0_Old := P0_Old.keep K367 (allS ge_qq all0)
            replace P3_Str := P3_Str.keep K367 (ninS ne_s2_qq nin0) (ninS ne_u2_qq nin0)
            replace P9_Fld := P9_Fld.keep K367 (ninS ne_s2_qq nin0)
            replace P10_Fld := P10_Fld.keep K367 (ninS ne_s2_qq nin0)
            replace A4 := A4.keep K367
            replace G236 := G236.keep K367 (ninS ne_s0_qq nin0) (ninS ne_u0_qq nin0)
            replace G264 := G264.keep K367 (ninS ne_s1_qq nin0) (ninS ne_u1_qq nin0)
            replace G265 := G265.keep K367 (ninS ne_b2_qq nin0)
            replace G266 := G266.keep K367 (ninS ne_b2_qq nin0)
            replace G267 := G267.keep K367 (ninS ne_b2_qq nin0)
            replace G268 := G268.keep K367 (ninS ne_b2_qq nin0)
            replace G269 := G269.keep K367 (ninS ne_ss_8_qq nin0)
            replace G270 := G270.keep K367 (ninS ne_sl_9_qq nin0)
            replace hk := Nat.le_trans hk K367.1
            replace sz_h : h0.size ≤ h365.size := Nat.le_trans sz_h K367.1
            rw [show own_at ((own_r32.set q227.toNatClampNeg (1 : Int32)).set q255.toNatClampNeg (2 : Int32)) q361 = (0 : Int32) from ha364]
            rw [show ((0 : Int32) - (1 : Int32)) = (-1 : Int32) from by decide]
            show Go p e below _ T (mkF m 283 #[.val (.int p0), .val (.int p1), .val (.int p2), .val (.int p3), .val (.int p4), .val (.int p5), .val (.int (2 : Int32)), .val (.int sel), .val (.ref s0), .val (.ref s1), .val (.ref s2), .val (.ref qq), .val (.ref b2), .val (.int (1 : Int32)), .val (.int (2 : Int32)), .val (.int (0 : Int32)), .val (.int (-1 : Int32))] [(.int (-1 : Int32))])
            refine giload (v := (-1 : Int32)) X hx 285 (hb hby at_283) rfl rfl ?_
            refine gicmpNo X hx 288 (hb hby at_285) rfl (by decide) ?_
            refine giconst X hx (1 : Int32) 289 (hb hby at_288) rfl rfl ?_
            refine ggoto X hx 293 (hb hby at_289) (by decide) (by decide) ?_
            exact gRetL X hx hlk hret rfl (Or.inl ⟨rfl, by simp, _, rfl⟩) (hb hby at_293) eT hS hk (by decide) (by decide) ⟨rfl, N⟩
      · rw [if_neg re336]
        refine gifYes X hx 184 (hb hby at_175) (by decide) (by decide) (by decide) ?_
        refine gaload (v := (.ref s2)) X hx 186 (hb hby at_184) rfl rfl rfl ?_
        refine gaload (v := (.ref s1)) X hx 188 (hb hby at_186) rfl rfl rfl ?_
        refine gvirtual (y := own_mEq) (z := own_mEq) (a := s2) (argsL := [(.ref s1)]) (st := []) X hx hZ hown (own_w88 hw) (own_w80 hw) (notFace_of_selects (args := #[]) (mvT hZ (own_w82 hw))) (own_w82 hw) (own_w81 hw) (by decide) P3_Str.exa (payEq (W := 0) hZ hw P3_Str G264 (O2.ext P0_Old.2) P5 (by decide) (by decide)) eT (by rw [hml]; rfl) (lenOf own_pd12 rfl) rfl (Nat.le_of_eq rfl) 27 100 rfl rfl (by decide) (by decide) 191 (hb hby at_188) rfl ?_
        clear X eT; clear T; intro v T h370 L2 Lc X eT hL hQ371
        obtain ⟨rfl, rfl, hh⟩ := hQ371
        replace hh := hh.symm; subst hh
        replace N : Fr n0 L2 := by rw [hL]; exact Fr.app N (Fr.nil n0)
        clear hL
        show Go p e below _ T (mkF m 191 #[.val (.int p0), .val (.int p1), .val (.int p2), .val (.int p3), .val (.int p4), .val (.int p5), .val (.int (2 : Int32)), .val (.int sel), .val (.ref s0), .val (.ref s1), .val (.ref s2), .val (.ref qq), .val (.ref b2), .val (.int (1 : Int32)), .val (.int (2 : Int32)), .unset, .unset] [(.int (if a2_ = a1_ then 1 else 0))])
        rcases Decidable.em (a2_ = a1_) with re372 | re372
        · rw [if_pos re372]
          refine gifNo X hx 194 (hb hby at_191) rfl (by decide) ?_
          refine giload (v := (1 : Int32)) X hx 196 (hb hby at_194) rfl rfl ?_
          refine gistore X hx #[.val (.int p0), .val (.int p1), .val (.int p2), .val (.int p3), .val (.int p4), .val (.int p5), .val (.int (2 : Int32)), .val (.int sel), .val (.ref s0), .val (.ref s1), .val (.ref s2), .val (.ref qq), .val (.ref b2), .val (.int (1 : Int32)), .val (.int (2 : Int32)), .val (.int (1 : Int32)), .unset] 198 (hb hby at_196) rfl rfl ?_
          refine ggoto X hx 205 (hb hby at_198) (by decide) (by decide) ?_
          refine giload (v := (2 : Int32)) X hx 207 (hb hby at_205) rfl rfl ?_
          refine giconst X hx (1 : Int32) 208 (hb hby at_207) rfl rfl ?_
          refine gicmpNo X hx 211 (hb hby at_208) rfl (by decide) ?_
          refine gaload (v := (.ref qq)) X hx 213 (hb hby at_211) rfl rfl rfl ?_
          refine gaload (v := (.ref s0)) X hx 215 (hb hby at_213) rfl rfl rfl ?_
          refine gvirtual (y := own_mEq) (z := own_mEq) (a := qq) (argsL := [(.ref s0)]) (st := []) X hx hZ hown (own_w88 hw) (own_w80 hw) (notFace_of_selects (args := #[]) (mvT hZ (own_w82 hw))) (own_w82 hw) (own_w81 hw) (by decide) P4_Str.exa (payEq (W := 0) hZ hw P4_Str G236 (O2.ext P0_Old.2) P5 (by decide) (by decide)) eT (by rw [hml]; rfl) (lenOf own_pd12 rfl) rfl (Nat.le_of_eq rfl) 27 100 rfl rfl (by decide) (by decide) 218 (hb hby at_215) rfl ?_
          clear X eT; clear T; intro v T h373 L2 Lc X eT hL hQ374
          obtain ⟨rfl, rfl, hh⟩ := hQ374
          replace hh := hh.symm; subst hh
          replace N : Fr n0 L2 := by rw [hL]; exact Fr.app N (Fr.nil n0)
          clear hL
          show Go p e below _ T (mkF m 218 #[.val (.int p0), .val (.int p1), .val (.int p2), .val (.int p3), .val (.int p4), .val (.int p5), .val (.int (2 : Int32)), .val (.int sel), .val (.ref s0), .val (.ref s1), .val (.ref s2), .val (.ref qq), .val (.ref b2), .val (.int (1 : Int32)), .val (.int (2 : Int32)), .val (.int (1 : Int32)), .unset] [(.int (if aq_ = a0_ then 1 else 0))])
          rcases Decidable.em (aq_ = a0_) with re375 | re375
          · rw [if_pos re375]
            refine gifNo X hx 221 (hb hby at_218) rfl (by decide) ?_
            refine giconst X hx (0 : Int32) 222 (hb hby at_221) rfl rfl ?_
            refine gistore X hx #[.val (.int p0), .val (.int p1), .val (.int p2), .val (.int p3), .val (.int p4), .val (.int p5), .val (.int (2 : Int32)), .val (.int sel), .val (.ref s0), .val (.ref s1), .val (.ref s2), .val (.ref qq), .val (.ref b2), .val (.int (1 : Int32)), .val (.int (2 : Int32)), .val (.int (1 : Int32)), .val (.int (0 : Int32))] 224 (hb hby at_222) rfl rfl ?_
            refine ggoto X hx 276 (hb hby at_224) (by decide) (by decide) ?_
            refine gaload (v := (.ref b2)) X hx 278 (hb hby at_276) rfl rfl rfl ?_
            refine gaload (v := (.ref qq)) X hx 280 (hb hby at_278) rfl rfl rfl ?_
            obtain ⟨q376, hp377, hR378, ha379⟩ := own_found (i := 0) (ds := ([a0_, a1_] : List (List Int32))) I271 (by simp)
            have ne_u0_qq : u0 ≠ qq := Str.ne2 G236 P4_Str.exa (own_w6 hw)
            have ne_u1_qq : u1 ≠ qq := Str.ne2 G264 P4_Str.exa (own_w6 hw)
            refine gvirtual (y := own_mNo) (z := own_mNo) (a := b2) (argsL := [(.ref qq)]) (st := []) X hx hZ hown (own_w89 hw) (own_w90 hw) (notFace_of_selects (args := #[]) (mvT hZ (own_w92 hw))) (own_w92 hw) (own_w91 hw) (by decide) A4 (payP (W := 0) (rmNo2 l Z a0 hw (qq) (uq) (aq_) (((own_r32.set q227.toNatClampNeg (1 : Int32)).set q255.toNatClampNeg (2 : Int32))) (q376) (4) (b2) (ss_8) (sl_9) (ks_10) (ki_11) (G1) (s0) (s1) (u0) (u1) (a0_) (a1_) h260 n0 (Nat.le_trans Z0 sz_h) ge_qq P0_Old A4 G265 G266 G267 G268 G269 G270 P4_Str P11_Fld P12_Fld G236 G264 (O2) (P5) (I271) (by rw [re375]; exact hp377) (laq_) (ne_s0_qq) (ne_s1_qq) (ne_u0_qq) (ne_u1_qq) (hR378)) hZ (own_w93 hw) (own_w29 hw) (by decide) (by decide)) eT (by rw [hml]; rfl) (lenOf own_pd13 rfl) rfl (Nat.le_of_eq rfl) 27 100 rfl rfl (by decide) (by decide) 283 (hb hby at_280) rfl ?_
            clear X eT; clear T; intro v T h380 L2 Lc X eT hL hQ381
            obtain ⟨rfl, Nq, K382, G384⟩ := hQ381
            replace N : Fr n0 L2 := by rw [hL]; exact Fr.app N Nq
            clear Nq hL
            have ne_u2_qq : u2 ≠ qq := Str.ne2 P3_Str P4_Str.exa (own_w6 hw)
            replace P0_Old := P0_Old.keep K382 (allS ge_qq all0)
            replace P3_Str := P3_Str.keep K382 (ninS ne_s2_qq nin0) (ninS ne_u2_qq nin0)
            replace P9_Fld := P9_Fld.keep K382 (ninS ne_s2_qq nin0)
            replace P10_Fld := P10_Fld.keep K382 (ninS ne_s2_qq nin0)
            replace A4 := A4.keep K382
            replace G236 := G236.keep K382 (ninS ne_s0_qq nin0) (ninS ne_u0_qq nin0)
            replace G264 := G264.keep K382 (ninS ne_s1_qq nin0) (ninS ne_u1_qq nin0)
            replace G265 := G265.keep K382 (ninS ne_b2_qq nin0)
            replace G266 := G266.keep K382 (ninS ne_b2_qq nin0)
            replace G267 := G267.keep K382 (ninS ne_b2_qq nin0)
            replace G268 := G268.keep K382 (ninS ne_b2_qq nin0)
            replace G269 := G269.keep K382 (ninS ne_ss_8_qq nin0)
            replace G270 := G270.keep K382 (ninS ne_sl_9_qq nin0)
            replace hk := Nat.le_trans hk K382.1
            replace sz_h : h0.size ≤ h380.size := Nat.le_trans sz_h K382.1
            rw [show own_at ((own_r32.set q227.toNatClampNeg (1 : Int32)).set q255.toNatClampNeg (2 : Int32)) q376 = (1 : Int32) from ha379]
            rw [show ((1 : Int32) - (1 : Int32)) = (0 : Int32) from by decide]
            show Go p e below _ T (mkF m 283 #[.val (.int p0), .val (.int p1), .val (.int p2), .val (.int p3), .val (.int p4), .val (.int p5), .val (.int (2 : Int32)), .val (.int sel), .val (.ref s0), .val (.ref s1), .val (.ref s2), .val (.ref qq), .val (.ref b2), .val (.int (1 : Int32)), .val (.int (2 : Int32)), .val (.int (1 : Int32)), .val (.int (0 : Int32))] [(.int (0 : Int32))])
            refine giload (v := (0 : Int32)) X hx 285 (hb hby at_283) rfl rfl ?_
            refine gicmpNo X hx 288 (hb hby at_285) rfl (by decide) ?_
            refine giconst X hx (1 : Int32) 289 (hb hby at_288) rfl rfl ?_
            refine ggoto X hx 293 (hb hby at_289) (by decide) (by decide) ?_
            exact gRetL X hx hlk hret rfl (Or.inl ⟨rfl, by simp, _, rfl⟩) (hb hby at_293) eT hS hk (by decide) (by decide) ⟨rfl, N⟩
          · rw [if_neg re375]
            refine gifYes X hx 227 (hb hby at_218) (by decide) (by decide) (by decide) ?_
            refine giload (v := (2 : Int32)) X hx 229 (hb hby at_227) rfl rfl ?_
            refine giconst X hx (2 : Int32) 230 (hb hby at_229) rfl rfl ?_
            refine gicmpNo X hx 233 (hb hby at_230) rfl (by decide) ?_
            refine gaload (v := (.ref qq)) X hx 235 (hb hby at_233) rfl rfl rfl ?_
            refine gaload (v := (.ref s1)) X hx 237 (hb hby at_235) rfl rfl rfl ?_
            refine gvirtual (y := own_mEq) (z := own_mEq) (a := qq) (argsL := [(.ref s1)]) (st := []) X hx hZ hown (own_w88 hw) (own_w80 hw) (notFace_of_selects (args := #[]) (mvT hZ (own_w82 hw))) (own_w82 hw) (own_w81 hw) (by decide) P4_Str.exa (payEq (W := 0) hZ hw P4_Str G264 (O2.ext P0_Old.2) P5 (by decide) (by decide)) eT (by rw [hml]; rfl) (lenOf own_pd12 rfl) rfl (Nat.le_of_eq rfl) 27 100 rfl rfl (by decide) (by decide) 240 (hb hby at_237) rfl ?_
            clear X eT; clear T; intro v T h385 L2 Lc X eT hL hQ386
            obtain ⟨rfl, rfl, hh⟩ := hQ386
            replace hh := hh.symm; subst hh
            replace N : Fr n0 L2 := by rw [hL]; exact Fr.app N (Fr.nil n0)
            clear hL
            show Go p e below _ T (mkF m 240 #[.val (.int p0), .val (.int p1), .val (.int p2), .val (.int p3), .val (.int p4), .val (.int p5), .val (.int (2 : Int32)), .val (.int sel), .val (.ref s0), .val (.ref s1), .val (.ref s2), .val (.ref qq), .val (.ref b2), .val (.int (1 : Int32)), .val (.int (2 : Int32)), .val (.int (1 : Int32)), .unset] [(.int (if aq_ = a1_ then 1 else 0))])
            rcases Decidable.em (aq_ = a1_) with re387 | re387
            · rw [if_pos re387]
              refine gifNo X hx 243 (hb hby at_240) rfl (by decide) ?_
              refine giload (v := (1 : Int32)) X hx 245 (hb hby at_243) rfl rfl ?_
              refine gistore X hx #[.val (.int p0), .val (.int p1), .val (.int p2), .val (.int p3), .val (.int p4), .val (.int p5), .val (.int (2 : Int32)), .val (.int sel), .val (.ref s0), .val (.ref s1), .val (.ref s2), .val (.ref qq), .val (.ref b2), .val (.int (1 : Int32)), .val (.int (2 : Int32)), .val (.int (1 : Int32)), .val (.int (1 : Int32))] 247 (hb hby at_245) rfl rfl ?_
              refine ggoto X hx 276 (hb hby at_247) (by decide) (by decide) ?_
              refine gaload (v := (.ref b2)) X hx 278 (hb hby at_276) rfl rfl rfl ?_
              refine gaload (v := (.ref qq)) X hx 280 (hb hby at_278) rfl rfl rfl ?_
              obtain ⟨q388, hp389, hR390, ha391⟩ := own_found (i := 1) (ds := ([a0_, a1_] : List (List Int32))) I271 (by simp)
              have ne_u0_qq : u0 ≠ qq := Str.ne2 G236 P4_Str.exa (own_w6 hw)
              have ne_u1_qq : u1 ≠ qq := Str.ne2 G264 P4_Str.exa (own_w6 hw)
              refine gvirtual (y := own_mNo) (z := own_mNo) (a := b2) (argsL := [(.ref qq)]) (st := []) X hx hZ hown (own_w89 hw) (own_w90 hw) (notFace_of_selects (args := #[]) (mvT hZ (own_w92 hw))) (own_w92 hw) (own_w91 hw) (by decide) A4 (payP (W := 0) (rmNo2 l Z a0 hw (qq) (uq) (aq_) (((own_r32.set q227.toNatClampNeg (1 : Int32)).set q255.toNatClampNeg (2 : Int32))) (q388) (4) (b2) (ss_8) (sl_9) (ks_10) (ki_11) (G1) (s0) (s1) (u0) (u1) (a0_) (a1_) h260 n0 (Nat.le_trans Z0 sz_h) ge_qq P0_Old A4 G265 G266 G267 G268 G269 G270 P4_Str P11_Fld P12_Fld G236 G264 (O2) (P5) (I271) (by rw [re387]; exact hp389) (laq_) (ne_s0_qq) (ne_s1_qq) (ne_u0_qq) (ne_u1_qq) (hR390)) hZ (own_w93 hw) (own_w29 hw) (by decide) (by decide)) eT (by rw [hml]; rfl) (lenOf own_pd13 rfl) rfl (Nat.le_of_eq rfl) 27 100 rfl rfl (by decide) (by decide) 283 (hb hby at_280) rfl ?_
              clear X eT; clear T; intro v T h392 L2 Lc X eT hL hQ393
              obtain ⟨rfl, Nq, K394, G396⟩ := hQ393
              replace N : Fr n0 L2 := by rw [hL]; exact Fr.app N Nq
              clear Nq hL
              have ne_u2_qq : u2 ≠ qq := Str.ne2 P3_Str P4_Str.exa (own_w6 hw)
              replace P0_Old := P0_Old.keep K394 (allS ge_qq all0)
              replace P3_Str := P3_Str.keep K394 (ninS ne_s2_qq nin0) (ninS ne_u2_qq nin0)
              replace P9_Fld := P9_Fld.keep K394 (ninS ne_s2_qq nin0)
              replace P10_Fld := P10_Fld.keep K394 (ninS ne_s2_qq nin0)
              replace A4 := A4.keep K394
              replace G236 := G236.keep K394 (ninS ne_s0_qq nin0) (ninS ne_u0_qq nin0)
              replace G264 := G264.keep K394 (ninS ne_s1_qq nin0) (ninS ne_u1_qq nin0)
              replace G265 := G265.keep K394 (ninS ne_b2_qq nin0)
              replace G266 := G266.keep K394 (ninS ne_b2_qq nin0)
              replace G267 := G267.keep K394 (ninS ne_b2_qq nin0)
              replace G268 := G268.keep K394 (ninS ne_b2_qq nin0)
              replace G269 := G269.keep K394 (ninS ne_ss_8_qq nin0)
              replace G270 := G270.keep K394 (ninS ne_sl_9_qq nin0)
              replace hk := Nat.le_trans hk K394.1
              replace sz_h : h0.size ≤ h392.size := Nat.le_trans sz_h K394.1
              rw [show own_at ((own_r32.set q227.toNatClampNeg (1 : Int32)).set q255.toNatClampNeg (2 : Int32)) q388 = (2 : Int32) from ha391]
              rw [show ((2 : Int32) - (1 : Int32)) = (1 : Int32) from by decide]
              show Go p e below _ T (mkF m 283 #[.val (.int p0), .val (.int p1), .val (.int p2), .val (.int p3), .val (.int p4), .val (.int p5), .val (.int (2 : Int32)), .val (.int sel), .val (.ref s0), .val (.ref s1), .val (.ref s2), .val (.ref qq), .val (.ref b2), .val (.int (1 : Int32)), .val (.int (2 : Int32)), .val (.int (1 : Int32)), .val (.int (1 : Int32))] [(.int (1 : Int32))])
              refine giload (v := (1 : Int32)) X hx 285 (hb hby at_283) rfl rfl ?_
              refine gicmpNo X hx 288 (hb hby at_285) rfl (by decide) ?_
              refine giconst X hx (1 : Int32) 289 (hb hby at_288) rfl rfl ?_
              refine ggoto X hx 293 (hb hby at_289) (by decide) (by decide) ?_
              exact gRetL X hx hlk hret rfl (Or.inl ⟨rfl, by simp, _, rfl⟩) (hb hby at_293) eT hS hk (by decide) (by decide) ⟨rfl, N⟩
            · rw [if_neg re387]
              refine gifYes X hx 250 (hb hby at_240) (by decide) (by decide) (by decide) ?_
              refine giload (v := (2 : Int32)) X hx 252 (hb hby at_250) rfl rfl ?_
              refine giconst X hx (3 : Int32) 253 (hb hby at_252) rfl rfl ?_
              refine gicmpYes X hx 273 (hb hby at_253) (by decide) (by decide) (by decide) ?_
              refine giconst X hx (-1 : Int32) 274 (hb hby at_273) rfl rfl ?_
              refine gistore X hx #[.val (.int p0), .val (.int p1), .val (.int p2), .val (.int p3), .val (.int p4), .val (.int p5), .val (.int (2 : Int32)), .val (.int sel), .val (.ref s0), .val (.ref s1), .val (.ref s2), .val (.ref qq), .val (.ref b2), .val (.int (1 : Int32)), .val (.int (2 : Int32)), .val (.int (1 : Int32)), .val (.int (-1 : Int32))] 276 (hb hby at_274) rfl rfl ?_
              refine gaload (v := (.ref b2)) X hx 278 (hb hby at_276) rfl rfl rfl ?_
              refine gaload (v := (.ref qq)) X hx 280 (hb hby at_278) rfl rfl rfl ?_
              obtain ⟨q397, hp398, hR399, ha400, -⟩ := own_miss (ds := ([a0_, a1_] : List (List Int32))) (cs := aq_) I271 (by simp [re375, re387])
              have ne_u0_qq : u0 ≠ qq := Str.ne2 G236 P4_Str.exa (own_w6 hw)
              have ne_u1_qq : u1 ≠ qq := Str.ne2 G264 P4_Str.exa (own_w6 hw)
              refine gvirtual (y := own_mNo) (z := own_mNo) (a := b2) (argsL := [(.ref qq)]) (st := []) X hx hZ hown (own_w89 hw) (own_w90 hw) (notFace_of_selects (args := #[]) (mvT hZ (own_w92 hw))) (own_w92 hw) (own_w91 hw) (by decide) A4 (payP (W := 0) (rmNo2 l Z a0 hw (qq) (uq) (aq_) (((own_r32.set q227.toNatClampNeg (1 : Int32)).set q255.toNatClampNeg (2 : Int32))) (q397) (4) (b2) (ss_8) (sl_9) (ks_10) (ki_11) (G1) (s0) (s1) (u0) (u1) (a0_) (a1_) h260 n0 (Nat.le_trans Z0 sz_h) ge_qq P0_Old A4 G265 G266 G267 G268 G269 G270 P4_Str P11_Fld P12_Fld G236 G264 (O2) (P5) (I271) (hp398) (laq_) (ne_s0_qq) (ne_s1_qq) (ne_u0_qq) (ne_u1_qq) (hR399)) hZ (own_w93 hw) (own_w29 hw) (by decide) (by decide)) eT (by rw [hml]; rfl) (lenOf own_pd13 rfl) rfl (Nat.le_of_eq rfl) 27 100 rfl rfl (by decide) (by decide) 283 (hb hby at_280) rfl ?_
              clear X eT; clear T; intro v T h401 L2 Lc X eT hL hQ402
              obtain ⟨rfl, Nq, K403, G405⟩ := hQ402
              replace N : Fr n0 L2 := by rw [hL]; exact Fr.app N Nq
              clear Nq hL
              have ne_u2_qq : u2 ≠ qq := Str.ne2 P3_Str P4_Str.exa (own_w6 hw)
              replace P0_Old := P0_Old.keep K403 (allS ge_qq all0)
              replace P3_Str := P3_Str.keep K403 (ninS ne_s2_qq nin0) (ninS ne_u2_qq nin0)
              replace P9_Fld := P9_Fld.keep K403 (ninS ne_s2_qq nin0)
              replace P10_Fld := P10_Fld.keep K403 (ninS ne_s2_qq nin0)
              replace A4 := A4.keep K403
              replace G236 := G236.keep K403 (ninS ne_s0_qq nin0) (ninS ne_u0_qq nin0)
              replace G264 := G264.keep K403 (ninS ne_s1_qq nin0) (ninS ne_u1_qq nin0)
              replace G265 := G265.keep K403 (ninS ne_b2_qq nin0)
              replace G266 := G266.keep K403 (ninS ne_b2_qq nin0)
              replace G267 := G267.keep K403 (ninS ne_b2_qq nin0)
              replace G268 := G268.keep K403 (ninS ne_b2_qq nin0)
              replace G269 := G269.keep K403 (ninS ne_ss_8_qq nin0)
              replace G270 := G270.keep K403 (ninS ne_sl_9_qq nin0)
              replace hk := Nat.le_trans hk K403.1
              replace sz_h : h0.size ≤ h401.size := Nat.le_trans sz_h K403.1
              rw [show own_at ((own_r32.set q227.toNatClampNeg (1 : Int32)).set q255.toNatClampNeg (2 : Int32)) q397 = (0 : Int32) from ha400]
              rw [show ((0 : Int32) - (1 : Int32)) = (-1 : Int32) from by decide]
              show Go p e below _ T (mkF m 283 #[.val (.int p0), .val (.int p1), .val (.int p2), .val (.int p3), .val (.int p4), .val (.int p5), .val (.int (2 : Int32)), .val (.int sel), .val (.ref s0), .val (.ref s1), .val (.ref s2), .val (.ref qq), .val (.ref b2), .val (.int (1 : Int32)), .val (.int (2 : Int32)), .val (.int (1 : Int32)), .val (.int (-1 : Int32))] [(.int (-1 : Int32))])
              refine giload (v := (-1 : Int32)) X hx 285 (hb hby at_283) rfl rfl ?_
              refine gicmpNo X hx 288 (hb hby at_285) rfl (by decide) ?_
              refine giconst X hx (1 : Int32) 289 (hb hby at_288) rfl rfl ?_
              refine ggoto X hx 293 (hb hby at_289) (by decide) (by decide) ?_
              exact gRetL X hx hlk hret rfl (Or.inl ⟨rfl, by simp, _, rfl⟩) (hb hby at_293) eT hS hk (by decide) (by decide) ⟨rfl, N⟩
        · rw [if_neg re372]
          refine gifYes X hx 201 (hb hby at_191) (by decide) (by decide) (by decide) ?_
          refine giload (v := (2 : Int32)) X hx 203 (hb hby at_201) rfl rfl ?_
          refine gistore X hx #[.val (.int p0), .val (.int p1), .val (.int p2), .val (.int p3), .val (.int p4), .val (.int p5), .val (.int (2 : Int32)), .val (.int sel), .val (.ref s0), .val (.ref s1), .val (.ref s2), .val (.ref qq), .val (.ref b2), .val (.int (1 : Int32)), .val (.int (2 : Int32)), .val (.int (2 : Int32)), .unset] 205 (hb hby at_203) rfl rfl ?_
          refine giload (v := (2 : Int32)) X hx 207 (hb hby at_205) rfl rfl ?_
          refine giconst X hx (1 : Int32) 208 (hb hby at_207) rfl rfl ?_
          refine gicmpNo X hx 211 (hb hby at_208) rfl (by decide) ?_
          refine gaload (v := (.ref qq)) X hx 213 (hb hby at_211) rfl rfl rfl ?_
          refine gaload (v := (.ref s0)) X hx 215 (hb hby at_213) rfl rfl rfl ?_
          refine gvirtual (y := own_mEq) (z := own_mEq) (a := qq) (argsL := [(.ref s0)]) (st := []) X hx hZ hown (own_w88 hw) (own_w80 hw) (notFace_of_selects (args := #[]) (mvT hZ (own_w82 hw))) (own_w82 hw) (own_w81 hw) (by decide) P4_Str.exa (payEq (W := 0) hZ hw P4_Str G236 (O2.ext P0_Old.2) P5 (by decide) (by decide)) eT (by rw [hml]; rfl) (lenOf own_pd12 rfl) rfl (Nat.le_of_eq rfl) 27 100 rfl rfl (by decide) (by decide) 218 (hb hby at_215) rfl ?_
          clear X eT; clear T; intro v T h406 L2 Lc X eT hL hQ407
          obtain ⟨rfl, rfl, hh⟩ := hQ407
          replace hh := hh.symm; subst hh
          replace N : Fr n0 L2 := by rw [hL]; exact Fr.app N (Fr.nil n0)
          clear hL
          show Go p e below _ T (mkF m 218 #[.val (.int p0), .val (.int p1), .val (.int p2), .val (.int p3), .val (.int p4), .val (.int p5), .val (.int (2 : Int32)), .val (.int sel), .val (.ref s0), .val (.ref s1), .val (.ref s2), .val (.ref qq), .val (.ref b2), .val (.int (1 : Int32)), .val (.int (2 : Int32)), .val (.int (2 : Int32)), .unset] [(.int (if aq_ = a0_ then 1 else 0))])
          rcases Decidable.em (aq_ = a0_) with re408 | re408
          · rw [if_pos re408]
            refine gifNo X hx 221 (hb hby at_218) rfl (by decide) ?_
            refine giconst X hx (0 : Int32) 222 (hb hby at_221) rfl rfl ?_
            refine gistore X hx #[.val (.int p0), .val (.int p1), .val (.int p2), .val (.int p3), .val (.int p4), .val (.int p5), .val (.int (2 : Int32)), .val (.int sel), .val (.ref s0), .val (.ref s1), .val (.ref s2), .val (.ref qq), .val (.ref b2), .val (.int (1 : Int32)), .val (.int (2 : Int32)), .val (.int (2 : Int32)), .val (.int (0 : Int32))] 224 (hb hby at_222) rfl rfl ?_
            refine ggoto X hx 276 (hb hby at_224) (by decide) (by decide) ?_
            refine gaload (v := (.ref b2)) X hx 278 (hb hby at_276) rfl rfl rfl ?_
            refine gaload (v := (.ref qq)) X hx 280 (hb hby at_278) rfl rfl rfl ?_
            obtain ⟨q409, hp410, hR411, ha412⟩ := own_found (i := 0) (ds := ([a0_, a1_] : List (List Int32))) I271 (by simp)
            have ne_u0_qq : u0 ≠ qq := Str.ne2 G236 P4_Str.exa (own_w6 hw)
            have ne_u1_qq : u1 ≠ qq := Str.ne2 G264 P4_Str.exa (own_w6 hw)
            refine gvirtual (y := own_mNo) (z := own_mNo) (a := b2) (argsL := [(.ref qq)]) (st := []) X hx hZ hown (own_w89 hw) (own_w90 hw) (notFace_of_selects (args := #[]) (mvT hZ (own_w92 hw))) (own_w92 hw) (own_w91 hw) (by decide) A4 (payP (W := 0) (rmNo2 l Z a0 hw (qq) (uq) (aq_) (((own_r32.set q227.toNatClampNeg (1 : Int32)).set q255.toNatClampNeg (2 : Int32))) (q409) (4) (b2) (ss_8) (sl_9) (ks_10) (ki_11) (G1) (s0) (s1) (u0) (u1) (a0_) (a1_) h260 n0 (Nat.le_trans Z0 sz_h) ge_qq P0_Old A4 G265 G266 G267 G268 G269 G270 P4_Str P11_Fld P12_Fld G236 G264 (O2) (P5) (I271) (by rw [re408]; exact hp410) (laq_) (ne_s0_qq) (ne_s1_qq) (ne_u0_qq) (ne_u1_qq) (hR411)) hZ (own_w93 hw) (own_w29 hw) (by decide) (by decide)) eT (by rw [hml]; rfl) (lenOf own_pd13 rfl) rfl (Nat.le_of_eq rfl) 27 100 rfl rfl (by decide) (by decide) 283 (hb hby at_280) rfl ?_
            clear X eT; clear T; intro v T h413 L2 Lc X eT hL hQ414
            obtain ⟨rfl, Nq, K415, G417⟩ := hQ414
            replace N : Fr n0 L2 := by rw [hL]; exact Fr.app N Nq
            clear Nq hL
            have ne_u2_qq : u2 ≠ qq := Str.ne2 P3_Str P4_Str.exa (own_w6 hw)
            replace P0_Old := P0_Old.keep K415 (allS ge_qq all0)
            replace P3_Str := P3_Str.keep K415 (ninS ne_s2_qq nin0) (ninS ne_u2_qq nin0)
            replace P9_Fld := P9_Fld.keep K415 (ninS ne_s2_qq nin0)
            replace P10_Fld := P10_Fld.keep K415 (ninS ne_s2_qq nin0)
            replace A4 := A4.keep K415
            replace G236 := G236.keep K415 (ninS ne_s0_qq nin0) (ninS ne_u0_qq nin0)
            replace G264 := G264.keep K415 (ninS ne_s1_qq nin0) (ninS ne_u1_qq nin0)
            replace G265 := G265.keep K415 (ninS ne_b2_qq nin0)
            replace G266 := G266.keep K415 (ninS ne_b2_qq nin0)
            replace G267 := G267.keep K415 (ninS ne_b2_qq nin0)
            replace G268 := G268.keep K415 (ninS ne_b2_qq nin0)
            replace G269 := G269.keep K415 (ninS ne_ss_8_qq nin0)
            replace G270 := G270.keep K415 (ninS ne_sl_9_qq nin0)
            replace hk := Nat.le_trans hk K415.1
            replace sz_h : h0.size ≤ h413.size := Nat.le_trans sz_h K415.1
            rw [show own_at ((own_r32.set q227.toNatClampNeg (1 : Int32)).set q255.toNatClampNeg (2 : Int32)) q409 = (1 : Int32) from ha412]
            rw [show ((1 : Int32) - (1 : Int32)) = (0 : Int32) from by decide]
            show Go p e below _ T (mkF m 283 #[.val (.int p0), .val (.int p1), .val (.int p2), .val (.int p3), .val (.int p4), .val (.int p5), .val (.int (2 : Int32)), .val (.int sel), .val (.ref s0), .val (.ref s1), .val (.ref s2), .val (.ref qq), .val (.ref b2), .val (.int (1 : Int32)), .val (.int (2 : Int32)), .val (.int (2 : Int32)), .val (.int (0 : Int32))] [(.int (0 : Int32))])
            refine giload (v := (0 : Int32)) X hx 285 (hb hby at_283) rfl rfl ?_
            refine gicmpNo X hx 288 (hb hby at_285) rfl (by decide) ?_
            refine giconst X hx (1 : Int32) 289 (hb hby at_288) rfl rfl ?_
            refine ggoto X hx 293 (hb hby at_289) (by decide) (by decide) ?_
            exact gRetL X hx hlk hret rfl (Or.inl ⟨rfl, by simp, _, rfl⟩) (hb hby at_293) eT hS hk (by decide) (by decide) ⟨rfl, N⟩
          · rw [if_neg re408]
            refine gifYes X hx 227 (hb hby at_218) (by decide) (by decide) (by decide) ?_
            refine giload (v := (2 : Int32)) X hx 229 (hb hby at_227) rfl rfl ?_
            refine giconst X hx (2 : Int32) 230 (hb hby at_229) rfl rfl ?_
            refine gicmpNo X hx 233 (hb hby at_230) rfl (by decide) ?_
            refine gaload (v := (.ref qq)) X hx 235 (hb hby at_233) rfl rfl rfl ?_
            refine gaload (v := (.ref s1)) X hx 237 (hb hby at_235) rfl rfl rfl ?_
            refine gvirtual (y := own_mEq) (z := own_mEq) (a := qq) (argsL := [(.ref s1)]) (st := []) X hx hZ hown (own_w88 hw) (own_w80 hw) (notFace_of_selects (args := #[]) (mvT hZ (own_w82 hw))) (own_w82 hw) (own_w81 hw) (by decide) P4_Str.exa (payEq (W := 0) hZ hw P4_Str G264 (O2.ext P0_Old.2) P5 (by decide) (by decide)) eT (by rw [hml]; rfl) (lenOf own_pd12 rfl) rfl (Nat.le_of_eq rfl) 27 100 rfl rfl (by decide) (by decide) 240 (hb hby at_237) rfl ?_
            clear X eT; clear T; intro v T h418 L2 Lc X eT hL hQ419
            obtain ⟨rfl, rfl, hh⟩ := hQ419
            replace hh := hh.symm; subst hh
            replace N : Fr n0 L2 := by rw [hL]; exact Fr.app N (Fr.nil n0)
            clear hL
            show Go p e below _ T (mkF m 240 #[.val (.int p0), .val (.int p1), .val (.int p2), .val (.int p3), .val (.int p4), .val (.int p5), .val (.int (2 : Int32)), .val (.int sel), .val (.ref s0), .val (.ref s1), .val (.ref s2), .val (.ref qq), .val (.ref b2), .val (.int (1 : Int32)), .val (.int (2 : Int32)), .val (.int (2 : Int32)), .unset] [(.int (if aq_ = a1_ then 1 else 0))])
            rcases Decidable.em (aq_ = a1_) with re420 | re420
            · rw [if_pos re420]
              refine gifNo X hx 243 (hb hby at_240) rfl (by decide) ?_
              refine giload (v := (1 : Int32)) X hx 245 (hb hby at_243) rfl rfl ?_
              refine gistore X hx #[.val (.int p0), .val (.int p1), .val (.int p2), .val (.int p3), .val (.int p4), .val (.int p5), .val (.int (2 : Int32)), .val (.int sel), .val (.ref s0), .val (.ref s1), .val (.ref s2), .val (.ref qq), .val (.ref b2), .val (.int (1 : Int32)), .val (.int (2 : Int32)), .val (.int (2 : Int32)), .val (.int (1 : Int32))] 247 (hb hby at_245) rfl rfl ?_
              refine ggoto X hx 276 (hb hby at_247) (by decide) (by decide) ?_
              refine gaload (v := (.ref b2)) X hx 278 (hb hby at_276) rfl rfl rfl ?_
              refine gaload (v := (.ref qq)) X hx 280 (hb hby at_278) rfl rfl rfl ?_
              obtain ⟨q421, hp422, hR423, ha424⟩ := own_found (i := 1) (ds := ([a0_, a1_] : List (List Int32))) I271 (by simp)
              have ne_u0_qq : u0 ≠ qq := Str.ne2 G236 P4_Str.exa (own_w6 hw)
              have ne_u1_qq : u1 ≠ qq := Str.ne2 G264 P4_Str.exa (own_w6 hw)
              refine gvirtual (y := own_mNo) (z := own_mNo) (a := b2) (argsL := [(.ref qq)]) (st := []) X hx hZ hown (own_w89 hw) (own_w90 hw) (notFace_of_selects (args := #[]) (mvT hZ (own_w92 hw))) (own_w92 hw) (own_w91 hw) (by decide) A4 (payP (W := 0) (rmNo2 l Z a0 hw (qq) (uq) (aq_) (((own_r32.set q227.toNatClampNeg (1 : Int32)).set q255.toNatClampNeg (2 : Int32))) (q421) (4) (b2) (ss_8) (sl_9) (ks_10) (ki_11) (G1) (s0) (s1) (u0) (u1) (a0_) (a1_) h260 n0 (Nat.le_trans Z0 sz_h) ge_qq P0_Old A4 G265 G266 G267 G268 G269 G270 P4_Str P11_Fld P12_Fld G236 G264 (O2) (P5) (I271) (by rw [re420]; exact hp422) (laq_) (ne_s0_qq) (ne_s1_qq) (ne_u0_qq) (ne_u1_qq) (hR423)) hZ (own_w93 hw) (own_w29 hw) (by decide) (by decide)) eT (by rw [hml]; rfl) (lenOf own_pd13 rfl) rfl (Nat.le_of_eq rfl) 27 100 rfl rfl (by decide) (by decide) 283 (hb hby at_280) rfl ?_
              clear X eT; clear T; intro v T h425 L2 Lc X eT hL hQ426
              obtain ⟨rfl, Nq, K427, G429⟩ := hQ426
              replace N : Fr n0 L2 := by rw [hL]; exact Fr.app N Nq
              clear Nq hL
              have ne_u2_qq : u2 ≠ qq := Str.ne2 P3_Str P4_Str.exa (own_w6 hw)
              replace P0_Old := P0_Old.keep K427 (allS ge_qq all0)
              replace P3_Str := P3_Str.keep K427 (ninS ne_s2_qq nin0) (ninS ne_u2_qq nin0)
              replace P9_Fld := P9_Fld.keep K427 (ninS ne_s2_qq nin0)
              replace P10_Fld := P10_Fld.keep K427 (ninS ne_s2_qq nin0)
              replace A4 := A4.keep K427
              replace G236 := G236.keep K427 (ninS ne_s0_qq nin0) (ninS ne_u0_qq nin0)
              replace G264 := G264.keep K427 (ninS ne_s1_qq nin0) (ninS ne_u1_qq nin0)
              replace G265 := G265.keep K427 (ninS ne_b2_qq nin0)
              replace G266 := G266.keep K427 (ninS ne_b2_qq nin0)
              replace G267 := G267.keep K427 (ninS ne_b2_qq nin0)
              replace G268 := G268.keep K427 (ninS ne_b2_qq nin0)
              replace G269 := G269.keep K427 (ninS ne_ss_8_qq nin0)
              replace G270 := G270.keep K427 (ninS ne_sl_9_qq nin0)
              replace hk := Nat.le_trans hk K427.1
              replace sz_h : h0.size ≤ h425.size := Nat.le_trans sz_h K427.1
              rw [show own_at ((own_r32.set q227.toNatClampNeg (1 : Int32)).set q255.toNatClampNeg (2 : Int32)) q421 = (2 : Int32) from ha424]
              rw [show ((2 : Int32) - (1 : Int32)) = (1 : Int32) from by decide]
              show Go p e below _ T (mkF m 283 #[.val (.int p0), .val (.int p1), .val (.int p2), .val (.int p3), .val (.int p4), .val (.int p5), .val (.int (2 : Int32)), .val (.int sel), .val (.ref s0), .val (.ref s1), .val (.ref s2), .val (.ref qq), .val (.ref b2), .val (.int (1 : Int32)), .val (.int (2 : Int32)), .val (.int (2 : Int32)), .val (.int (1 : Int32))] [(.int (1 : Int32))])
              refine giload (v := (1 : Int32)) X hx 285 (hb hby at_283) rfl rfl ?_
              refine gicmpNo X hx 288 (hb hby at_285) rfl (by decide) ?_
              refine giconst X hx (1 : Int32) 289 (hb hby at_288) rfl rfl ?_
              refine ggoto X hx 293 (hb hby at_289) (by decide) (by decide) ?_
              exact gRetL X hx hlk hret rfl (Or.inl ⟨rfl, by simp, _, rfl⟩) (hb hby at_293) eT hS hk (by decide) (by decide) ⟨rfl, N⟩
            · rw [if_neg re420]
              refine gifYes X hx 250 (hb hby at_240) (by decide) (by decide) (by decide) ?_
              refine giload (v := (2 : Int32)) X hx 252 (hb hby at_250) rfl rfl ?_
              refine giconst X hx (3 : Int32) 253 (hb hby at_252) rfl rfl ?_
              refine gicmpYes X hx 273 (hb hby at_253) (by decide) (by decide) (by decide) ?_
              refine giconst X hx (-1 : Int32) 274 (hb hby at_273) rfl rfl ?_
              refine gistore X hx #[.val (.int p0), .val (.int p1), .val (.int p2), .val (.int p3), .val (.int p4), .val (.int p5), .val (.int (2 : Int32)), .val (.int sel), .val (.ref s0), .val (.ref s1), .val (.ref s2), .val (.ref qq), .val (.ref b2), .val (.int (1 : Int32)), .val (.int (2 : Int32)), .val (.int (2 : Int32)), .val (.int (-1 : Int32))] 276 (hb hby at_274) rfl rfl ?_
              refine gaload (v := (.ref b2)) X hx 278 (hb hby at_276) rfl rfl rfl ?_
              refine gaload (v := (.ref qq)) X hx 280 (hb hby at_278) rfl rfl rfl ?_
              obtain ⟨q430, hp431, hR432, ha433, -⟩ := own_miss (ds := ([a0_, a1_] : List (List Int32))) (cs := aq_) I271 (by simp [re408, re420])
              have ne_u0_qq : u0 ≠ qq := Str.ne2 G236 P4_Str.exa (own_w6 hw)
              have ne_u1_qq : u1 ≠ qq := Str.ne2 G264 P4_Str.exa (own_w6 hw)
              refine gvirtual (y := own_mNo) (z := own_mNo) (a := b2) (argsL := [(.ref qq)]) (st := []) X hx hZ hown (own_w89 hw) (own_w90 hw) (notFace_of_selects (args := #[]) (mvT hZ (own_w92 hw))) (own_w92 hw) (own_w91 hw) (by decide) A4 (payP (W := 0) (rmNo2 l Z a0 hw (qq) (uq) (aq_) (((own_r32.set q227.toNatClampNeg (1 : Int32)).set q255.toNatClampNeg (2 : Int32))) (q430) (4) (b2) (ss_8) (sl_9) (ks_10) (ki_11) (G1) (s0) (s1) (u0) (u1) (a0_) (a1_) h260 n0 (Nat.le_trans Z0 sz_h) ge_qq P0_Old A4 G265 G266 G267 G268 G269 G270 P4_Str P11_Fld P12_Fld G236 G264 (O2) (P5) (I271) (hp431) (laq_) (ne_s0_qq) (ne_s1_qq) (ne_u0_qq) (ne_u1_qq) (hR432)) hZ (own_w93 hw) (own_w29 hw) (by decide) (by decide)) eT (by rw [hml]; rfl) (lenOf own_pd13 rfl) rfl (Nat.le_of_eq rfl) 27 100 rfl rfl (by decide) (by decide) 283 (hb hby at_280) rfl ?_
              clear X eT; clear T; intro v T h434 L2 Lc X eT hL hQ435
              obtain ⟨rfl, Nq, K436, G438⟩ := hQ435
              replace N : Fr n0 L2 := by rw [hL]; exact Fr.app N Nq
              clear Nq hL
              have ne_u2_qq : u2 ≠ qq := Str.ne2 P3_Str P4_Str.exa (own_w6 hw)
              replace P0_Old := P0_Old.keep K436 (allS ge_qq all0)
              replace P3_Str := P3_Str.keep K436 (ninS ne_s2_qq nin0) (ninS ne_u2_qq nin0)
              replace P9_Fld := P9_Fld.keep K436 (ninS ne_s2_qq nin0)
              replace P10_Fld := P10_Fld.keep K436 (ninS ne_s2_qq nin0)
              replace A4 := A4.keep K436
              replace G236 := G236.keep K436 (ninS ne_s0_qq nin0) (ninS ne_u0_qq nin0)
              replace G264 := G264.keep K436 (ninS ne_s1_qq nin0) (ninS ne_u1_qq nin0)
              replace G265 := G265.keep K436 (ninS ne_b2_qq nin0)
              replace G266 := G266.keep K436 (ninS ne_b2_qq nin0)
              replace G267 := G267.keep K436 (ninS ne_b2_qq nin0)
              replace G268 := G268.keep K436 (ninS ne_b2_qq nin0)
              replace G269 := G269.keep K436 (ninS ne_ss_8_qq nin0)
              replace G270 := G270.keep K436 (ninS ne_sl_9_qq nin0)
              replace hk := Nat.le_trans hk K436.1
              replace sz_h : h0.size ≤ h434.size := Nat.le_trans sz_h K436.1
              rw [show own_at ((own_r32.set q227.toNatClampNeg (1 : Int32)).set q255.toNatClampNeg (2 : Int32)) q430 = (0 : Int32) from ha433]
              rw [show ((0 : Int32) - (1 : Int32)) = (-1 : Int32) from by decide]
              show Go p e below _ T (mkF m 283 #[.val (.int p0), .val (.int p1), .val (.int p2), .val (.int p3), .val (.int p4), .val (.int p5), .val (.int (2 : Int32)), .val (.int sel), .val (.ref s0), .val (.ref s1), .val (.ref s2), .val (.ref qq), .val (.ref b2), .val (.int (1 : Int32)), .val (.int (2 : Int32)), .val (.int (2 : Int32)), .val (.int (-1 : Int32))] [(.int (-1 : Int32))])
              refine giload (v := (-1 : Int32)) X hx 285 (hb hby at_283) rfl rfl ?_
              refine gicmpNo X hx 288 (hb hby at_285) rfl (by decide) ?_
              refine giconst X hx (1 : Int32) 289 (hb hby at_288) rfl rfl ?_
              refine ggoto X hx 293 (hb hby at_289) (by decide) (by decide) ?_
              exact gRetL X hx hlk hret rfl (Or.inl ⟨rfl, by simp, _, rfl⟩) (hb hby at_293) eT hS hk (by decide) (by decide) ⟨rfl, N⟩
  · show Go p e below _ T (mkF m 92 #[.val (.int p0), .val (.int p1), .val (.int p2), .val (.int p3), .val (.int p4), .val (.int p5), .val (.int (3 : Int32)), .val (.int sel), .val (.ref s0), .val (.ref s1), .val (.ref s2), .val (.ref qq), .val (.ref b2), .unset, .unset, .unset, .unset] [])
    refine giload (v := (3 : Int32)) X hx 94 (hb hby at_92) rfl rfl ?_
    refine giconst X hx (1 : Int32) 95 (hb hby at_94) rfl rfl ?_
    refine gicmpNo X hx 98 (hb hby at_95) rfl (by decide) ?_
    refine gaload (v := (.ref b2)) X hx 100 (hb hby at_98) rfl rfl rfl ?_
    refine gaload (v := (.ref s0)) X hx 102 (hb hby at_100) rfl rfl rfl ?_
    obtain ⟨q439, hp440, hR441, ha442, hI443⟩ := own_miss (ds := ([] : List (List Int32))) (cs := a0_) own_inv0 (by simp)
    refine gvirtual (y := own_mAd) (z := own_mAd) (a := b2) (argsL := [(.ref s0)]) (st := []) X hx hZ hown (own_w48 hw) (own_w49 hw) (notFace_of_selects (args := #[]) (mvT hZ (own_w51 hw))) (own_w51 hw) (own_w50 hw) (by decide) A4 (payP (W := 0) (rmAd0 l Z a0 hw (s0) (u0) (a0_) (own_r32) (q439) (4) (b2) (ss_8) (sl_9) (ks_10) (ki_11) (G1) h6 n0 (Nat.le_trans Z0 sz_h) ge_s0 ge_b2 ge_ss_8 ge_sl_9 P0_Old A4 G14 G15 G16 G17 G18 G19 P1_Str P5_Fld P6_Fld (O2) (P5) (own_inv0) (hp440) (la0_) (hR441) (ha442) (pp20) (ne_ss_8_sl_9) (ne_u0_sl_9)) hZ (own_w52 hw) (own_w29 hw) (by decide) (by decide)) eT (by rw [hml]; rfl) (lenOf own_pd13 rfl) rfl (Nat.le_of_eq rfl) 27 100 rfl rfl (by decide) (by decide) 105 (hb hby at_102) rfl ?_
    clear X eT; clear T; intro v T h444 L2 Lc X eT hL hQ445
    obtain ⟨rfl, Nq, K446, G448, G449, G450, G451, G452, G453, G454⟩ := hQ445
    replace N : Fr n0 L2 := by rw [hL]; exact Fr.app N Nq
    clear Nq hL
    have ne_u1_s0 : u1 ≠ s0 := Str.ne2 P2_Str P1_Str.exa (own_w6 hw)
    have ne_u2_s0 : u2 ≠ s0 := Str.ne2 P3_Str P1_Str.exa (own_w6 hw)
    have ne_uq_s0 : uq ≠ s0 := Str.ne2 P4_Str P1_Str.exa (own_w6 hw)
    replace P0_Old := P0_Old.keep K446 (allS ge_s0 (allS ge_b2 (allS ge_ss_8 (allS ge_sl_9 all0))))
    replace P2_Str := P2_Str.keep K446 (ninS ne_s1_s0 (ninS ne_s1_b2 (ninS ne_s1_ss_8 (ninS ne_s1_sl_9 nin0)))) (ninS ne_u1_s0 (ninS ne_u1_b2 (ninS ne_u1_ss_8 (ninS ne_u1_sl_9 nin0))))
    replace P3_Str := P3_Str.keep K446 (ninS ne_s2_s0 (ninS ne_s2_b2 (ninS ne_s2_ss_8 (ninS ne_s2_sl_9 nin0)))) (ninS ne_u2_s0 (ninS ne_u2_b2 (ninS ne_u2_ss_8 (ninS ne_u2_sl_9 nin0))))
    replace P4_Str := P4_Str.keep K446 (ninS ne_qq_s0 (ninS ne_qq_b2 (ninS ne_qq_ss_8 (ninS ne_qq_sl_9 nin0)))) (ninS ne_uq_s0 (ninS ne_uq_b2 (ninS ne_uq_ss_8 (ninS ne_uq_sl_9 nin0))))
    replace P7_Fld := P7_Fld.keep K446 (ninS ne_s1_s0 (ninS ne_s1_b2 (ninS ne_s1_ss_8 (ninS ne_s1_sl_9 nin0))))
    replace P8_Fld := P8_Fld.keep K446 (ninS ne_s1_s0 (ninS ne_s1_b2 (ninS ne_s1_ss_8 (ninS ne_s1_sl_9 nin0))))
    replace P9_Fld := P9_Fld.keep K446 (ninS ne_s2_s0 (ninS ne_s2_b2 (ninS ne_s2_ss_8 (ninS ne_s2_sl_9 nin0))))
    replace P10_Fld := P10_Fld.keep K446 (ninS ne_s2_s0 (ninS ne_s2_b2 (ninS ne_s2_ss_8 (ninS ne_s2_sl_9 nin0))))
    replace P11_Fld := P11_Fld.keep K446 (ninS ne_qq_s0 (ninS ne_qq_b2 (ninS ne_qq_ss_8 (ninS ne_qq_sl_9 nin0))))
    replace P12_Fld := P12_Fld.keep K446 (ninS ne_qq_s0 (ninS ne_qq_b2 (ninS ne_qq_ss_8 (ninS ne_qq_sl_9 nin0))))
    replace A4 := A4.keep K446
    replace hk := Nat.le_trans hk K446.1
    replace sz_h : h0.size ≤ h444.size := Nat.le_trans sz_h K446.1
    show Go p e below _ T (mkF m 105 #[.val (.int p0), .val (.int p1), .val (.int p2), .val (.int p3), .val (.int p4), .val (.int p5), .val (.int (3 : Int32)), .val (.int sel), .val (.ref s0), .val (.ref s1), .val (.ref s2), .val (.ref qq), .val (.ref b2), .unset, .unset, .unset, .unset] [(.int (0 : Int32))])
    have I455 : own_Inv (own_r32.set q439.toNatClampNeg (1 : Int32)) ([a0_] : List (List Int32)) := hI443 (by simp)
    refine gpop X hx 106 (hb hby at_105) rfl rfl ?_
    refine giload (v := (3 : Int32)) X hx 108 (hb hby at_106) rfl rfl ?_
    refine giconst X hx (2 : Int32) 109 (hb hby at_108) rfl rfl ?_
    refine gicmpNo X hx 112 (hb hby at_109) rfl (by decide) ?_
    refine gaload (v := (.ref b2)) X hx 114 (hb hby at_112) rfl rfl rfl ?_
    refine gaload (v := (.ref s1)) X hx 116 (hb hby at_114) rfl rfl rfl ?_
    rcases Decidable.em (a1_ = a0_) with re456 | re456
    · obtain ⟨q457, hp458, hR459, ha460⟩ := own_found (i := 0) (ds := ([a0_] : List (List Int32))) I455 (by simp)
      have ne_u0_s1 : u0 ≠ s1 := Str.ne2 G448 P2_Str.exa (own_w6 hw)
      refine gvirtual (y := own_mAd) (z := own_mAd) (a := b2) (argsL := [(.ref s1)]) (st := []) X hx hZ hown (own_w48 hw) (own_w49 hw) (notFace_of_selects (args := #[]) (mvT hZ (own_w51 hw))) (own_w51 hw) (own_w50 hw) (by decide) A4 (payP (W := 0) (rmAf1 l Z a0 hw (s1) (u1) (a1_) ((own_r32.set q439.toNatClampNeg (1 : Int32))) (q457) (4) (b2) (ss_8) (sl_9) (ks_10) (ki_11) (G1) (s0) (u0) (a0_) h444 n0 (Nat.le_trans Z0 sz_h) ge_s1 P0_Old A4 G449 G450 G451 G452 G453 G454 P2_Str P7_Fld P8_Fld G448 (O2) (P5) (I455) (by rw [re456]; exact hp458) (la1_) (ne_s0_s1) (ne_u0_s1) (hR459) (by rw [ha460]; decide)) hZ (own_w52 hw) (own_w29 hw) (by decide) (by decide)) eT (by rw [hml]; rfl) (lenOf own_pd13 rfl) rfl (Nat.le_of_eq rfl) 27 100 rfl rfl (by decide) (by decide) 119 (hb hby at_116) rfl ?_
      clear X eT; clear T; intro v T h462 L2 Lc X eT hL hQ463
      obtain ⟨rfl, Nq, K464, G466⟩ := hQ463
      replace N : Fr n0 L2 := by rw [hL]; exact Fr.app N Nq
      clear Nq hL
      have ne_u2_s1 : u2 ≠ s1 := Str.ne2 P3_Str P2_Str.exa (own_w6 hw)
      have ne_uq_s1 : uq ≠ s1 := Str.ne2 P4_Str P2_Str.exa (own_w6 hw)
      replace P0_Old := P0_Old.keep K464 (allS ge_s1 all0)
      replace P3_Str := P3_Str.keep K464 (ninS ne_s2_s1 nin0) (ninS ne_u2_s1 nin0)
      replace P4_Str := P4_Str.keep K464 (ninS ne_qq_s1 nin0) (ninS ne_uq_s1 nin0)
      replace P9_Fld := P9_Fld.keep K464 (ninS ne_s2_s1 nin0)
      replace P10_Fld := P10_Fld.keep K464 (ninS ne_s2_s1 nin0)
      replace P11_Fld := P11_Fld.keep K464 (ninS ne_qq_s1 nin0)
      replace P12_Fld := P12_Fld.keep K464 (ninS ne_qq_s1 nin0)
      replace A4 := A4.keep K464
      replace G448 := G448.keep K464 (ninS ne_s0_s1 nin0) (ninS ne_u0_s1 nin0)
      replace G449 := G449.keep K464 (ninS ne_b2_s1 nin0)
      replace G450 := G450.keep K464 (ninS ne_b2_s1 nin0)
      replace G451 := G451.keep K464 (ninS ne_b2_s1 nin0)
      replace G452 := G452.keep K464 (ninS ne_b2_s1 nin0)
      replace G453 := G453.keep K464 (ninS ne_ss_8_s1 nin0)
      replace G454 := G454.keep K464 (ninS ne_sl_9_s1 nin0)
      replace hk := Nat.le_trans hk K464.1
      replace sz_h : h0.size ≤ h462.size := Nat.le_trans sz_h K464.1
      show Go p e below _ T (mkF m 119 #[.val (.int p0), .val (.int p1), .val (.int p2), .val (.int p3), .val (.int p4), .val (.int p5), .val (.int (3 : Int32)), .val (.int sel), .val (.ref s0), .val (.ref s1), .val (.ref s2), .val (.ref qq), .val (.ref b2), .unset, .unset, .unset, .unset] [(.int (own_at (own_r32.set q439.toNatClampNeg (1 : Int32)) q457 - (1 : Int32)))])
      refine gpop X hx 120 (hb hby at_119) rfl rfl ?_
      refine giload (v := (3 : Int32)) X hx 122 (hb hby at_120) rfl rfl ?_
      refine giconst X hx (3 : Int32) 123 (hb hby at_122) rfl rfl ?_
      refine gicmpNo X hx 126 (hb hby at_123) rfl (by decide) ?_
      refine gaload (v := (.ref b2)) X hx 128 (hb hby at_126) rfl rfl rfl ?_
      refine gaload (v := (.ref s2)) X hx 130 (hb hby at_128) rfl rfl rfl ?_
      rcases Decidable.em (a2_ = a0_) with re484 | re484
      · obtain ⟨q485, hp486, hR487, ha488⟩ := own_found (i := 0) (ds := ([a0_] : List (List Int32))) I455 (by simp)
        have ne_u0_s2 : u0 ≠ s2 := Str.ne2 G448 P3_Str.exa (own_w6 hw)
        refine gvirtual (y := own_mAd) (z := own_mAd) (a := b2) (argsL := [(.ref s2)]) (st := []) X hx hZ hown (own_w48 hw) (own_w49 hw) (notFace_of_selects (args := #[]) (mvT hZ (own_w51 hw))) (own_w51 hw) (own_w50 hw) (by decide) A4 (payP (W := 0) (rmAf1 l Z a0 hw (s2) (u2) (a2_) ((own_r32.set q439.toNatClampNeg (1 : Int32))) (q485) (4) (b2) (ss_8) (sl_9) (ks_10) (ki_11) (G1) (s0) (u0) (a0_) h462 n0 (Nat.le_trans Z0 sz_h) ge_s2 P0_Old A4 G449 G450 G451 G452 G453 G454 P3_Str P9_Fld P10_Fld G448 (O2) (P5) (I455) (by rw [re484]; exact hp486) (la2_) (ne_s0_s2) (ne_u0_s2) (hR487) (by rw [ha488]; decide)) hZ (own_w52 hw) (own_w29 hw) (by decide) (by decide)) eT (by rw [hml]; rfl) (lenOf own_pd13 rfl) rfl (Nat.le_of_eq rfl) 27 100 rfl rfl (by decide) (by decide) 133 (hb hby at_130) rfl ?_
        clear X eT; clear T; intro v T h490 L2 Lc X eT hL hQ491
        obtain ⟨rfl, Nq, K492, G494⟩ := hQ491
        replace N : Fr n0 L2 := by rw [hL]; exact Fr.app N Nq
        clear Nq hL
        have ne_uq_s2 : uq ≠ s2 := Str.ne2 P4_Str P3_Str.exa (own_w6 hw)
        have ne_u1_s2 : u1 ≠ s2 := Str.ne2 G466 P3_Str.exa (own_w6 hw)
        replace P0_Old := P0_Old.keep K492 (allS ge_s2 all0)
        replace P4_Str := P4_Str.keep K492 (ninS ne_qq_s2 nin0) (ninS ne_uq_s2 nin0)
        replace P11_Fld := P11_Fld.keep K492 (ninS ne_qq_s2 nin0)
        replace P12_Fld := P12_Fld.keep K492 (ninS ne_qq_s2 nin0)
        replace A4 := A4.keep K492
        replace G448 := G448.keep K492 (ninS ne_s0_s2 nin0) (ninS ne_u0_s2 nin0)
        replace G449 := G449.keep K492 (ninS ne_b2_s2 nin0)
        replace G450 := G450.keep K492 (ninS ne_b2_s2 nin0)
        replace G451 := G451.keep K492 (ninS ne_b2_s2 nin0)
        replace G452 := G452.keep K492 (ninS ne_b2_s2 nin0)
        replace G453 := G453.keep K492 (ninS ne_ss_8_s2 nin0)
        replace G454 := G454.keep K492 (ninS ne_sl_9_s2 nin0)
        replace G466 := G466.keep K492 (ninS ne_s1_s2 nin0) (ninS ne_u1_s2 nin0)
        replace hk := Nat.le_trans hk K492.1
        replace sz_h : h0.size ≤ h490.size := Nat.le_trans sz_h K492.1
        show Go p e below _ T (mkF m 133 #[.val (.int p0), .val (.int p1), .val (.int p2), .val (.int p3), .val (.int p4), .val (.int p5), .val (.int (3 : Int32)), .val (.int sel), .val (.ref s0), .val (.ref s1), .val (.ref s2), .val (.ref qq), .val (.ref b2), .unset, .unset, .unset, .unset] [(.int (own_at (own_r32.set q439.toNatClampNeg (1 : Int32)) q485 - (1 : Int32)))])
        refine gpop X hx 134 (hb hby at_133) rfl rfl ?_
        refine gaload (v := (.ref s1)) X hx 136 (hb hby at_134) rfl rfl rfl ?_
        refine gaload (v := (.ref s0)) X hx 138 (hb hby at_136) rfl rfl rfl ?_
        refine gvirtual (y := own_mEq) (z := own_mEq) (a := s1) (argsL := [(.ref s0)]) (st := []) X hx hZ hown (own_w88 hw) (own_w80 hw) (notFace_of_selects (args := #[]) (mvT hZ (own_w82 hw))) (own_w82 hw) (own_w81 hw) (by decide) G466.exa (payEq (W := 0) hZ hw G466 G448 (O2.ext P0_Old.2) P5 (by decide) (by decide)) eT (by rw [hml]; rfl) (lenOf own_pd12 rfl) rfl (Nat.le_of_eq rfl) 27 100 rfl rfl (by decide) (by decide) 141 (hb hby at_138) rfl ?_
        clear X eT; clear T; intro v T h551 L2 Lc X eT hL hQ552
        obtain ⟨rfl, rfl, hh⟩ := hQ552
        replace hh := hh.symm; subst hh
        replace N : Fr n0 L2 := by rw [hL]; exact Fr.app N (Fr.nil n0)
        clear hL
        show Go p e below _ T (mkF m 141 #[.val (.int p0), .val (.int p1), .val (.int p2), .val (.int p3), .val (.int p4), .val (.int p5), .val (.int (3 : Int32)), .val (.int sel), .val (.ref s0), .val (.ref s1), .val (.ref s2), .val (.ref qq), .val (.ref b2), .unset, .unset, .unset, .unset] [(.int (if a1_ = a0_ then 1 else 0))])
        rw [if_pos re456]
        refine gifNo X hx 144 (hb hby at_141) rfl (by decide) ?_
        refine giconst X hx (0 : Int32) 145 (hb hby at_144) rfl rfl ?_
        refine ggoto X hx 149 (hb hby at_145) (by decide) (by decide) ?_
        refine gistore X hx #[.val (.int p0), .val (.int p1), .val (.int p2), .val (.int p3), .val (.int p4), .val (.int p5), .val (.int (3 : Int32)), .val (.int sel), .val (.ref s0), .val (.ref s1), .val (.ref s2), .val (.ref qq), .val (.ref b2), .val (.int (0 : Int32)), .unset, .unset, .unset] 151 (hb hby at_149) rfl rfl ?_
        refine gaload (v := (.ref s1)) X hx 153 (hb hby at_151) rfl rfl rfl ?_
        refine gaload (v := (.ref s0)) X hx 155 (hb hby at_153) rfl rfl rfl ?_
        refine gvirtual (y := own_mEq) (z := own_mEq) (a := s1) (argsL := [(.ref s0)]) (st := []) X hx hZ hown (own_w88 hw) (own_w80 hw) (notFace_of_selects (args := #[]) (mvT hZ (own_w82 hw))) (own_w82 hw) (own_w81 hw) (by decide) G466.exa (payEq (W := 0) hZ hw G466 G448 (O2.ext P0_Old.2) P5 (by decide) (by decide)) eT (by rw [hml]; rfl) (lenOf own_pd12 rfl) rfl (Nat.le_of_eq rfl) 27 100 rfl rfl (by decide) (by decide) 158 (hb hby at_155) rfl ?_
        clear X eT; clear T; intro v T h553 L2 Lc X eT hL hQ554
        obtain ⟨rfl, rfl, hh⟩ := hQ554
        replace hh := hh.symm; subst hh
        replace N : Fr n0 L2 := by rw [hL]; exact Fr.app N (Fr.nil n0)
        clear hL
        show Go p e below _ T (mkF m 158 #[.val (.int p0), .val (.int p1), .val (.int p2), .val (.int p3), .val (.int p4), .val (.int p5), .val (.int (3 : Int32)), .val (.int sel), .val (.ref s0), .val (.ref s1), .val (.ref s2), .val (.ref qq), .val (.ref b2), .val (.int (0 : Int32)), .unset, .unset, .unset] [(.int (if a1_ = a0_ then 1 else 0))])
        rw [if_pos re456]
        refine gifNo X hx 161 (hb hby at_158) rfl (by decide) ?_
        refine giconst X hx (1 : Int32) 162 (hb hby at_161) rfl rfl ?_
        refine ggoto X hx 166 (hb hby at_162) (by decide) (by decide) ?_
        refine gistore X hx #[.val (.int p0), .val (.int p1), .val (.int p2), .val (.int p3), .val (.int p4), .val (.int p5), .val (.int (3 : Int32)), .val (.int sel), .val (.ref s0), .val (.ref s1), .val (.ref s2), .val (.ref qq), .val (.ref b2), .val (.int (0 : Int32)), .val (.int (1 : Int32)), .unset, .unset] 168 (hb hby at_166) rfl rfl ?_
        refine gaload (v := (.ref s2)) X hx 170 (hb hby at_168) rfl rfl rfl ?_
        refine gaload (v := (.ref s0)) X hx 172 (hb hby at_170) rfl rfl rfl ?_
        refine gvirtual (y := own_mEq) (z := own_mEq) (a := s2) (argsL := [(.ref s0)]) (st := []) X hx hZ hown (own_w88 hw) (own_w80 hw) (notFace_of_selects (args := #[]) (mvT hZ (own_w82 hw))) (own_w82 hw) (own_w81 hw) (by decide) G494.exa (payEq (W := 0) hZ hw G494 G448 (O2.ext P0_Old.2) P5 (by decide) (by decide)) eT (by rw [hml]; rfl) (lenOf own_pd12 rfl) rfl (Nat.le_of_eq rfl) 27 100 rfl rfl (by decide) (by decide) 175 (hb hby at_172) rfl ?_
        clear X eT; clear T; intro v T h555 L2 Lc X eT hL hQ556
        obtain ⟨rfl, rfl, hh⟩ := hQ556
        replace hh := hh.symm; subst hh
        replace N : Fr n0 L2 := by rw [hL]; exact Fr.app N (Fr.nil n0)
        clear hL
        show Go p e below _ T (mkF m 175 #[.val (.int p0), .val (.int p1), .val (.int p2), .val (.int p3), .val (.int p4), .val (.int p5), .val (.int (3 : Int32)), .val (.int sel), .val (.ref s0), .val (.ref s1), .val (.ref s2), .val (.ref qq), .val (.ref b2), .val (.int (0 : Int32)), .val (.int (1 : Int32)), .unset, .unset] [(.int (if a2_ = a0_ then 1 else 0))])
        rw [if_pos re484]
        refine gifNo X hx 178 (hb hby at_175) rfl (by decide) ?_
        refine giconst X hx (0 : Int32) 179 (hb hby at_178) rfl rfl ?_
        refine gistore X hx #[.val (.int p0), .val (.int p1), .val (.int p2), .val (.int p3), .val (.int p4), .val (.int p5), .val (.int (3 : Int32)), .val (.int sel), .val (.ref s0), .val (.ref s1), .val (.ref s2), .val (.ref qq), .val (.ref b2), .val (.int (0 : Int32)), .val (.int (1 : Int32)), .val (.int (0 : Int32)), .unset] 181 (hb hby at_179) rfl rfl ?_
        refine ggoto X hx 205 (hb hby at_181) (by decide) (by decide) ?_
        refine giload (v := (3 : Int32)) X hx 207 (hb hby at_205) rfl rfl ?_
        refine giconst X hx (1 : Int32) 208 (hb hby at_207) rfl rfl ?_
        refine gicmpNo X hx 211 (hb hby at_208) rfl (by decide) ?_
        refine gaload (v := (.ref qq)) X hx 213 (hb hby at_211) rfl rfl rfl ?_
        refine gaload (v := (.ref s0)) X hx 215 (hb hby at_213) rfl rfl rfl ?_
        refine gvirtual (y := own_mEq) (z := own_mEq) (a := qq) (argsL := [(.ref s0)]) (st := []) X hx hZ hown (own_w88 hw) (own_w80 hw) (notFace_of_selects (args := #[]) (mvT hZ (own_w82 hw))) (own_w82 hw) (own_w81 hw) (by decide) P4_Str.exa (payEq (W := 0) hZ hw P4_Str G448 (O2.ext P0_Old.2) P5 (by decide) (by decide)) eT (by rw [hml]; rfl) (lenOf own_pd12 rfl) rfl (Nat.le_of_eq rfl) 27 100 rfl rfl (by decide) (by decide) 218 (hb hby at_215) rfl ?_
        clear X eT; clear T; intro v T h557 L2 Lc X eT hL hQ558
        obtain ⟨rfl, rfl, hh⟩ := hQ558
        replace hh := hh.symm; subst hh
        replace N : Fr n0 L2 := by rw [hL]; exact Fr.app N (Fr.nil n0)
        clear hL
        show Go p e below _ T (mkF m 218 #[.val (.int p0), .val (.int p1), .val (.int p2), .val (.int p3), .val (.int p4), .val (.int p5), .val (.int (3 : Int32)), .val (.int sel), .val (.ref s0), .val (.ref s1), .val (.ref s2), .val (.ref qq), .val (.ref b2), .val (.int (0 : Int32)), .val (.int (1 : Int32)), .val (.int (0 : Int32)), .unset] [(.int (if aq_ = a0_ then 1 else 0))])
        rcases Decidable.em (aq_ = a0_) with re559 | re559
        · rw [if_pos re559]
          refine gifNo X hx 221 (hb hby at_218) rfl (by decide) ?_
          refine giconst X hx (0 : Int32) 222 (hb hby at_221) rfl rfl ?_
          refine gistore X hx #[.val (.int p0), .val (.int p1), .val (.int p2), .val (.int p3), .val (.int p4), .val (.int p5), .val (.int (3 : Int32)), .val (.int sel), .val (.ref s0), .val (.ref s1), .val (.ref s2), .val (.ref qq), .val (.ref b2), .val (.int (0 : Int32)), .val (.int (1 : Int32)), .val (.int (0 : Int32)), .val (.int (0 : Int32))] 224 (hb hby at_222) rfl rfl ?_
          refine ggoto X hx 276 (hb hby at_224) (by decide) (by decide) ?_
          refine gaload (v := (.ref b2)) X hx 278 (hb hby at_276) rfl rfl rfl ?_
          refine gaload (v := (.ref qq)) X hx 280 (hb hby at_278) rfl rfl rfl ?_
          obtain ⟨q560, hp561, hR562, ha563⟩ := own_found (i := 0) (ds := ([a0_] : List (List Int32))) I455 (by simp)
          have ne_u0_qq : u0 ≠ qq := Str.ne2 G448 P4_Str.exa (own_w6 hw)
          refine gvirtual (y := own_mNo) (z := own_mNo) (a := b2) (argsL := [(.ref qq)]) (st := []) X hx hZ hown (own_w89 hw) (own_w90 hw) (notFace_of_selects (args := #[]) (mvT hZ (own_w92 hw))) (own_w92 hw) (own_w91 hw) (by decide) A4 (payP (W := 0) (rmNo1 l Z a0 hw (qq) (uq) (aq_) ((own_r32.set q439.toNatClampNeg (1 : Int32))) (q560) (4) (b2) (ss_8) (sl_9) (ks_10) (ki_11) (G1) (s0) (u0) (a0_) h490 n0 (Nat.le_trans Z0 sz_h) ge_qq P0_Old A4 G449 G450 G451 G452 G453 G454 P4_Str P11_Fld P12_Fld G448 (O2) (P5) (I455) (by rw [re559]; exact hp561) (laq_) (ne_s0_qq) (ne_u0_qq) (hR562)) hZ (own_w93 hw) (own_w29 hw) (by decide) (by decide)) eT (by rw [hml]; rfl) (lenOf own_pd13 rfl) rfl (Nat.le_of_eq rfl) 27 100 rfl rfl (by decide) (by decide) 283 (hb hby at_280) rfl ?_
          clear X eT; clear T; intro v T h564 L2 Lc X eT hL hQ565
          obtain ⟨rfl, Nq, K566, G568⟩ := hQ565
          replace N : Fr n0 L2 := by rw [hL]; exact Fr.app N Nq
          clear Nq hL
          have ne_u1_qq : u1 ≠ qq := Str.ne2 G466 P4_Str.exa (own_w6 hw)
          have ne_u2_qq : u2 ≠ qq := Str.ne2 G494 P4_Str.exa (own_w6 hw)
          replace P0_Old := P0_Old.keep K566 (allS ge_qq all0)
          replace A4 := A4.keep K566
          replace G448 := G448.keep K566 (ninS ne_s0_qq nin0) (ninS ne_u0_qq nin0)
          replace G449 := G449.keep K566 (ninS ne_b2_qq nin0)
          replace G450 := G450.keep K566 (ninS ne_b2_qq nin0)
          replace G451 := G451.keep K566 (ninS ne_b2_qq nin0)
          replace G452 := G452.keep K566 (ninS ne_b2_qq nin0)
          replace G453 := G453.keep K566 (ninS ne_ss_8_qq nin0)
          replace G454 := G454.keep K566 (ninS ne_sl_9_qq nin0)
          replace G466 := G466.keep K566 (ninS ne_s1_qq nin0) (ninS ne_u1_qq nin0)
          replace G494 := G494.keep K566 (ninS ne_s2_qq nin0) (ninS ne_u2_qq nin0)
          replace hk := Nat.le_trans hk K566.1
          replace sz_h : h0.size ≤ h564.size := Nat.le_trans sz_h K566.1
          rw [show own_at (own_r32.set q439.toNatClampNeg (1 : Int32)) q560 = (1 : Int32) from ha563]
          rw [show ((1 : Int32) - (1 : Int32)) = (0 : Int32) from by decide]
          show Go p e below _ T (mkF m 283 #[.val (.int p0), .val (.int p1), .val (.int p2), .val (.int p3), .val (.int p4), .val (.int p5), .val (.int (3 : Int32)), .val (.int sel), .val (.ref s0), .val (.ref s1), .val (.ref s2), .val (.ref qq), .val (.ref b2), .val (.int (0 : Int32)), .val (.int (1 : Int32)), .val (.int (0 : Int32)), .val (.int (0 : Int32))] [(.int (0 : Int32))])
          refine giload (v := (0 : Int32)) X hx 285 (hb hby at_283) rfl rfl ?_
          refine gicmpNo X hx 288 (hb hby at_285) rfl (by decide) ?_
          refine giconst X hx (1 : Int32) 289 (hb hby at_288) rfl rfl ?_
          refine ggoto X hx 293 (hb hby at_289) (by decide) (by decide) ?_
          exact gRetL X hx hlk hret rfl (Or.inl ⟨rfl, by simp, _, rfl⟩) (hb hby at_293) eT hS hk (by decide) (by decide) ⟨rfl, N⟩
        · rw [if_neg re559]
          refine gifYes X hx 227 (hb hby at_218) (by decide) (by decide) (by decide) ?_
          refine giload (v := (3 : Int32)) X hx 229 (hb hby at_227) rfl rfl ?_
          refine giconst X hx (2 : Int32) 230 (hb hby at_229) rfl rfl ?_
          refine gicmpNo X hx 233 (hb hby at_230) rfl (by decide) ?_
          refine gaload (v := (.ref qq)) X hx 235 (hb hby at_233) rfl rfl rfl ?_
          refine gaload (v := (.ref s1)) X hx 237 (hb hby at_235) rfl rfl rfl ?_
          refine gvirtual (y := own_mEq) (z := own_mEq) (a := qq) (argsL := [(.ref s1)]) (st := []) X hx hZ hown (own_w88 hw) (own_w80 hw) (notFace_of_selects (args := #[]) (mvT hZ (own_w82 hw))) (own_w82 hw) (own_w81 hw) (by decide) P4_Str.exa (payEq (W := 0) hZ hw P4_Str G466 (O2.ext P0_Old.2) P5 (by decide) (by decide)) eT (by rw [hml]; rfl) (lenOf own_pd12 rfl) rfl (Nat.le_of_eq rfl) 27 100 rfl rfl (by decide) (by decide) 240 (hb hby at_237) rfl ?_
          clear X eT; clear T; intro v T h569 L2 Lc X eT hL hQ570
          obtain ⟨rfl, rfl, hh⟩ := hQ570
          replace hh := hh.symm; subst hh
          replace N : Fr n0 L2 := by rw [hL]; exact Fr.app N (Fr.nil n0)
          clear hL
          show Go p e below _ T (mkF m 240 #[.val (.int p0), .val (.int p1), .val (.int p2), .val (.int p3), .val (.int p4), .val (.int p5), .val (.int (3 : Int32)), .val (.int sel), .val (.ref s0), .val (.ref s1), .val (.ref s2), .val (.ref qq), .val (.ref b2), .val (.int (0 : Int32)), .val (.int (1 : Int32)), .val (.int (0 : Int32)), .unset] [(.int (if aq_ = a1_ then 1 else 0))])
          have re571 : ¬ aq_ = a1_ := fun z => re559 (z.trans re456)
          rw [if_neg re571]
          refine gifYes X hx 250 (hb hby at_240) (by decide) (by decide) (by decide) ?_
          refine giload (v := (3 : Int32)) X hx 252 (hb hby at_250) rfl rfl ?_
          refine giconst X hx (3 : Int32) 253 (hb hby at_252) rfl rfl ?_
          refine gicmpNo X hx 256 (hb hby at_253) rfl (by decide) ?_
          refine gaload (v := (.ref qq)) X hx 258 (hb hby at_256) rfl rfl rfl ?_
          refine gaload (v := (.ref s2)) X hx 260 (hb hby at_258) rfl rfl rfl ?_
          refine gvirtual (y := own_mEq) (z := own_mEq) (a := qq) (argsL := [(.ref s2)]) (st := []) X hx hZ hown (own_w88 hw) (own_w80 hw) (notFace_of_selects (args := #[]) (mvT hZ (own_w82 hw))) (own_w82 hw) (own_w81 hw) (by decide) P4_Str.exa (payEq (W := 0) hZ hw P4_Str G494 (O2.ext P0_Old.2) P5 (by decide) (by decide)) eT (by rw [hml]; rfl) (lenOf own_pd12 rfl) rfl (Nat.le_of_eq rfl) 27 100 rfl rfl (by decide) (by decide) 263 (hb hby at_260) rfl ?_
          clear X eT; clear T; intro v T h572 L2 Lc X eT hL hQ573
          obtain ⟨rfl, rfl, hh⟩ := hQ573
          replace hh := hh.symm; subst hh
          replace N : Fr n0 L2 := by rw [hL]; exact Fr.app N (Fr.nil n0)
          clear hL
          show Go p e below _ T (mkF m 263 #[.val (.int p0), .val (.int p1), .val (.int p2), .val (.int p3), .val (.int p4), .val (.int p5), .val (.int (3 : Int32)), .val (.int sel), .val (.ref s0), .val (.ref s1), .val (.ref s2), .val (.ref qq), .val (.ref b2), .val (.int (0 : Int32)), .val (.int (1 : Int32)), .val (.int (0 : Int32)), .unset] [(.int (if aq_ = a2_ then 1 else 0))])
          have re574 : ¬ aq_ = a2_ := fun z => re559 (z.trans re484)
          rw [if_neg re574]
          refine gifYes X hx 273 (hb hby at_263) (by decide) (by decide) (by decide) ?_
          refine giconst X hx (-1 : Int32) 274 (hb hby at_273) rfl rfl ?_
          refine gistore X hx #[.val (.int p0), .val (.int p1), .val (.int p2), .val (.int p3), .val (.int p4), .val (.int p5), .val (.int (3 : Int32)), .val (.int sel), .val (.ref s0), .val (.ref s1), .val (.ref s2), .val (.ref qq), .val (.ref b2), .val (.int (0 : Int32)), .val (.int (1 : Int32)), .val (.int (0 : Int32)), .val (.int (-1 : Int32))] 276 (hb hby at_274) rfl rfl ?_
          refine gaload (v := (.ref b2)) X hx 278 (hb hby at_276) rfl rfl rfl ?_
          refine gaload (v := (.ref qq)) X hx 280 (hb hby at_278) rfl rfl rfl ?_
          obtain ⟨q575, hp576, hR577, ha578, -⟩ := own_miss (ds := ([a0_] : List (List Int32))) (cs := aq_) I455 (by simp [re559])
          have ne_u0_qq : u0 ≠ qq := Str.ne2 G448 P4_Str.exa (own_w6 hw)
          refine gvirtual (y := own_mNo) (z := own_mNo) (a := b2) (argsL := [(.ref qq)]) (st := []) X hx hZ hown (own_w89 hw) (own_w90 hw) (notFace_of_selects (args := #[]) (mvT hZ (own_w92 hw))) (own_w92 hw) (own_w91 hw) (by decide) A4 (payP (W := 0) (rmNo1 l Z a0 hw (qq) (uq) (aq_) ((own_r32.set q439.toNatClampNeg (1 : Int32))) (q575) (4) (b2) (ss_8) (sl_9) (ks_10) (ki_11) (G1) (s0) (u0) (a0_) h490 n0 (Nat.le_trans Z0 sz_h) ge_qq P0_Old A4 G449 G450 G451 G452 G453 G454 P4_Str P11_Fld P12_Fld G448 (O2) (P5) (I455) (hp576) (laq_) (ne_s0_qq) (ne_u0_qq) (hR577)) hZ (own_w93 hw) (own_w29 hw) (by decide) (by decide)) eT (by rw [hml]; rfl) (lenOf own_pd13 rfl) rfl (Nat.le_of_eq rfl) 27 100 rfl rfl (by decide) (by decide) 283 (hb hby at_280) rfl ?_
          clear X eT; clear T; intro v T h579 L2 Lc X eT hL hQ580
          obtain ⟨rfl, Nq, K581, G583⟩ := hQ580
          replace N : Fr n0 L2 := by rw [hL]; exact Fr.app N Nq
          clear Nq hL
          have ne_u1_qq : u1 ≠ qq := Str.ne2 G466 P4_Str.exa (own_w6 hw)
          have ne_u2_qq : u2 ≠ qq := Str.ne2 G494 P4_Str.exa (own_w6 hw)
          replace P0_Old := P0_Old.keep K581 (allS ge_qq all0)
          replace A4 := A4.keep K581
          replace G448 := G448.keep K581 (ninS ne_s0_qq nin0) (ninS ne_u0_qq nin0)
          replace G449 := G449.keep K581 (ninS ne_b2_qq nin0)
          replace G450 := G450.keep K581 (ninS ne_b2_qq nin0)
          replace G451 := G451.keep K581 (ninS ne_b2_qq nin0)
          replace G452 := G452.keep K581 (ninS ne_b2_qq nin0)
          replace G453 := G453.keep K581 (ninS ne_ss_8_qq nin0)
          replace G454 := G454.keep K581 (ninS ne_sl_9_qq nin0)
          replace G466 := G466.keep K581 (ninS ne_s1_qq nin0) (ninS ne_u1_qq nin0)
          replace G494 := G494.keep K581 (ninS ne_s2_qq nin0) (ninS ne_u2_qq nin0)
          replace hk := Nat.le_trans hk K581.1
          replace sz_h : h0.size ≤ h579.size := Nat.le_trans sz_h K581.1
          rw [show own_at (own_r32.set q439.toNatClampNeg (1 : Int32)) q575 = (0 : Int32) from ha578]
          rw [show ((0 : Int32) - (1 : Int32)) = (-1 : Int32) from by decide]
          show Go p e below _ T (mkF m 283 #[.val (.int p0), .val (.int p1), .val (.int p2), .val (.int p3), .val (.int p4), .val (.int p5), .val (.int (3 : Int32)), .val (.int sel), .val (.ref s0), .val (.ref s1), .val (.ref s2), .val (.ref qq), .val (.ref b2), .val (.int (0 : Int32)), .val (.int (1 : Int32)), .val (.int (0 : Int32)), .val (.int (-1 : Int32))] [(.int (-1 : Int32))])
          refine giload (v := (-1 : Int32)) X hx 285 (hb hby at_283) rfl rfl ?_
          refine gicmpNo X hx 288 (hb hby at_285) rfl (by decide) ?_
          refine giconst X hx (1 : Int32) 289 (hb hby at_288) rfl rfl ?_
          refine ggoto X hx 293 (hb hby at_289) (by decide) (by decide) ?_
          exact gRetL X hx hlk hret rfl (Or.inl ⟨rfl, by simp, _, rfl⟩) (hb hby at_293) eT hS hk (by decide) (by decide) ⟨rfl, N⟩
      · obtain ⟨q495, hp496, hR497, ha498, hI499⟩ := own_miss (ds := ([a0_] : List (List Int32))) (cs := a2_) I455 (by simp [re484])
        have ne_u0_s2 : u0 ≠ s2 := Str.ne2 G448 P3_Str.exa (own_w6 hw)
        refine gvirtual (y := own_mAd) (z := own_mAd) (a := b2) (argsL := [(.ref s2)]) (st := []) X hx hZ hown (own_w48 hw) (own_w49 hw) (notFace_of_selects (args := #[]) (mvT hZ (own_w51 hw))) (own_w51 hw) (own_w50 hw) (by decide) A4 (payP (W := 0) (rmAd1 l Z a0 hw (s2) (u2) (a2_) ((own_r32.set q439.toNatClampNeg (1 : Int32))) (q495) (4) (b2) (ss_8) (sl_9) (ks_10) (ki_11) (G1) (s0) (u0) (a0_) h462 n0 (Nat.le_trans Z0 sz_h) ge_s2 ge_b2 ge_ss_8 ge_sl_9 P0_Old A4 G449 G450 G451 G452 G453 G454 P3_Str P9_Fld P10_Fld G448 (O2) (P5) (I455) (hp496) (la2_) (ne_s0_s2) (ne_u0_s2) (hR497) (ha498) (pp20) (ne_ss_8_sl_9) (ne_u0_sl_9) (ne_u2_sl_9)) hZ (own_w52 hw) (own_w29 hw) (by decide) (by decide)) eT (by rw [hml]; rfl) (lenOf own_pd13 rfl) rfl (Nat.le_of_eq rfl) 27 100 rfl rfl (by decide) (by decide) 133 (hb hby at_130) rfl ?_
        clear X eT; clear T; intro v T h500 L2 Lc X eT hL hQ501
        obtain ⟨rfl, Nq, K502, G504, G505, G506, G507, G508, G509, G510⟩ := hQ501
        replace N : Fr n0 L2 := by rw [hL]; exact Fr.app N Nq
        clear Nq hL
        have ne_uq_s2 : uq ≠ s2 := Str.ne2 P4_Str P3_Str.exa (own_w6 hw)
        have ne_u1_s2 : u1 ≠ s2 := Str.ne2 G466 P3_Str.exa (own_w6 hw)
        replace P0_Old := P0_Old.keep K502 (allS ge_s2 (allS ge_b2 (allS ge_ss_8 (allS ge_sl_9 all0))))
        replace P4_Str := P4_Str.keep K502 (ninS ne_qq_s2 (ninS ne_qq_b2 (ninS ne_qq_ss_8 (ninS ne_qq_sl_9 nin0)))) (ninS ne_uq_s2 (ninS ne_uq_b2 (ninS ne_uq_ss_8 (ninS ne_uq_sl_9 nin0))))
        replace P11_Fld := P11_Fld.keep K502 (ninS ne_qq_s2 (ninS ne_qq_b2 (ninS ne_qq_ss_8 (ninS ne_qq_sl_9 nin0))))
        replace P12_Fld := P12_Fld.keep K502 (ninS ne_qq_s2 (ninS ne_qq_b2 (ninS ne_qq_ss_8 (ninS ne_qq_sl_9 nin0))))
        replace A4 := A4.keep K502
        replace G448 := G448.keep K502 (ninS ne_s0_s2 (ninS ne_s0_b2 (ninS ne_s0_ss_8 (ninS ne_s0_sl_9 nin0)))) (ninS ne_u0_s2 (ninS ne_u0_b2 (ninS ne_u0_ss_8 (ninS ne_u0_sl_9 nin0))))
        replace G466 := G466.keep K502 (ninS ne_s1_s2 (ninS ne_s1_b2 (ninS ne_s1_ss_8 (ninS ne_s1_sl_9 nin0)))) (ninS ne_u1_s2 (ninS ne_u1_b2 (ninS ne_u1_ss_8 (ninS ne_u1_sl_9 nin0))))
        replace hk := Nat.le_trans hk K502.1
        replace sz_h : h0.size ≤ h500.size := Nat.le_trans sz_h K502.1
        show Go p e below _ T (mkF m 133 #[.val (.int p0), .val (.int p1), .val (.int p2), .val (.int p3), .val (.int p4), .val (.int p5), .val (.int (3 : Int32)), .val (.int sel), .val (.ref s0), .val (.ref s1), .val (.ref s2), .val (.ref qq), .val (.ref b2), .unset, .unset, .unset, .unset] [(.int (1 : Int32))])
        have I511 : own_Inv ((own_r32.set q439.toNatClampNeg (1 : Int32)).set q495.toNatClampNeg (2 : Int32)) ([a0_, a2_] : List (List Int32)) := hI499 (by simp)
        refine gpop X hx 134 (hb hby at_133) rfl rfl ?_
        refine gaload (v := (.ref s1)) X hx 136 (hb hby at_134) rfl rfl rfl ?_
        refine gaload (v := (.ref s0)) X hx 138 (hb hby at_136) rfl rfl rfl ?_
        refine gvirtual (y := own_mEq) (z := own_mEq) (a := s1) (argsL := [(.ref s0)]) (st := []) X hx hZ hown (own_w88 hw) (own_w80 hw) (notFace_of_selects (args := #[]) (mvT hZ (own_w82 hw))) (own_w82 hw) (own_w81 hw) (by decide) G466.exa (payEq (W := 0) hZ hw G466 G448 (O2.ext P0_Old.2) P5 (by decide) (by decide)) eT (by rw [hml]; rfl) (lenOf own_pd12 rfl) rfl (Nat.le_of_eq rfl) 27 100 rfl rfl (by decide) (by decide) 141 (hb hby at_138) rfl ?_
        clear X eT; clear T; intro v T h584 L2 Lc X eT hL hQ585
        obtain ⟨rfl, rfl, hh⟩ := hQ585
        replace hh := hh.symm; subst hh
        replace N : Fr n0 L2 := by rw [hL]; exact Fr.app N (Fr.nil n0)
        clear hL
        show Go p e below _ T (mkF m 141 #[.val (.int p0), .val (.int p1), .val (.int p2), .val (.int p3), .val (.int p4), .val (.int p5), .val (.int (3 : Int32)), .val (.int sel), .val (.ref s0), .val (.ref s1), .val (.ref s2), .val (.ref qq), .val (.ref b2), .unset, .unset, .unset, .unset] [(.int (if a1_ = a0_ then 1 else 0))])
        rw [if_pos re456]
        refine gifNo X hx 144 (hb hby at_141) rfl (by decide) ?_
        refine giconst X hx (0 : Int32) 145 (hb hby at_144) rfl rfl ?_
        refine ggoto X hx 149 (hb hby at_145) (by decide) (by decide) ?_
        refine gistore X hx #[.val (.int p0), .val (.int p1), .val (.int p2), .val (.int p3), .val (.int p4), .val (.int p5), .val (.int (3 : Int32)), .val (.int sel), .val (.ref s0), .val (.ref s1), .val (.ref s2), .val (.ref qq), .val (.ref b2), .val (.int (0 : Int32)), .unset, .unset, .unset] 151 (hb hby at_149) rfl rfl ?_
        refine gaload (v := (.ref s1)) X hx 153 (hb hby at_151) rfl rfl rfl ?_
        refine gaload (v := (.ref s0)) X hx 155 (hb hby at_153) rfl rfl rfl ?_
        refine gvirtual (y := own_mEq) (z := own_mEq) (a := s1) (argsL := [(.ref s0)]) (st := []) X hx hZ hown (own_w88 hw) (own_w80 hw) (notFace_of_selects (args := #[]) (mvT hZ (own_w82 hw))) (own_w82 hw) (own_w81 hw) (by decide) G466.exa (payEq (W := 0) hZ hw G466 G448 (O2.ext P0_Old.2) P5 (by decide) (by decide)) eT (by rw [hml]; rfl) (lenOf own_pd12 rfl) rfl (Nat.le_of_eq rfl) 27 100 rfl rfl (by decide) (by decide) 158 (hb hby at_155) rfl ?_
        clear X eT; clear T; intro v T h586 L2 Lc X eT hL hQ587
        obtain ⟨rfl, rfl, hh⟩ := hQ587
        replace hh := hh.symm; subst hh
        replace N : Fr n0 L2 := by rw [hL]; exact Fr.app N (Fr.nil n0)
        clear hL
        show Go p e below _ T (mkF m 158 #[.val (.int p0), .val (.int p1), .val (.int p2), .val (.int p3), .val (.int p4), .val (.int p5), .val (.int (3 : Int32)), .val (.int sel), .val (.ref s0), .val (.ref s1), .val (.ref s2), .val (.ref qq), .val (.ref b2), .val (.int (0 : Int32)), .unset, .unset, .unset] [(.int (if a1_ = a0_ then 1 else 0))])
        rw [if_pos re456]
        refine gifNo X hx 161 (hb hby at_158) rfl (by decide) ?_
        refine giconst X hx (1 : Int32) 162 (hb hby at_161) rfl rfl ?_
        refine ggoto X hx 166 (hb hby at_162) (by decide) (by decide) ?_
        refine gistore X hx #[.val (.int p0), .val (.int p1), .val (.int p2), .val (.int p3), .val (.int p4), .val (.int p5), .val (.int (3 : Int32)), .val (.int sel), .val (.ref s0), .val (.ref s1), .val (.ref s2), .val (.ref qq), .val (.ref b2), .val (.int (0 : Int32)), .val (.int (1 : Int32)), .unset, .unset] 168 (hb hby at_166) rfl rfl ?_
        refine gaload (v := (.ref s2)) X hx 170 (hb hby at_168) rfl rfl rfl ?_
        refine gaload (v := (.ref s0)) X hx 172 (hb hby at_170) rfl rfl rfl ?_
        refine gvirtual (y := own_mEq) (z := own_mEq) (a := s2) (argsL := [(.ref s0)]) (st := []) X hx hZ hown (own_w88 hw) (own_w80 hw) (notFace_of_selects (args := #[]) (mvT hZ (own_w82 hw))) (own_w82 hw) (own_w81 hw) (by decide) G504.exa (payEq (W := 0) hZ hw G504 G448 (O2.ext P0_Old.2) P5 (by decide) (by decide)) eT (by rw [hml]; rfl) (lenOf own_pd12 rfl) rfl (Nat.le_of_eq rfl) 27 100 rfl rfl (by decide) (by decide) 175 (hb hby at_172) rfl ?_
        clear X eT; clear T; intro v T h588 L2 Lc X eT hL hQ589
        obtain ⟨rfl, rfl, hh⟩ := hQ589
        replace hh := hh.symm; subst hh
        replace N : Fr n0 L2 := by rw [hL]; exact Fr.app N (Fr.nil n0)
        clear hL
        show Go p e below _ T (mkF m 175 #[.val (.int p0), .val (.int p1), .val (.int p2), .val (.int p3), .val (.int p4), .val (.int p5), .val (.int (3 : Int32)), .val (.int sel), .val (.ref s0), .val (.ref s1), .val (.ref s2), .val (.ref qq), .val (.ref b2), .val (.int (0 : Int32)), .val (.int (1 : Int32)), .unset, .unset] [(.int (if a2_ = a0_ then 1 else 0))])
        rw [if_neg re484]
        refine gifYes X hx 184 (hb hby at_175) (by decide) (by decide) (by decide) ?_
        refine gaload (v := (.ref s2)) X hx 186 (hb hby at_184) rfl rfl rfl ?_
        refine gaload (v := (.ref s1)) X hx 188 (hb hby at_186) rfl rfl rfl ?_
        refine gvirtual (y := own_mEq) (z := own_mEq) (a := s2) (argsL := [(.ref s1)]) (st := []) X hx hZ hown (own_w88 hw) (own_w80 hw) (notFace_of_selects (args := #[]) (mvT hZ (own_w82 hw))) (own_w82 hw) (own_w81 hw) (by decide) G504.exa (payEq (W := 0) hZ hw G504 G466 (O2.ext P0_Old.2) P5 (by decide) (by decide)) eT (by rw [hml]; rfl) (lenOf own_pd12 rfl) rfl (Nat.le_of_eq rfl) 27 100 rfl rfl (by decide) (by decide) 191 (hb hby at_188) rfl ?_
        clear X eT; clear T; intro v T h590 L2 Lc X eT hL hQ591
        obtain ⟨rfl, rfl, hh⟩ := hQ591
        replace hh := hh.symm; subst hh
        replace N : Fr n0 L2 := by rw [hL]; exact Fr.app N (Fr.nil n0)
        clear hL
        show Go p e below _ T (mkF m 191 #[.val (.int p0), .val (.int p1), .val (.int p2), .val (.int p3), .val (.int p4), .val (.int p5), .val (.int (3 : Int32)), .val (.int sel), .val (.ref s0), .val (.ref s1), .val (.ref s2), .val (.ref qq), .val (.ref b2), .val (.int (0 : Int32)), .val (.int (1 : Int32)), .unset, .unset] [(.int (if a2_ = a1_ then 1 else 0))])
        have re592 : ¬ a2_ = a1_ := fun z => re484 (z.trans re456)
        rw [if_neg re592]
        refine gifYes X hx 201 (hb hby at_191) (by decide) (by decide) (by decide) ?_
        refine giload (v := (1 : Int32)) X hx 203 (hb hby at_201) rfl rfl ?_
        refine gistore X hx #[.val (.int p0), .val (.int p1), .val (.int p2), .val (.int p3), .val (.int p4), .val (.int p5), .val (.int (3 : Int32)), .val (.int sel), .val (.ref s0), .val (.ref s1), .val (.ref s2), .val (.ref qq), .val (.ref b2), .val (.int (0 : Int32)), .val (.int (1 : Int32)), .val (.int (1 : Int32)), .unset] 205 (hb hby at_203) rfl rfl ?_
        refine giload (v := (3 : Int32)) X hx 207 (hb hby at_205) rfl rfl ?_
        refine giconst X hx (1 : Int32) 208 (hb hby at_207) rfl rfl ?_
        refine gicmpNo X hx 211 (hb hby at_208) rfl (by decide) ?_
        refine gaload (v := (.ref qq)) X hx 213 (hb hby at_211) rfl rfl rfl ?_
        refine gaload (v := (.ref s0)) X hx 215 (hb hby at_213) rfl rfl rfl ?_
        refine gvirtual (y := own_mEq) (z := own_mEq) (a := qq) (argsL := [(.ref s0)]) (st := []) X hx hZ hown (own_w88 hw) (own_w80 hw) (notFace_of_selects (args := #[]) (mvT hZ (own_w82 hw))) (own_w82 hw) (own_w81 hw) (by decide) P4_Str.exa (payEq (W := 0) hZ hw P4_Str G448 (O2.ext P0_Old.2) P5 (by decide) (by decide)) eT (by rw [hml]; rfl) (lenOf own_pd12 rfl) rfl (Nat.le_of_eq rfl) 27 100 rfl rfl (by decide) (by decide) 218 (hb hby at_215) rfl ?_
        clear X eT; clear T; intro v T h593 L2 Lc X eT hL hQ594
        obtain ⟨rfl, rfl, hh⟩ := hQ594
        replace hh := hh.symm; subst hh
        replace N : Fr n0 L2 := by rw [hL]; exact Fr.app N (Fr.nil n0)
        clear hL
        show Go p e below _ T (mkF m 218 #[.val (.int p0), .val (.int p1), .val (.int p2), .val (.int p3), .val (.int p4), .val (.int p5), .val (.int (3 : Int32)), .val (.int sel), .val (.ref s0), .val (.ref s1), .val (.ref s2), .val (.ref qq), .val (.ref b2), .val (.int (0 : Int32)), .val (.int (1 : Int32)), .val (.int (1 : Int32)), .unset] [(.int (if aq_ = a0_ then 1 else 0))])
        rcases Decidable.em (aq_ = a0_) with re595 | re595
        · rw [if_pos re595]
          refine gifNo X hx 221 (hb hby at_218) rfl (by decide) ?_
          refine giconst X hx (0 : Int32) 222 (hb hby at_221) rfl rfl ?_
          refine gistore X hx #[.val (.int p0), .val (.int p1), .val (.int p2), .val (.int p3), .val (.int p4), .val (.int p5), .val (.int (3 : Int32)), .val (.int sel), .val (.ref s0), .val (.ref s1), .val (.ref s2), .val (.ref qq), .val (.ref b2), .val (.int (0 : Int32)), .val (.int (1 : Int32)), .val (.int (1 : Int32)), .val (.int (0 : Int32))] 224 (hb hby at_222) rfl rfl ?_
          refine ggoto X hx 276 (hb hby at_224) (by decide) (by decide) ?_
          refine gaload (v := (.ref b2)) X hx 278 (hb hby at_276) rfl rfl rfl ?_
          refine gaload (v := (.ref qq)) X hx 280 (hb hby at_278) rfl rfl rfl ?_
          obtain ⟨q596, hp597, hR598, ha599⟩ := own_found (i := 0) (ds := ([a0_, a2_] : List (List Int32))) I511 (by simp)
          have ne_u0_qq : u0 ≠ qq := Str.ne2 G448 P4_Str.exa (own_w6 hw)
          have ne_u2_qq : u2 ≠ qq := Str.ne2 G504 P4_Str.exa (own_w6 hw)
          refine gvirtual (y := own_mNo) (z := own_mNo) (a := b2) (argsL := [(.ref qq)]) (st := []) X hx hZ hown (own_w89 hw) (own_w90 hw) (notFace_of_selects (args := #[]) (mvT hZ (own_w92 hw))) (own_w92 hw) (own_w91 hw) (by decide) A4 (payP (W := 0) (rmNo2 l Z a0 hw (qq) (uq) (aq_) (((own_r32.set q439.toNatClampNeg (1 : Int32)).set q495.toNatClampNeg (2 : Int32))) (q596) (4) (b2) (ss_8) (sl_9) (ks_10) (ki_11) (G1) (s0) (s2) (u0) (u2) (a0_) (a2_) h500 n0 (Nat.le_trans Z0 sz_h) ge_qq P0_Old A4 G505 G506 G507 G508 G509 G510 P4_Str P11_Fld P12_Fld G448 G504 (O2) (P5) (I511) (by rw [re595]; exact hp597) (laq_) (ne_s0_qq) (ne_s2_qq) (ne_u0_qq) (ne_u2_qq) (hR598)) hZ (own_w93 hw) (own_w29 hw) (by decide) (by decide)) eT (by rw [hml]; rfl) (lenOf own_pd13 rfl) rfl (Nat.le_of_eq rfl) 27 100 rfl rfl (by decide) (by decide) 283 (hb hby at_280) rfl ?_
          clear X eT; clear T; intro v T h600 L2 Lc X eT hL hQ601
          obtain ⟨rfl, Nq, K602, G604⟩ := hQ601
          replace N : Fr n0 L2 := by rw [hL]; exact Fr.app N Nq
          clear Nq hL
          have ne_u1_qq : u1 ≠ qq := Str.ne2 G466 P4_Str.exa (own_w6 hw)
          replace P0_Old := P0_Old.keep K602 (allS ge_qq all0)
          replace A4 := A4.keep K602
          replace G448 := G448.keep K602 (ninS ne_s0_qq nin0) (ninS ne_u0_qq nin0)
          replace G466 := G466.keep K602 (ninS ne_s1_qq nin0) (ninS ne_u1_qq nin0)
          replace G504 := G504.keep K602 (ninS ne_s2_qq nin0) (ninS ne_u2_qq nin0)
          replace G505 := G505.keep K602 (ninS ne_b2_qq nin0)
          replace G506 := G506.keep K602 (ninS ne_b2_qq nin0)
          replace G507 := G507.keep K602 (ninS ne_b2_qq nin0)
          replace G508 := G508.keep K602 (ninS ne_b2_qq nin0)
          replace G509 := G509.keep K602 (ninS ne_ss_8_qq nin0)
          replace G510 := G510.keep K602 (ninS ne_sl_9_qq nin0)
          replace hk := Nat.le_trans hk K602.1
          replace sz_h : h0.size ≤ h600.size := Nat.le_trans sz_h K602.1
          rw [show own_at ((own_r32.set q439.toNatClampNeg (1 : Int32)).set q495.toNatClampNeg (2 : Int32)) q596 = (1 : Int32) from ha599]
          rw [show ((1 : Int32) - (1 : Int32)) = (0 : Int32) from by decide]
          show Go p e below _ T (mkF m 283 #[.val (.int p0), .val (.int p1), .val (.int p2), .val (.int p3), .val (.int p4), .val (.int p5), .val (.int (3 : Int32)), .val (.int sel), .val (.ref s0), .val (.ref s1), .val (.ref s2), .val (.ref qq), .val (.ref b2), .val (.int (0 : Int32)), .val (.int (1 : Int32)), .val (.int (1 : Int32)), .val (.int (0 : Int32))] [(.int (0 : Int32))])
          refine giload (v := (0 : Int32)) X hx 285 (hb hby at_283) rfl rfl ?_
          refine gicmpNo X hx 288 (hb hby at_285) rfl (by decide) ?_
          refine giconst X hx (1 : Int32) 289 (hb hby at_288) rfl rfl ?_
          refine ggoto X hx 293 (hb hby at_289) (by decide) (by decide) ?_
          exact gRetL X hx hlk hret rfl (Or.inl ⟨rfl, by simp, _, rfl⟩) (hb hby at_293) eT hS hk (by decide) (by decide) ⟨rfl, N⟩
        · rw [if_neg re595]
          refine gifYes X hx 227 (hb hby at_218) (by decide) (by decide) (by decide) ?_
          refine giload (v := (3 : Int32)) X hx 229 (hb hby at_227) rfl rfl ?_
          refine giconst X hx (2 : Int32) 230 (hb hby at_229) rfl rfl ?_
          refine gicmpNo X hx 233 (hb hby at_230) rfl (by decide) ?_
          refine gaload (v := (.ref qq)) X hx 235 (hb hby at_233) rfl rfl rfl ?_
          refine gaload (v := (.ref s1)) X hx 237 (hb hby at_235) rfl rfl rfl ?_
          refine gvirtual (y := own_mEq) (z := own_mEq) (a := qq) (argsL := [(.ref s1)]) (st := []) X hx hZ hown (own_w88 hw) (own_w80 hw) (notFace_of_selects (args := #[]) (mvT hZ (own_w82 hw))) (own_w82 hw) (own_w81 hw) (by decide) P4_Str.exa (payEq (W := 0) hZ hw P4_Str G466 (O2.ext P0_Old.2) P5 (by decide) (by decide)) eT (by rw [hml]; rfl) (lenOf own_pd12 rfl) rfl (Nat.le_of_eq rfl) 27 100 rfl rfl (by decide) (by decide) 240 (hb hby at_237) rfl ?_
          clear X eT; clear T; intro v T h605 L2 Lc X eT hL hQ606
          obtain ⟨rfl, rfl, hh⟩ := hQ606
          replace hh := hh.symm; subst hh
          replace N : Fr n0 L2 := by rw [hL]; exact Fr.app N (Fr.nil n0)
          clear hL
          show Go p e below _ T (mkF m 240 #[.val (.int p0), .val (.int p1), .val (.int p2), .val (.int p3), .val (.int p4), .val (.int p5), .val (.int (3 : Int32)), .val (.int sel), .val (.ref s0), .val (.ref s1), .val (.ref s2), .val (.ref qq), .val (.ref b2), .val (.int (0 : Int32)), .val (.int (1 : Int32)), .val (.int (1 : Int32)), .unset] [(.int (if aq_ = a1_ then 1 else 0))])
          have re607 : ¬ aq_ = a1_ := fun z => re595 (z.trans re456)
          rw [if_neg re607]
          refine gifYes X hx 250 (hb hby at_240) (by decide) (by decide) (by decide) ?_
          refine giload (v := (3 : Int32)) X hx 252 (hb hby at_250) rfl rfl ?_
          refine giconst X hx (3 : Int32) 253 (hb hby at_252) rfl rfl ?_
          refine gicmpNo X hx 256 (hb hby at_253) rfl (by decide) ?_
          refine gaload (v := (.ref qq)) X hx 258 (hb hby at_256) rfl rfl rfl ?_
          refine gaload (v := (.ref s2)) X hx 260 (hb hby at_258) rfl rfl rfl ?_
          refine gvirtual (y := own_mEq) (z := own_mEq) (a := qq) (argsL := [(.ref s2)]) (st := []) X hx hZ hown (own_w88 hw) (own_w80 hw) (notFace_of_selects (args := #[]) (mvT hZ (own_w82 hw))) (own_w82 hw) (own_w81 hw) (by decide) P4_Str.exa (payEq (W := 0) hZ hw P4_Str G504 (O2.ext P0_Old.2) P5 (by decide) (by decide)) eT (by rw [hml]; rfl) (lenOf own_pd12 rfl) rfl (Nat.le_of_eq rfl) 27 100 rfl rfl (by decide) (by decide) 263 (hb hby at_260) rfl ?_
          clear X eT; clear T; intro v T h608 L2 Lc X eT hL hQ609
          obtain ⟨rfl, rfl, hh⟩ := hQ609
          replace hh := hh.symm; subst hh
          replace N : Fr n0 L2 := by rw [hL]; exact Fr.app N (Fr.nil n0)
          clear hL
          show Go p e below _ T (mkF m 263 #[.val (.int p0), .val (.int p1), .val (.int p2), .val (.int p3), .val (.int p4), .val (.int p5), .val (.int (3 : Int32)), .val (.int sel), .val (.ref s0), .val (.ref s1), .val (.ref s2), .val (.ref qq), .val (.ref b2), .val (.int (0 : Int32)), .val (.int (1 : Int32)), .val (.int (1 : Int32)), .unset] [(.int (if aq_ = a2_ then 1 else 0))])
          rcases Decidable.em (aq_ = a2_) with re610 | re610
          · rw [if_pos re610]
            refine gifNo X hx 266 (hb hby at_263) rfl (by decide) ?_
            refine giload (v := (1 : Int32)) X hx 268 (hb hby at_266) rfl rfl ?_
            refine gistore X hx #[.val (.int p0), .val (.int p1), .val (.int p2), .val (.int p3), .val (.int p4), .val (.int p5), .val (.int (3 : Int32)), .val (.int sel), .val (.ref s0), .val (.ref s1), .val (.ref s2), .val (.ref qq), .val (.ref b2), .val (.int (0 : Int32)), .val (.int (1 : Int32)), .val (.int (1 : Int32)), .val (.int (1 : Int32))] 270 (hb hby at_268) rfl rfl ?_
            refine ggoto X hx 276 (hb hby at_270) (by decide) (by decide) ?_
            refine gaload (v := (.ref b2)) X hx 278 (hb hby at_276) rfl rfl rfl ?_
            refine gaload (v := (.ref qq)) X hx 280 (hb hby at_278) rfl rfl rfl ?_
            obtain ⟨q611, hp612, hR613, ha614⟩ := own_found (i := 1) (ds := ([a0_, a2_] : List (List Int32))) I511 (by simp)
            have ne_u0_qq : u0 ≠ qq := Str.ne2 G448 P4_Str.exa (own_w6 hw)
            have ne_u2_qq : u2 ≠ qq := Str.ne2 G504 P4_Str.exa (own_w6 hw)
            refine gvirtual (y := own_mNo) (z := own_mNo) (a := b2) (argsL := [(.ref qq)]) (st := []) X hx hZ hown (own_w89 hw) (own_w90 hw) (notFace_of_selects (args := #[]) (mvT hZ (own_w92 hw))) (own_w92 hw) (own_w91 hw) (by decide) A4 (payP (W := 0) (rmNo2 l Z a0 hw (qq) (uq) (aq_) (((own_r32.set q439.toNatClampNeg (1 : Int32)).set q495.toNatClampNeg (2 : Int32))) (q611) (4) (b2) (ss_8) (sl_9) (ks_10) (ki_11) (G1) (s0) (s2) (u0) (u2) (a0_) (a2_) h500 n0 (Nat.le_trans Z0 sz_h) ge_qq P0_Old A4 G505 G506 G507 G508 G509 G510 P4_Str P11_Fld P12_Fld G448 G504 (O2) (P5) (I511) (by rw [re610]; exact hp612) (laq_) (ne_s0_qq) (ne_s2_qq) (ne_u0_qq) (ne_u2_qq) (hR613)) hZ (own_w93 hw) (own_w29 hw) (by decide) (by decide)) eT (by rw [hml]; rfl) (lenOf own_pd13 rfl) rfl (Nat.le_of_eq rfl) 27 100 rfl rfl (by decide) (by decide) 283 (hb hby at_280) rfl ?_
            clear X eT; clear T; intro v T h615 L2 Lc X eT hL hQ616
            obtain ⟨rfl, Nq, K617, G619⟩ := hQ616
            replace N : Fr n0 L2 := by rw [hL]; exact Fr.app N Nq
            clear Nq hL
            have ne_u1_qq : u1 ≠ qq := Str.ne2 G466 P4_Str.exa (own_w6 hw)
            replace P0_Old := P0_Old.keep K617 (allS ge_qq all0)
            replace A4 := A4.keep K617
            replace G448 := G448.keep K617 (ninS ne_s0_qq nin0) (ninS ne_u0_qq nin0)
            replace G466 := G466.keep K617 (ninS ne_s1_qq nin0) (ninS ne_u1_qq nin0)
            replace G504 := G504.keep K617 (ninS ne_s2_qq nin0) (ninS ne_u2_qq nin0)
            replace G505 := G505.keep K617 (ninS ne_b2_qq nin0)
            replace G506 := G506.keep K617 (ninS ne_b2_qq nin0)
            replace G507 := G507.keep K617 (ninS ne_b2_qq nin0)
            replace G508 := G508.keep K617 (ninS ne_b2_qq nin0)
            replace G509 := G509.keep K617 (ninS ne_ss_8_qq nin0)
            replace G510 := G510.keep K617 (ninS ne_sl_9_qq nin0)
            replace hk := Nat.le_trans hk K617.1
            replace sz_h : h0.size ≤ h615.size := Nat.le_trans sz_h K617.1
            rw [show own_at ((own_r32.set q439.toNatClampNeg (1 : Int32)).set q495.toNatClampNeg (2 : Int32)) q611 = (2 : Int32) from ha614]
            rw [show ((2 : Int32) - (1 : Int32)) = (1 : Int32) from by decide]
            show Go p e below _ T (mkF m 283 #[.val (.int p0), .val (.int p1), .val (.int p2), .val (.int p3), .val (.int p4), .val (.int p5), .val (.int (3 : Int32)), .val (.int sel), .val (.ref s0), .val (.ref s1), .val (.ref s2), .val (.ref qq), .val (.ref b2), .val (.int (0 : Int32)), .val (.int (1 : Int32)), .val (.int (1 : Int32)), .val (.int (1 : Int32))] [(.int (1 : Int32))])
            refine giload (v := (1 : Int32)) X hx 285 (hb hby at_283) rfl rfl ?_
            refine gicmpNo X hx 288 (hb hby at_285) rfl (by decide) ?_
            refine giconst X hx (1 : Int32) 289 (hb hby at_288) rfl rfl ?_
            refine ggoto X hx 293 (hb hby at_289) (by decide) (by decide) ?_
            exact gRetL X hx hlk hret rfl (Or.inl ⟨rfl, by simp, _, rfl⟩) (hb hby at_293) eT hS hk (by decide) (by decide) ⟨rfl, N⟩
          · rw [if_neg re610]
            refine gifYes X hx 273 (hb hby at_263) (by decide) (by decide) (by decide) ?_
            refine giconst X hx (-1 : Int32) 274 (hb hby at_273) rfl rfl ?_
            refine gistore X hx #[.val (.int p0), .val (.int p1), .val (.int p2), .val (.int p3), .val (.int p4), .val (.int p5), .val (.int (3 : Int32)), .val (.int sel), .val (.ref s0), .val (.ref s1), .val (.ref s2), .val (.ref qq), .val (.ref b2), .val (.int (0 : Int32)), .val (.int (1 : Int32)), .val (.int (1 : Int32)), .val (.int (-1 : Int32))] 276 (hb hby at_274) rfl rfl ?_
            refine gaload (v := (.ref b2)) X hx 278 (hb hby at_276) rfl rfl rfl ?_
            refine gaload (v := (.ref qq)) X hx 280 (hb hby at_278) rfl rfl rfl ?_
            obtain ⟨q620, hp621, hR622, ha623, -⟩ := own_miss (ds := ([a0_, a2_] : List (List Int32))) (cs := aq_) I511 (by simp [re595, re610])
            have ne_u0_qq : u0 ≠ qq := Str.ne2 G448 P4_Str.exa (own_w6 hw)
            have ne_u2_qq : u2 ≠ qq := Str.ne2 G504 P4_Str.exa (own_w6 hw)
            refine gvirtual (y := own_mNo) (z := own_mNo) (a := b2) (argsL := [(.ref qq)]) (st := []) X hx hZ hown (own_w89 hw) (own_w90 hw) (notFace_of_selects (args := #[]) (mvT hZ (own_w92 hw))) (own_w92 hw) (own_w91 hw) (by decide) A4 (payP (W := 0) (rmNo2 l Z a0 hw (qq) (uq) (aq_) (((own_r32.set q439.toNatClampNeg (1 : Int32)).set q495.toNatClampNeg (2 : Int32))) (q620) (4) (b2) (ss_8) (sl_9) (ks_10) (ki_11) (G1) (s0) (s2) (u0) (u2) (a0_) (a2_) h500 n0 (Nat.le_trans Z0 sz_h) ge_qq P0_Old A4 G505 G506 G507 G508 G509 G510 P4_Str P11_Fld P12_Fld G448 G504 (O2) (P5) (I511) (hp621) (laq_) (ne_s0_qq) (ne_s2_qq) (ne_u0_qq) (ne_u2_qq) (hR622)) hZ (own_w93 hw) (own_w29 hw) (by decide) (by decide)) eT (by rw [hml]; rfl) (lenOf own_pd13 rfl) rfl (Nat.le_of_eq rfl) 27 100 rfl rfl (by decide) (by decide) 283 (hb hby at_280) rfl ?_
            clear X eT; clear T; intro v T h624 L2 Lc X eT hL hQ625
            obtain ⟨rfl, Nq, K626, G628⟩ := hQ625
            replace N : Fr n0 L2 := by rw [hL]; exact Fr.app N Nq
            clear Nq hL
            have ne_u1_qq : u1 ≠ qq := Str.ne2 G466 P4_Str.exa (own_w6 hw)
            replace P0_Old := P0_Old.keep K626 (allS ge_qq all0)
            replace A4 := A4.keep K626
            replace G448 := G448.keep K626 (ninS ne_s0_qq nin0) (ninS ne_u0_qq nin0)
            replace G466 := G466.keep K626 (ninS ne_s1_qq nin0) (ninS ne_u1_qq nin0)
            replace G504 := G504.keep K626 (ninS ne_s2_qq nin0) (ninS ne_u2_qq nin0)
            replace G505 := G505.keep K626 (ninS ne_b2_qq nin0)
            replace G506 := G506.keep K626 (ninS ne_b2_qq nin0)
            replace G507 := G507.keep K626 (ninS ne_b2_qq nin0)
            replace G508 := G508.keep K626 (ninS ne_b2_qq nin0)
            replace G509 := G509.keep K626 (ninS ne_ss_8_qq nin0)
            replace G510 := G510.keep K626 (ninS ne_sl_9_qq nin0)
            replace hk := Nat.le_trans hk K626.1
            replace sz_h : h0.size ≤ h624.size := Nat.le_trans sz_h K626.1
            rw [show own_at ((own_r32.set q439.toNatClampNeg (1 : Int32)).set q495.toNatClampNeg (2 : Int32)) q620 = (0 : Int32) from ha623]
            rw [show ((0 : Int32) - (1 : Int32)) = (-1 : Int32) from by decide]
            show Go p e below _ T (mkF m 283 #[.val (.int p0), .val (.int p1), .val (.int p2), .val (.int p3), .val (.int p4), .val (.int p5), .val (.int (3 : Int32)), .val (.int sel), .val (.ref s0), .val (.ref s1), .val (.ref s2), .val (.ref qq), .val (.ref b2), .val (.int (0 : Int32)), .val (.int (1 : Int32)), .val (.int (1 : Int32)), .val (.int (-1 : Int32))] [(.int (-1 : Int32))])
            refine giload (v := (-1 : Int32)) X hx 285 (hb hby at_283) rfl rfl ?_
            refine gicmpNo X hx 288 (hb hby at_285) rfl (by decide) ?_
            refine giconst X hx (1 : Int32) 289 (hb hby at_288) rfl rfl ?_
            refine ggoto X hx 293 (hb hby at_289) (by decide) (by decide) ?_
            exact gRetL X hx hlk hret rfl (Or.inl ⟨rfl, by simp, _, rfl⟩) (hb hby at_293) eT hS hk (by decide) (by decide) ⟨rfl, N⟩
    · obtain ⟨q467, hp468, hR469, ha470, hI471⟩ := own_miss (ds := ([a0_] : List (List Int32))) (cs := a1_) I455 (by simp [re456])
      have ne_u0_s1 : u0 ≠ s1 := Str.ne2 G448 P2_Str.exa (own_w6 hw)
      refine gvirtual (y := own_mAd) (z := own_mAd) (a := b2) (argsL := [(.ref s1)]) (st := []) X hx hZ hown (own_w48 hw) (own_w49 hw) (notFace_of_selects (args := #[]) (mvT hZ (own_w51 hw))) (own_w51 hw) (own_w50 hw) (by decide) A4 (payP (W := 0) (rmAd1 l Z a0 hw (s1) (u1) (a1_) ((own_r32.set q439.toNatClampNeg (1 : Int32))) (q467) (4) (b2) (ss_8) (sl_9) (ks_10) (ki_11) (G1) (s0) (u0) (a0_) h444 n0 (Nat.le_trans Z0 sz_h) ge_s1 ge_b2 ge_ss_8 ge_sl_9 P0_Old A4 G449 G450 G451 G452 G453 G454 P2_Str P7_Fld P8_Fld G448 (O2) (P5) (I455) (hp468) (la1_) (ne_s0_s1) (ne_u0_s1) (hR469) (ha470) (pp20) (ne_ss_8_sl_9) (ne_u0_sl_9) (ne_u1_sl_9)) hZ (own_w52 hw) (own_w29 hw) (by decide) (by decide)) eT (by rw [hml]; rfl) (lenOf own_pd13 rfl) rfl (Nat.le_of_eq rfl) 27 100 rfl rfl (by decide) (by decide) 119 (hb hby at_116) rfl ?_
      clear X eT; clear T; intro v T h472 L2 Lc X eT hL hQ473
      obtain ⟨rfl, Nq, K474, G476, G477, G478, G479, G480, G481, G482⟩ := hQ473
      replace N : Fr n0 L2 := by rw [hL]; exact Fr.app N Nq
      clear Nq hL
      have ne_u2_s1 : u2 ≠ s1 := Str.ne2 P3_Str P2_Str.exa (own_w6 hw)
      have ne_uq_s1 : uq ≠ s1 := Str.ne2 P4_Str P2_Str.exa (own_w6 hw)
      replace P0_Old := P0_Old.keep K474 (allS ge_s1 (allS ge_b2 (allS ge_ss_8 (allS ge_sl_9 all0))))
      replace P3_Str := P3_Str.keep K474 (ninS ne_s2_s1 (ninS ne_s2_b2 (ninS ne_s2_ss_8 (ninS ne_s2_sl_9 nin0)))) (ninS ne_u2_s1 (ninS ne_u2_b2 (ninS ne_u2_ss_8 (ninS ne_u2_sl_9 nin0))))
      replace P4_Str := P4_Str.keep K474 (ninS ne_qq_s1 (ninS ne_qq_b2 (ninS ne_qq_ss_8 (ninS ne_qq_sl_9 nin0)))) (ninS ne_uq_s1 (ninS ne_uq_b2 (ninS ne_uq_ss_8 (ninS ne_uq_sl_9 nin0))))
      replace P9_Fld := P9_Fld.keep K474 (ninS ne_s2_s1 (ninS ne_s2_b2 (ninS ne_s2_ss_8 (ninS ne_s2_sl_9 nin0))))
      replace P10_Fld := P10_Fld.keep K474 (ninS ne_s2_s1 (ninS ne_s2_b2 (ninS ne_s2_ss_8 (ninS ne_s2_sl_9 nin0))))
      replace P11_Fld := P11_Fld.keep K474 (ninS ne_qq_s1 (ninS ne_qq_b2 (ninS ne_qq_ss_8 (ninS ne_qq_sl_9 nin0))))
      replace P12_Fld := P12_Fld.keep K474 (ninS ne_qq_s1 (ninS ne_qq_b2 (ninS ne_qq_ss_8 (ninS ne_qq_sl_9 nin0))))
      replace A4 := A4.keep K474
      replace G448 := G448.keep K474 (ninS ne_s0_s1 (ninS ne_s0_b2 (ninS ne_s0_ss_8 (ninS ne_s0_sl_9 nin0)))) (ninS ne_u0_s1 (ninS ne_u0_b2 (ninS ne_u0_ss_8 (ninS ne_u0_sl_9 nin0))))
      replace hk := Nat.le_trans hk K474.1
      replace sz_h : h0.size ≤ h472.size := Nat.le_trans sz_h K474.1
      show Go p e below _ T (mkF m 119 #[.val (.int p0), .val (.int p1), .val (.int p2), .val (.int p3), .val (.int p4), .val (.int p5), .val (.int (3 : Int32)), .val (.int sel), .val (.ref s0), .val (.ref s1), .val (.ref s2), .val (.ref qq), .val (.ref b2), .unset, .unset, .unset, .unset] [(.int (1 : Int32))])
      have I483 : own_Inv ((own_r32.set q439.toNatClampNeg (1 : Int32)).set q467.toNatClampNeg (2 : Int32)) ([a0_, a1_] : List (List Int32)) := hI471 (by simp)
      refine gpop X hx 120 (hb hby at_119) rfl rfl ?_
      refine giload (v := (3 : Int32)) X hx 122 (hb hby at_120) rfl rfl ?_
      refine giconst X hx (3 : Int32) 123 (hb hby at_122) rfl rfl ?_
      refine gicmpNo X hx 126 (hb hby at_123) rfl (by decide) ?_
      refine gaload (v := (.ref b2)) X hx 128 (hb hby at_126) rfl rfl rfl ?_
      refine gaload (v := (.ref s2)) X hx 130 (hb hby at_128) rfl rfl rfl ?_
      rcases Decidable.em (a2_ = a0_) with re512 | re512
      · obtain ⟨q514, hp515, hR516, ha517⟩ := own_found (i := 0) (ds := ([a0_, a1_] : List (List Int32))) I483 (by simp)
        have ne_u0_s2 : u0 ≠ s2 := Str.ne2 G448 P3_Str.exa (own_w6 hw)
        have ne_u1_s2 : u1 ≠ s2 := Str.ne2 G476 P3_Str.exa (own_w6 hw)
        refine gvirtual (y := own_mAd) (z := own_mAd) (a := b2) (argsL := [(.ref s2)]) (st := []) X hx hZ hown (own_w48 hw) (own_w49 hw) (notFace_of_selects (args := #[]) (mvT hZ (own_w51 hw))) (own_w51 hw) (own_w50 hw) (by decide) A4 (payP (W := 0) (rmAf2 l Z a0 hw (s2) (u2) (a2_) (((own_r32.set q439.toNatClampNeg (1 : Int32)).set q467.toNatClampNeg (2 : Int32))) (q514) (4) (b2) (ss_8) (sl_9) (ks_10) (ki_11) (G1) (s0) (s1) (u0) (u1) (a0_) (a1_) h472 n0 (Nat.le_trans Z0 sz_h) ge_s2 P0_Old A4 G477 G478 G479 G480 G481 G482 P3_Str P9_Fld P10_Fld G448 G476 (O2) (P5) (I483) (by rw [re512]; exact hp515) (la2_) (ne_s0_s2) (ne_s1_s2) (ne_u0_s2) (ne_u1_s2) (hR516) (by rw [ha517]; decide)) hZ (own_w52 hw) (own_w29 hw) (by decide) (by decide)) eT (by rw [hml]; rfl) (lenOf own_pd13 rfl) rfl (Nat.le_of_eq rfl) 27 100 rfl rfl (by decide) (by decide) 133 (hb hby at_130) rfl ?_
        clear X eT; clear T; intro v T h519 L2 Lc X eT hL hQ520
        obtain ⟨rfl, Nq, K521, G523⟩ := hQ520
        replace N : Fr n0 L2 := by rw [hL]; exact Fr.app N Nq
        clear Nq hL
        have ne_uq_s2 : uq ≠ s2 := Str.ne2 P4_Str P3_Str.exa (own_w6 hw)
        replace P0_Old := P0_Old.keep K521 (allS ge_s2 all0)
        replace P4_Str := P4_Str.keep K521 (ninS ne_qq_s2 nin0) (ninS ne_uq_s2 nin0)
        replace P11_Fld := P11_Fld.keep K521 (ninS ne_qq_s2 nin0)
        replace P12_Fld := P12_Fld.keep K521 (ninS ne_qq_s2 nin0)
        replace A4 := A4.keep K521
        replace G448 := G448.keep K521 (ninS ne_s0_s2 nin0) (ninS ne_u0_s2 nin0)
        replace G476 := G476.keep K521 (ninS ne_s1_s2 nin0) (ninS ne_u1_s2 nin0)
        replace G477 := G477.keep K521 (ninS ne_b2_s2 nin0)
        replace G478 := G478.keep K521 (ninS ne_b2_s2 nin0)
        replace G479 := G479.keep K521 (ninS ne_b2_s2 nin0)
        replace G480 := G480.keep K521 (ninS ne_b2_s2 nin0)
        replace G481 := G481.keep K521 (ninS ne_ss_8_s2 nin0)
        replace G482 := G482.keep K521 (ninS ne_sl_9_s2 nin0)
        replace hk := Nat.le_trans hk K521.1
        replace sz_h : h0.size ≤ h519.size := Nat.le_trans sz_h K521.1
        show Go p e below _ T (mkF m 133 #[.val (.int p0), .val (.int p1), .val (.int p2), .val (.int p3), .val (.int p4), .val (.int p5), .val (.int (3 : Int32)), .val (.int sel), .val (.ref s0), .val (.ref s1), .val (.ref s2), .val (.ref qq), .val (.ref b2), .unset, .unset, .unset, .unset] [(.int (own_at ((own_r32.set q439.toNatClampNeg (1 : Int32)).set q467.toNatClampNeg (2 : Int32)) q514 - (1 : Int32)))])
        refine gpop X hx 134 (hb hby at_133) rfl rfl ?_
        refine gaload (v := (.ref s1)) X hx 136 (hb hby at_134) rfl rfl rfl ?_
        refine gaload (v := (.ref s0)) X hx 138 (hb hby at_136) rfl rfl rfl ?_
        refine gvirtual (y := own_mEq) (z := own_mEq) (a := s1) (argsL := [(.ref s0)]) (st := []) X hx hZ hown (own_w88 hw) (own_w80 hw) (notFace_of_selects (args := #[]) (mvT hZ (own_w82 hw))) (own_w82 hw) (own_w81 hw) (by decide) G476.exa (payEq (W := 0) hZ hw G476 G448 (O2.ext P0_Old.2) P5 (by decide) (by decide)) eT (by rw [hml]; rfl) (lenOf own_pd12 rfl) rfl (Nat.le_of_eq rfl) 27 100 rfl rfl (by decide) (by decide) 141 (hb hby at_138) rfl ?_
        clear X eT; clear T; intro v T h629 L2 Lc X eT hL hQ630
        obtain ⟨rfl, rfl, hh⟩ := hQ630
        replace hh := hh.symm; subst hh
        replace N : Fr n0 L2 := by rw [hL]; exact Fr.app N (Fr.nil n0)
        clear hL
        show Go p e below _ T (mkF m 141 #[.val (.int p0), .val (.int p1), .val (.int p2), .val (.int p3), .val (.int p4), .val (.int p5), .val (.int (3 : Int32)), .val (.int sel), .val (.ref s0), .val (.ref s1), .val (.ref s2), .val (.ref qq), .val (.ref b2), .unset, .unset, .unset, .unset] [(.int (if a1_ = a0_ then 1 else 0))])
        rw [if_neg re456]
        refine gifYes X hx 148 (hb hby at_141) (by decide) (by decide) (by decide) ?_
        refine giconst X hx (1 : Int32) 149 (hb hby at_148) rfl rfl ?_
        refine gistore X hx #[.val (.int p0), .val (.int p1), .val (.int p2), .val (.int p3), .val (.int p4), .val (.int p5), .val (.int (3 : Int32)), .val (.int sel), .val (.ref s0), .val (.ref s1), .val (.ref s2), .val (.ref qq), .val (.ref b2), .val (.int (1 : Int32)), .unset, .unset, .unset] 151 (hb hby at_149) rfl rfl ?_
        refine gaload (v := (.ref s1)) X hx 153 (hb hby at_151) rfl rfl rfl ?_
        refine gaload (v := (.ref s0)) X hx 155 (hb hby at_153) rfl rfl rfl ?_
        refine gvirtual (y := own_mEq) (z := own_mEq) (a := s1) (argsL := [(.ref s0)]) (st := []) X hx hZ hown (own_w88 hw) (own_w80 hw) (notFace_of_selects (args := #[]) (mvT hZ (own_w82 hw))) (own_w82 hw) (own_w81 hw) (by decide) G476.exa (payEq (W := 0) hZ hw G476 G448 (O2.ext P0_Old.2) P5 (by decide) (by decide)) eT (by rw [hml]; rfl) (lenOf own_pd12 rfl) rfl (Nat.le_of_eq rfl) 27 100 rfl rfl (by decide) (by decide) 158 (hb hby at_155) rfl ?_
        clear X eT; clear T; intro v T h631 L2 Lc X eT hL hQ632
        obtain ⟨rfl, rfl, hh⟩ := hQ632
        replace hh := hh.symm; subst hh
        replace N : Fr n0 L2 := by rw [hL]; exact Fr.app N (Fr.nil n0)
        clear hL
        show Go p e below _ T (mkF m 158 #[.val (.int p0), .val (.int p1), .val (.int p2), .val (.int p3), .val (.int p4), .val (.int p5), .val (.int (3 : Int32)), .val (.int sel), .val (.ref s0), .val (.ref s1), .val (.ref s2), .val (.ref qq), .val (.ref b2), .val (.int (1 : Int32)), .unset, .unset, .unset] [(.int (if a1_ = a0_ then 1 else 0))])
        rw [if_neg re456]
        refine gifYes X hx 165 (hb hby at_158) (by decide) (by decide) (by decide) ?_
        refine giconst X hx (2 : Int32) 166 (hb hby at_165) rfl rfl ?_
        refine gistore X hx #[.val (.int p0), .val (.int p1), .val (.int p2), .val (.int p3), .val (.int p4), .val (.int p5), .val (.int (3 : Int32)), .val (.int sel), .val (.ref s0), .val (.ref s1), .val (.ref s2), .val (.ref qq), .val (.ref b2), .val (.int (1 : Int32)), .val (.int (2 : Int32)), .unset, .unset] 168 (hb hby at_166) rfl rfl ?_
        refine gaload (v := (.ref s2)) X hx 170 (hb hby at_168) rfl rfl rfl ?_
        refine gaload (v := (.ref s0)) X hx 172 (hb hby at_170) rfl rfl rfl ?_
        refine gvirtual (y := own_mEq) (z := own_mEq) (a := s2) (argsL := [(.ref s0)]) (st := []) X hx hZ hown (own_w88 hw) (own_w80 hw) (notFace_of_selects (args := #[]) (mvT hZ (own_w82 hw))) (own_w82 hw) (own_w81 hw) (by decide) G523.exa (payEq (W := 0) hZ hw G523 G448 (O2.ext P0_Old.2) P5 (by decide) (by decide)) eT (by rw [hml]; rfl) (lenOf own_pd12 rfl) rfl (Nat.le_of_eq rfl) 27 100 rfl rfl (by decide) (by decide) 175 (hb hby at_172) rfl ?_
        clear X eT; clear T; intro v T h633 L2 Lc X eT hL hQ634
        obtain ⟨rfl, rfl, hh⟩ := hQ634
        replace hh := hh.symm; subst hh
        replace N : Fr n0 L2 := by rw [hL]; exact Fr.app N (Fr.nil n0)
        clear hL
        show Go p e below _ T (mkF m 175 #[.val (.int p0), .val (.int p1), .val (.int p2), .val (.int p3), .val (.int p4), .val (.int p5), .val (.int (3 : Int32)), .val (.int sel), .val (.ref s0), .val (.ref s1), .val (.ref s2), .val (.ref qq), .val (.ref b2), .val (.int (1 : Int32)), .val (.int (2 : Int32)), .unset, .unset] [(.int (if a2_ = a0_ then 1 else 0))])
        rw [if_pos re512]
        refine gifNo X hx 178 (hb hby at_175) rfl (by decide) ?_
        refine giconst X hx (0 : Int32) 179 (hb hby at_178) rfl rfl ?_
        refine gistore X hx #[.val (.int p0), .val (.int p1), .val (.int p2), .val (.int p3), .val (.int p4), .val (.int p5), .val (.int (3 : Int32)), .val (.int sel), .val (.ref s0), .val (.ref s1), .val (.ref s2), .val (.ref qq), .val (.ref b2), .val (.int (1 : Int32)), .val (.int (2 : Int32)), .val (.int (0 : Int32)), .unset] 181 (hb hby at_179) rfl rfl ?_
        refine ggoto X hx 205 (hb hby at_181) (by decide) (by decide) ?_
        refine giload (v := (3 : Int32)) X hx 207 (hb hby at_205) rfl rfl ?_
        refine giconst X hx (1 : Int32) 208 (hb hby at_207) rfl rfl ?_
        refine gicmpNo X hx 211 (hb hby at_208) rfl (by decide) ?_
        refine gaload (v := (.ref qq)) X hx 213 (hb hby at_211) rfl rfl rfl ?_
        refine gaload (v := (.ref s0)) X hx 215 (hb hby at_213) rfl rfl rfl ?_
        refine gvirtual (y := own_mEq) (z := own_mEq) (a := qq) (argsL := [(.ref s0)]) (st := []) X hx hZ hown (own_w88 hw) (own_w80 hw) (notFace_of_selects (args := #[]) (mvT hZ (own_w82 hw))) (own_w82 hw) (own_w81 hw) (by decide) P4_Str.exa (payEq (W := 0) hZ hw P4_Str G448 (O2.ext P0_Old.2) P5 (by decide) (by decide)) eT (by rw [hml]; rfl) (lenOf own_pd12 rfl) rfl (Nat.le_of_eq rfl) 27 100 rfl rfl (by decide) (by decide) 218 (hb hby at_215) rfl ?_
        clear X eT; clear T; intro v T h635 L2 Lc X eT hL hQ636
        obtain ⟨rfl, rfl, hh⟩ := hQ636
        replace hh := hh.symm; subst hh
        replace N : Fr n0 L2 := by rw [hL]; exact Fr.app N (Fr.nil n0)
        clear hL
        show Go p e below _ T (mkF m 218 #[.val (.int p0), .val (.int p1), .val (.int p2), .val (.int p3), .val (.int p4), .val (.int p5), .val (.int (3 : Int32)), .val (.int sel), .val (.ref s0), .val (.ref s1), .val (.ref s2), .val (.ref qq), .val (.ref b2), .val (.int (1 : Int32)), .val (.int (2 : Int32)), .val (.int (0 : Int32)), .unset] [(.int (if aq_ = a0_ then 1 else 0))])
        rcases Decidable.em (aq_ = a0_) with re637 | re637
        · rw [if_pos re637]
          refine gifNo X hx 221 (hb hby at_218) rfl (by decide) ?_
          refine giconst X hx (0 : Int32) 222 (hb hby at_221) rfl rfl ?_
          refine gistore X hx #[.val (.int p0), .val (.int p1), .val (.int p2), .val (.int p3), .val (.int p4), .val (.int p5), .val (.int (3 : Int32)), .val (.int sel), .val (.ref s0), .val (.ref s1), .val (.ref s2), .val (.ref qq), .val (.ref b2), .val (.int (1 : Int32)), .val (.int (2 : Int32)), .val (.int (0 : Int32)), .val (.int (0 : Int32))] 224 (hb hby at_222) rfl rfl ?_
          refine ggoto X hx 276 (hb hby at_224) (by decide) (by decide) ?_
          refine gaload (v := (.ref b2)) X hx 278 (hb hby at_276) rfl rfl rfl ?_
          refine gaload (v := (.ref qq)) X hx 280 (hb hby at_278) rfl rfl rfl ?_
          obtain ⟨q638, hp639, hR640, ha641⟩ := own_found (i := 0) (ds := ([a0_, a1_] : List (List Int32))) I483 (by simp)
          have ne_u0_qq : u0 ≠ qq := Str.ne2 G448 P4_Str.exa (own_w6 hw)
          have ne_u1_qq : u1 ≠ qq := Str.ne2 G476 P4_Str.exa (own_w6 hw)
          refine gvirtual (y := own_mNo) (z := own_mNo) (a := b2) (argsL := [(.ref qq)]) (st := []) X hx hZ hown (own_w89 hw) (own_w90 hw) (notFace_of_selects (args := #[]) (mvT hZ (own_w92 hw))) (own_w92 hw) (own_w91 hw) (by decide) A4 (payP (W := 0) (rmNo2 l Z a0 hw (qq) (uq) (aq_) (((own_r32.set q439.toNatClampNeg (1 : Int32)).set q467.toNatClampNeg (2 : Int32))) (q638) (4) (b2) (ss_8) (sl_9) (ks_10) (ki_11) (G1) (s0) (s1) (u0) (u1) (a0_) (a1_) h519 n0 (Nat.le_trans Z0 sz_h) ge_qq P0_Old A4 G477 G478 G479 G480 G481 G482 P4_Str P11_Fld P12_Fld G448 G476 (O2) (P5) (I483) (by rw [re637]; exact hp639) (laq_) (ne_s0_qq) (ne_s1_qq) (ne_u0_qq) (ne_u1_qq) (hR640)) hZ (own_w93 hw) (own_w29 hw) (by decide) (by decide)) eT (by rw [hml]; rfl) (lenOf own_pd13 rfl) rfl (Nat.le_of_eq rfl) 27 100 rfl rfl (by decide) (by decide) 283 (hb hby at_280) rfl ?_
          clear X eT; clear T; intro v T h642 L2 Lc X eT hL hQ643
          obtain ⟨rfl, Nq, K644, G646⟩ := hQ643
          replace N : Fr n0 L2 := by rw [hL]; exact Fr.app N Nq
          clear Nq hL
          have ne_u2_qq : u2 ≠ qq := Str.ne2 G523 P4_Str.exa (own_w6 hw)
          replace P0_Old := P0_Old.keep K644 (allS ge_qq all0)
          replace A4 := A4.keep K644
          replace G448 := G448.keep K644 (ninS ne_s0_qq nin0) (ninS ne_u0_qq nin0)
          replace G476 := G476.keep K644 (ninS ne_s1_qq nin0) (ninS ne_u1_qq nin0)
          replace G477 := G477.keep K644 (ninS ne_b2_qq nin0)
          replace G478 := G478.keep K644 (ninS ne_b2_qq nin0)
          replace G479 := G479.keep K644 (ninS ne_b2_qq nin0)
          replace G480 := G480.keep K644 (ninS ne_b2_qq nin0)
          replace G481 := G481.keep K644 (ninS ne_ss_8_qq nin0)
          replace G482 := G482.keep K644 (ninS ne_sl_9_qq nin0)
          replace G523 := G523.keep K644 (ninS ne_s2_qq nin0) (ninS ne_u2_qq nin0)
          replace hk := Nat.le_trans hk K644.1
          replace sz_h : h0.size ≤ h642.size := Nat.le_trans sz_h K644.1
          rw [show own_at ((own_r32.set q439.toNatClampNeg (1 : Int32)).set q467.toNatClampNeg (2 : Int32)) q638 = (1 : Int32) from ha641]
          rw [show ((1 : Int32) - (1 : Int32)) = (0 : Int32) from by decide]
          show Go p e below _ T (mkF m 283 #[.val (.int p0), .val (.int p1), .val (.int p2), .val (.int p3), .val (.int p4), .val (.int p5), .val (.int (3 : Int32)), .val (.int sel), .val (.ref s0), .val (.ref s1), .val (.ref s2), .val (.ref qq), .val (.ref b2), .val (.int (1 : Int32)), .val (.int (2 : Int32)), .val (.int (0 : Int32)), .val (.int (0 : Int32))] [(.int (0 : Int32))])
          refine giload (v := (0 : Int32)) X hx 285 (hb hby at_283) rfl rfl ?_
          refine gicmpNo X hx 288 (hb hby at_285) rfl (by decide) ?_
          refine giconst X hx (1 : Int32) 289 (hb hby at_288) rfl rfl ?_
          refine ggoto X hx 293 (hb hby at_289) (by decide) (by decide) ?_
          exact gRetL X hx hlk hret rfl (Or.inl ⟨rfl, by simp, _, rfl⟩) (hb hby at_293) eT hS hk (by decide) (by decide) ⟨rfl, N⟩
        · rw [if_neg re637]
          refine gifYes X hx 227 (hb hby at_218) (by decide) (by decide) (by decide) ?_
          refine giload (v := (3 : Int32)) X hx 229 (hb hby at_227) rfl rfl ?_
          refine giconst X hx (2 : Int32) 230 (hb hby at_229) rfl rfl ?_
          refine gicmpNo X hx 233 (hb hby at_230) rfl (by decide) ?_
          refine gaload (v := (.ref qq)) X hx 235 (hb hby at_233) rfl rfl rfl ?_
          refine gaload (v := (.ref s1)) X hx 237 (hb hby at_235) rfl rfl rfl ?_
          refine gvirtual (y := own_mEq) (z := own_mEq) (a := qq) (argsL := [(.ref s1)]) (st := []) X hx hZ hown (own_w88 hw) (own_w80 hw) (notFace_of_selects (args := #[]) (mvT hZ (own_w82 hw))) (own_w82 hw) (own_w81 hw) (by decide) P4_Str.exa (payEq (W := 0) hZ hw P4_Str G476 (O2.ext P0_Old.2) P5 (by decide) (by decide)) eT (by rw [hml]; rfl) (lenOf own_pd12 rfl) rfl (Nat.le_of_eq rfl) 27 100 rfl rfl (by decide) (by decide) 240 (hb hby at_237) rfl ?_
          clear X eT; clear T; intro v T h647 L2 Lc X eT hL hQ648
          obtain ⟨rfl, rfl, hh⟩ := hQ648
          replace hh := hh.symm; subst hh
          replace N : Fr n0 L2 := by rw [hL]; exact Fr.app N (Fr.nil n0)
          clear hL
          show Go p e below _ T (mkF m 240 #[.val (.int p0), .val (.int p1), .val (.int p2), .val (.int p3), .val (.int p4), .val (.int p5), .val (.int (3 : Int32)), .val (.int sel), .val (.ref s0), .val (.ref s1), .val (.ref s2), .val (.ref qq), .val (.ref b2), .val (.int (1 : Int32)), .val (.int (2 : Int32)), .val (.int (0 : Int32)), .unset] [(.int (if aq_ = a1_ then 1 else 0))])
          rcases Decidable.em (aq_ = a1_) with re649 | re649
          · rw [if_pos re649]
            refine gifNo X hx 243 (hb hby at_240) rfl (by decide) ?_
            refine giload (v := (1 : Int32)) X hx 245 (hb hby at_243) rfl rfl ?_
            refine gistore X hx #[.val (.int p0), .val (.int p1), .val (.int p2), .val (.int p3), .val (.int p4), .val (.int p5), .val (.int (3 : Int32)), .val (.int sel), .val (.ref s0), .val (.ref s1), .val (.ref s2), .val (.ref qq), .val (.ref b2), .val (.int (1 : Int32)), .val (.int (2 : Int32)), .val (.int (0 : Int32)), .val (.int (1 : Int32))] 247 (hb hby at_245) rfl rfl ?_
            refine ggoto X hx 276 (hb hby at_247) (by decide) (by decide) ?_
            refine gaload (v := (.ref b2)) X hx 278 (hb hby at_276) rfl rfl rfl ?_
            refine gaload (v := (.ref qq)) X hx 280 (hb hby at_278) rfl rfl rfl ?_
            obtain ⟨q650, hp651, hR652, ha653⟩ := own_found (i := 1) (ds := ([a0_, a1_] : List (List Int32))) I483 (by simp)
            have ne_u0_qq : u0 ≠ qq := Str.ne2 G448 P4_Str.exa (own_w6 hw)
            have ne_u1_qq : u1 ≠ qq := Str.ne2 G476 P4_Str.exa (own_w6 hw)
            refine gvirtual (y := own_mNo) (z := own_mNo) (a := b2) (argsL := [(.ref qq)]) (st := []) X hx hZ hown (own_w89 hw) (own_w90 hw) (notFace_of_selects (args := #[]) (mvT hZ (own_w92 hw))) (own_w92 hw) (own_w91 hw) (by decide) A4 (payP (W := 0) (rmNo2 l Z a0 hw (qq) (uq) (aq_) (((own_r32.set q439.toNatClampNeg (1 : Int32)).set q467.toNatClampNeg (2 : Int32))) (q650) (4) (b2) (ss_8) (sl_9) (ks_10) (ki_11) (G1) (s0) (s1) (u0) (u1) (a0_) (a1_) h519 n0 (Nat.le_trans Z0 sz_h) ge_qq P0_Old A4 G477 G478 G479 G480 G481 G482 P4_Str P11_Fld P12_Fld G448 G476 (O2) (P5) (I483) (by rw [re649]; exact hp651) (laq_) (ne_s0_qq) (ne_s1_qq) (ne_u0_qq) (ne_u1_qq) (hR652)) hZ (own_w93 hw) (own_w29 hw) (by decide) (by decide)) eT (by rw [hml]; rfl) (lenOf own_pd13 rfl) rfl (Nat.le_of_eq rfl) 27 100 rfl rfl (by decide) (by decide) 283 (hb hby at_280) rfl ?_
            clear X eT; clear T; intro v T h654 L2 Lc X eT hL hQ655
            obtain ⟨rfl, Nq, K656, G658⟩ := hQ655
            replace N : Fr n0 L2 := by rw [hL]; exact Fr.app N Nq
            clear Nq hL
            have ne_u2_qq : u2 ≠ qq := Str.ne2 G523 P4_Str.exa (own_w6 hw)
            replace P0_Old := P0_Old.keep K656 (allS ge_qq all0)
            replace A4 := A4.keep K656
            replace G448 := G448.keep K656 (ninS ne_s0_qq nin0) (ninS ne_u0_qq nin0)
            replace G476 := G476.keep K656 (ninS ne_s1_qq nin0) (ninS ne_u1_qq nin0)
            replace G477 := G477.keep K656 (ninS ne_b2_qq nin0)
            replace G478 := G478.keep K656 (ninS ne_b2_qq nin0)
            replace G479 := G479.keep K656 (ninS ne_b2_qq nin0)
            replace G480 := G480.keep K656 (ninS ne_b2_qq nin0)
            replace G481 := G481.keep K656 (ninS ne_ss_8_qq nin0)
            replace G482 := G482.keep K656 (ninS ne_sl_9_qq nin0)
            replace G523 := G523.keep K656 (ninS ne_s2_qq nin0) (ninS ne_u2_qq nin0)
            replace hk := Nat.le_trans hk K656.1
            replace sz_h : h0.size ≤ h654.size := Nat.le_trans sz_h K656.1
            rw [show own_at ((own_r32.set q439.toNatClampNeg (1 : Int32)).set q467.toNatClampNeg (2 : Int32)) q650 = (2 : Int32) from ha653]
            rw [show ((2 : Int32) - (1 : Int32)) = (1 : Int32) from by decide]
            show Go p e below _ T (mkF m 283 #[.val (.int p0), .val (.int p1), .val (.int p2), .val (.int p3), .val (.int p4), .val (.int p5), .val (.int (3 : Int32)), .val (.int sel), .val (.ref s0), .val (.ref s1), .val (.ref s2), .val (.ref qq), .val (.ref b2), .val (.int (1 : Int32)), .val (.int (2 : Int32)), .val (.int (0 : Int32)), .val (.int (1 : Int32))] [(.int (1 : Int32))])
            refine giload (v := (1 : Int32)) X hx 285 (hb hby at_283) rfl rfl ?_
            refine gicmpNo X hx 288 (hb hby at_285) rfl (by decide) ?_
            refine giconst X hx (1 : Int32) 289 (hb hby at_288) rfl rfl ?_
            refine ggoto X hx 293 (hb hby at_289) (by decide) (by decide) ?_
            exact gRetL X hx hlk hret rfl (Or.inl ⟨rfl, by simp, _, rfl⟩) (hb hby at_293) eT hS hk (by decide) (by decide) ⟨rfl, N⟩
          · rw [if_neg re649]
            refine gifYes X hx 250 (hb hby at_240) (by decide) (by decide) (by decide) ?_
            refine giload (v := (3 : Int32)) X hx 252 (hb hby at_250) rfl rfl ?_
            refine giconst X hx (3 : Int32) 253 (hb hby at_252) rfl rfl ?_
            refine gicmpNo X hx 256 (hb hby at_253) rfl (by decide) ?_
            refine gaload (v := (.ref qq)) X hx 258 (hb hby at_256) rfl rfl rfl ?_
            refine gaload (v := (.ref s2)) X hx 260 (hb hby at_258) rfl rfl rfl ?_
            refine gvirtual (y := own_mEq) (z := own_mEq) (a := qq) (argsL := [(.ref s2)]) (st := []) X hx hZ hown (own_w88 hw) (own_w80 hw) (notFace_of_selects (args := #[]) (mvT hZ (own_w82 hw))) (own_w82 hw) (own_w81 hw) (by decide) P4_Str.exa (payEq (W := 0) hZ hw P4_Str G523 (O2.ext P0_Old.2) P5 (by decide) (by decide)) eT (by rw [hml]; rfl) (lenOf own_pd12 rfl) rfl (Nat.le_of_eq rfl) 27 100 rfl rfl (by decide) (by decide) 263 (hb hby at_260) rfl ?_
            clear X eT; clear T; intro v T h659 L2 Lc X eT hL hQ660
            obtain ⟨rfl, rfl, hh⟩ := hQ660
            replace hh := hh.symm; subst hh
            replace N : Fr n0 L2 := by rw [hL]; exact Fr.app N (Fr.nil n0)
            clear hL
            show Go p e below _ T (mkF m 263 #[.val (.int p0), .val (.int p1), .val (.int p2), .val (.int p3), .val (.int p4), .val (.int p5), .val (.int (3 : Int32)), .val (.int sel), .val (.ref s0), .val (.ref s1), .val (.ref s2), .val (.ref qq), .val (.ref b2), .val (.int (1 : Int32)), .val (.int (2 : Int32)), .val (.int (0 : Int32)), .unset] [(.int (if aq_ = a2_ then 1 else 0))])
            have re661 : ¬ aq_ = a2_ := fun z => re637 (z.trans re512)
            rw [if_neg re661]
            refine gifYes X hx 273 (hb hby at_263) (by decide) (by decide) (by decide) ?_
            refine giconst X hx (-1 : Int32) 274 (hb hby at_273) rfl rfl ?_
            refine gistore X hx #[.val (.int p0), .val (.int p1), .val (.int p2), .val (.int p3), .val (.int p4), .val (.int p5), .val (.int (3 : Int32)), .val (.int sel), .val (.ref s0), .val (.ref s1), .val (.ref s2), .val (.ref qq), .val (.ref b2), .val (.int (1 : Int32)), .val (.int (2 : Int32)), .val (.int (0 : Int32)), .val (.int (-1 : Int32))] 276 (hb hby at_274) rfl rfl ?_
            refine gaload (v := (.ref b2)) X hx 278 (hb hby at_276) rfl rfl rfl ?_
            refine gaload (v := (.ref qq)) X hx 280 (hb hby at_278) rfl rfl rfl ?_
            obtain ⟨q662, hp663, hR664, ha665, -⟩ := own_miss (ds := ([a0_, a1_] : List (List Int32))) (cs := aq_) I483 (by simp [re637, re649])
            have ne_u0_qq : u0 ≠ qq := Str.ne2 G448 P4_Str.exa (own_w6 hw)
            have ne_u1_qq : u1 ≠ qq := Str.ne2 G476 P4_Str.exa (own_w6 hw)
            refine gvirtual (y := own_mNo) (z := own_mNo) (a := b2) (argsL := [(.ref qq)]) (st := []) X hx hZ hown (own_w89 hw) (own_w90 hw) (notFace_of_selects (args := #[]) (mvT hZ (own_w92 hw))) (own_w92 hw) (own_w91 hw) (by decide) A4 (payP (W := 0) (rmNo2 l Z a0 hw (qq) (uq) (aq_) (((own_r32.set q439.toNatClampNeg (1 : Int32)).set q467.toNatClampNeg (2 : Int32))) (q662) (4) (b2) (ss_8) (sl_9) (ks_10) (ki_11) (G1) (s0) (s1) (u0) (u1) (a0_) (a1_) h519 n0 (Nat.le_trans Z0 sz_h) ge_qq P0_Old A4 G477 G478 G479 G480 G481 G482 P4_Str P11_Fld P12_Fld G448 G476 (O2) (P5) (I483) (hp663) (laq_) (ne_s0_qq) (ne_s1_qq) (ne_u0_qq) (ne_u1_qq) (hR664)) hZ (own_w93 hw) (own_w29 hw) (by decide) (by decide)) eT (by rw [hml]; rfl) (lenOf own_pd13 rfl) rfl (Nat.le_of_eq rfl) 27 100 rfl rfl (by decide) (by decide) 283 (hb hby at_280) rfl ?_
            clear X eT; clear T; intro v T h666 L2 Lc X eT hL hQ667
            obtain ⟨rfl, Nq, K668, G670⟩ := hQ667
            replace N : Fr n0 L2 := by rw [hL]; exact Fr.app N Nq
            clear Nq hL
            have ne_u2_qq : u2 ≠ qq := Str.ne2 G523 P4_Str.exa (own_w6 hw)
            replace P0_Old := P0_Old.keep K668 (allS ge_qq all0)
            replace A4 := A4.keep K668
            replace G448 := G448.keep K668 (ninS ne_s0_qq nin0) (ninS ne_u0_qq nin0)
            replace G476 := G476.keep K668 (ninS ne_s1_qq nin0) (ninS ne_u1_qq nin0)
            replace G477 := G477.keep K668 (ninS ne_b2_qq nin0)
            replace G478 := G478.keep K668 (ninS ne_b2_qq nin0)
            replace G479 := G479.keep K668 (ninS ne_b2_qq nin0)
            replace G480 := G480.keep K668 (ninS ne_b2_qq nin0)
            replace G481 := G481.keep K668 (ninS ne_ss_8_qq nin0)
            replace G482 := G482.keep K668 (ninS ne_sl_9_qq nin0)
            replace G523 := G523.keep K668 (ninS ne_s2_qq nin0) (ninS ne_u2_qq nin0)
            replace hk := Nat.le_trans hk K668.1
            replace sz_h : h0.size ≤ h666.size := Nat.le_trans sz_h K668.1
            rw [show own_at ((own_r32.set q439.toNatClampNeg (1 : Int32)).set q467.toNatClampNeg (2 : Int32)) q662 = (0 : Int32) from ha665]
            rw [show ((0 : Int32) - (1 : Int32)) = (-1 : Int32) from by decide]
            show Go p e below _ T (mkF m 283 #[.val (.int p0), .val (.int p1), .val (.int p2), .val (.int p3), .val (.int p4), .val (.int p5), .val (.int (3 : Int32)), .val (.int sel), .val (.ref s0), .val (.ref s1), .val (.ref s2), .val (.ref qq), .val (.ref b2), .val (.int (1 : Int32)), .val (.int (2 : Int32)), .val (.int (0 : Int32)), .val (.int (-1 : Int32))] [(.int (-1 : Int32))])
            refine giload (v := (-1 : Int32)) X hx 285 (hb hby at_283) rfl rfl ?_
            refine gicmpNo X hx 288 (hb hby at_285) rfl (by decide) ?_
            refine giconst X hx (1 : Int32) 289 (hb hby at_288) rfl rfl ?_
            refine ggoto X hx 293 (hb hby at_289) (by decide) (by decide) ?_
            exact gRetL X hx hlk hret rfl (Or.inl ⟨rfl, by simp, _, rfl⟩) (hb hby at_293) eT hS hk (by decide) (by decide) ⟨rfl, N⟩
      · rcases Decidable.em (a2_ = a1_) with re513 | re513
        · obtain ⟨q524, hp525, hR526, ha527⟩ := own_found (i := 1) (ds := ([a0_, a1_] : List (List Int32))) I483 (by simp)
          have ne_u0_s2 : u0 ≠ s2 := Str.ne2 G448 P3_Str.exa (own_w6 hw)
          have ne_u1_s2 : u1 ≠ s2 := Str.ne2 G476 P3_Str.exa (own_w6 hw)
          refine gvirtual (y := own_mAd) (z := own_mAd) (a := b2) (argsL := [(.ref s2)]) (st := []) X hx hZ hown (own_w48 hw) (own_w49 hw) (notFace_of_selects (args := #[]) (mvT hZ (own_w51 hw))) (own_w51 hw) (own_w50 hw) (by decide) A4 (payP (W := 0) (rmAf2 l Z a0 hw (s2) (u2) (a2_) (((own_r32.set q439.toNatClampNeg (1 : Int32)).set q467.toNatClampNeg (2 : Int32))) (q524) (4) (b2) (ss_8) (sl_9) (ks_10) (ki_11) (G1) (s0) (s1) (u0) (u1) (a0_) (a1_) h472 n0 (Nat.le_trans Z0 sz_h) ge_s2 P0_Old A4 G477 G478 G479 G480 G481 G482 P3_Str P9_Fld P10_Fld G448 G476 (O2) (P5) (I483) (by rw [re513]; exact hp525) (la2_) (ne_s0_s2) (ne_s1_s2) (ne_u0_s2) (ne_u1_s2) (hR526) (by rw [ha527]; decide)) hZ (own_w52 hw) (own_w29 hw) (by decide) (by decide)) eT (by rw [hml]; rfl) (lenOf own_pd13 rfl) rfl (Nat.le_of_eq rfl) 27 100 rfl rfl (by decide) (by decide) 133 (hb hby at_130) rfl ?_
          clear X eT; clear T; intro v T h529 L2 Lc X eT hL hQ530
          obtain ⟨rfl, Nq, K531, G533⟩ := hQ530
          replace N : Fr n0 L2 := by rw [hL]; exact Fr.app N Nq
          clear Nq hL
          have ne_uq_s2 : uq ≠ s2 := Str.ne2 P4_Str P3_Str.exa (own_w6 hw)
          replace P0_Old := P0_Old.keep K531 (allS ge_s2 all0)
          replace P4_Str := P4_Str.keep K531 (ninS ne_qq_s2 nin0) (ninS ne_uq_s2 nin0)
          replace P11_Fld := P11_Fld.keep K531 (ninS ne_qq_s2 nin0)
          replace P12_Fld := P12_Fld.keep K531 (ninS ne_qq_s2 nin0)
          replace A4 := A4.keep K531
          replace G448 := G448.keep K531 (ninS ne_s0_s2 nin0) (ninS ne_u0_s2 nin0)
          replace G476 := G476.keep K531 (ninS ne_s1_s2 nin0) (ninS ne_u1_s2 nin0)
          replace G477 := G477.keep K531 (ninS ne_b2_s2 nin0)
          replace G478 := G478.keep K531 (ninS ne_b2_s2 nin0)
          replace G479 := G479.keep K531 (ninS ne_b2_s2 nin0)
          replace G480 := G480.keep K531 (ninS ne_b2_s2 nin0)
          replace G481 := G481.keep K531 (ninS ne_ss_8_s2 nin0)
          replace G482 := G482.keep K531 (ninS ne_sl_9_s2 nin0)
          replace hk := Nat.le_trans hk K531.1
          replace sz_h : h0.size ≤ h529.size := Nat.le_trans sz_h K531.1
          show Go p e below _ T (mkF m 133 #[.val (.int p0), .val (.int p1), .val (.int p2), .val (.int p3), .val (.int p4), .val (.int p5), .val (.int (3 : Int32)), .val (.int sel), .val (.ref s0), .val (.ref s1), .val (.ref s2), .val (.ref qq), .val (.ref b2), .unset, .unset, .unset, .unset] [(.int (own_at ((own_r32.set q439.toNatClampNeg (1 : Int32)).set q467.toNatClampNeg (2 : Int32)) q524 - (1 : Int32)))])
          refine gpop X hx 134 (hb hby at_133) rfl rfl ?_
          refine gaload (v := (.ref s1)) X hx 136 (hb hby at_134) rfl rfl rfl ?_
          refine gaload (v := (.ref s0)) X hx 138 (hb hby at_136) rfl rfl rfl ?_
          refine gvirtual (y := own_mEq) (z := own_mEq) (a := s1) (argsL := [(.ref s0)]) (st := []) X hx hZ hown (own_w88 hw) (own_w80 hw) (notFace_of_selects (args := #[]) (mvT hZ (own_w82 hw))) (own_w82 hw) (own_w81 hw) (by decide) G476.exa (payEq (W := 0) hZ hw G476 G448 (O2.ext P0_Old.2) P5 (by decide) (by decide)) eT (by rw [hml]; rfl) (lenOf own_pd12 rfl) rfl (Nat.le_of_eq rfl) 27 100 rfl rfl (by decide) (by decide) 141 (hb hby at_138) rfl ?_
          clear X eT; clear T; intro v T h671 L2 Lc X eT hL hQ672
          obtain ⟨rfl, rfl, hh⟩ := hQ672
          replace hh := hh.symm; subst hh
          replace N : Fr n0 L2 := by rw [hL]; exact Fr.app N (Fr.nil n0)
          clear hL
          show Go p e below _ T (mkF m 141 #[.val (.int p0), .val (.int p1), .val (.int p2), .val (.int p3), .val (.int p4), .val (.int p5), .val (.int (3 : Int32)), .val (.int sel), .val (.ref s0), .val (.ref s1), .val (.ref s2), .val (.ref qq), .val (.ref b2), .unset, .unset, .unset, .unset] [(.int (if a1_ = a0_ then 1 else 0))])
          rw [if_neg re456]
          refine gifYes X hx 148 (hb hby at_141) (by decide) (by decide) (by decide) ?_
          refine giconst X hx (1 : Int32) 149 (hb hby at_148) rfl rfl ?_
          refine gistore X hx #[.val (.int p0), .val (.int p1), .val (.int p2), .val (.int p3), .val (.int p4), .val (.int p5), .val (.int (3 : Int32)), .val (.int sel), .val (.ref s0), .val (.ref s1), .val (.ref s2), .val (.ref qq), .val (.ref b2), .val (.int (1 : Int32)), .unset, .unset, .unset] 151 (hb hby at_149) rfl rfl ?_
          refine gaload (v := (.ref s1)) X hx 153 (hb hby at_151) rfl rfl rfl ?_
          refine gaload (v := (.ref s0)) X hx 155 (hb hby at_153) rfl rfl rfl ?_
          refine gvirtual (y := own_mEq) (z := own_mEq) (a := s1) (argsL := [(.ref s0)]) (st := []) X hx hZ hown (own_w88 hw) (own_w80 hw) (notFace_of_selects (args := #[]) (mvT hZ (own_w82 hw))) (own_w82 hw) (own_w81 hw) (by decide) G476.exa (payEq (W := 0) hZ hw G476 G448 (O2.ext P0_Old.2) P5 (by decide) (by decide)) eT (by rw [hml]; rfl) (lenOf own_pd12 rfl) rfl (Nat.le_of_eq rfl) 27 100 rfl rfl (by decide) (by decide) 158 (hb hby at_155) rfl ?_
          clear X eT; clear T; intro v T h673 L2 Lc X eT hL hQ674
          obtain ⟨rfl, rfl, hh⟩ := hQ674
          replace hh := hh.symm; subst hh
          replace N : Fr n0 L2 := by rw [hL]; exact Fr.app N (Fr.nil n0)
          clear hL
          show Go p e below _ T (mkF m 158 #[.val (.int p0), .val (.int p1), .val (.int p2), .val (.int p3), .val (.int p4), .val (.int p5), .val (.int (3 : Int32)), .val (.int sel), .val (.ref s0), .val (.ref s1), .val (.ref s2), .val (.ref qq), .val (.ref b2), .val (.int (1 : Int32)), .unset, .unset, .unset] [(.int (if a1_ = a0_ then 1 else 0))])
          rw [if_neg re456]
          refine gifYes X hx 165 (hb hby at_158) (by decide) (by decide) (by decide) ?_
          refine giconst X hx (2 : Int32) 166 (hb hby at_165) rfl rfl ?_
          refine gistore X hx #[.val (.int p0), .val (.int p1), .val (.int p2), .val (.int p3), .val (.int p4), .val (.int p5), .val (.int (3 : Int32)), .val (.int sel), .val (.ref s0), .val (.ref s1), .val (.ref s2), .val (.ref qq), .val (.ref b2), .val (.int (1 : Int32)), .val (.int (2 : Int32)), .unset, .unset] 168 (hb hby at_166) rfl rfl ?_
          refine gaload (v := (.ref s2)) X hx 170 (hb hby at_168) rfl rfl rfl ?_
          refine gaload (v := (.ref s0)) X hx 172 (hb hby at_170) rfl rfl rfl ?_
          refine gvirtual (y := own_mEq) (z := own_mEq) (a := s2) (argsL := [(.ref s0)]) (st := []) X hx hZ hown (own_w88 hw) (own_w80 hw) (notFace_of_selects (args := #[]) (mvT hZ (own_w82 hw))) (own_w82 hw) (own_w81 hw) (by decide) G533.exa (payEq (W := 0) hZ hw G533 G448 (O2.ext P0_Old.2) P5 (by decide) (by decide)) eT (by rw [hml]; rfl) (lenOf own_pd12 rfl) rfl (Nat.le_of_eq rfl) 27 100 rfl rfl (by decide) (by decide) 175 (hb hby at_172) rfl ?_
          clear X eT; clear T; intro v T h675 L2 Lc X eT hL hQ676
          obtain ⟨rfl, rfl, hh⟩ := hQ676
          replace hh := hh.symm; subst hh
          replace N : Fr n0 L2 := by rw [hL]; exact Fr.app N (Fr.nil n0)
          clear hL
          show Go p e below _ T (mkF m 175 #[.val (.int p0), .val (.int p1), .val (.int p2), .val (.int p3), .val (.int p4), .val (.int p5), .val (.int (3 : Int32)), .val (.int sel), .val (.ref s0), .val (.ref s1), .val (.ref s2), .val (.ref qq), .val (.ref b2), .val (.int (1 : Int32)), .val (.int (2 : Int32)), .unset, .unset] [(.int (if a2_ = a0_ then 1 else 0))])
          rw [if_neg re512]
          refine gifYes X hx 184 (hb hby at_175) (by decide) (by decide) (by decide) ?_
          refine gaload (v := (.ref s2)) X hx 186 (hb hby at_184) rfl rfl rfl ?_
          refine gaload (v := (.ref s1)) X hx 188 (hb hby at_186) rfl rfl rfl ?_
          refine gvirtual (y := own_mEq) (z := own_mEq) (a := s2) (argsL := [(.ref s1)]) (st := []) X hx hZ hown (own_w88 hw) (own_w80 hw) (notFace_of_selects (args := #[]) (mvT hZ (own_w82 hw))) (own_w82 hw) (own_w81 hw) (by decide) G533.exa (payEq (W := 0) hZ hw G533 G476 (O2.ext P0_Old.2) P5 (by decide) (by decide)) eT (by rw [hml]; rfl) (lenOf own_pd12 rfl) rfl (Nat.le_of_eq rfl) 27 100 rfl rfl (by decide) (by decide) 191 (hb hby at_188) rfl ?_
          clear X eT; clear T; intro v T h677 L2 Lc X eT hL hQ678
          obtain ⟨rfl, rfl, hh⟩ := hQ678
          replace hh := hh.symm; subst hh
          replace N : Fr n0 L2 := by rw [hL]; exact Fr.app N (Fr.nil n0)
          clear hL
          show Go p e below _ T (mkF m 191 #[.val (.int p0), .val (.int p1), .val (.int p2), .val (.int p3), .val (.int p4), .val (.int p5), .val (.int (3 : Int32)), .val (.int sel), .val (.ref s0), .val (.ref s1), .val (.ref s2), .val (.ref qq), .val (.ref b2), .val (.int (1 : Int32)), .val (.int (2 : Int32)), .unset, .unset] [(.int (if a2_ = a1_ then 1 else 0))])
          rw [if_pos re513]
          refine gifNo X hx 194 (hb hby at_191) rfl (by decide) ?_
          refine giload (v := (1 : Int32)) X hx 196 (hb hby at_194) rfl rfl ?_
          refine gistore X hx #[.val (.int p0), .val (.int p1), .val (.int p2), .val (.int p3), .val (.int p4), .val (.int p5), .val (.int (3 : Int32)), .val (.int sel), .val (.ref s0), .val (.ref s1), .val (.ref s2), .val (.ref qq), .val (.ref b2), .val (.int (1 : Int32)), .val (.int (2 : Int32)), .val (.int (1 : Int32)), .unset] 198 (hb hby at_196) rfl rfl ?_
          refine ggoto X hx 205 (hb hby at_198) (by decide) (by decide) ?_
          refine giload (v := (3 : Int32)) X hx 207 (hb hby at_205) rfl rfl ?_
          refine giconst X hx (1 : Int32) 208 (hb hby at_207) rfl rfl ?_
          refine gicmpNo X hx 211 (hb hby at_208) rfl (by decide) ?_
          refine gaload (v := (.ref qq)) X hx 213 (hb hby at_211) rfl rfl rfl ?_
          refine gaload (v := (.ref s0)) X hx 215 (hb hby at_213) rfl rfl rfl ?_
          refine gvirtual (y := own_mEq) (z := own_mEq) (a := qq) (argsL := [(.ref s0)]) (st := []) X hx hZ hown (own_w88 hw) (own_w80 hw) (notFace_of_selects (args := #[]) (mvT hZ (own_w82 hw))) (own_w82 hw) (own_w81 hw) (by decide) P4_Str.exa (payEq (W := 0) hZ hw P4_Str G448 (O2.ext P0_Old.2) P5 (by decide) (by decide)) eT (by rw [hml]; rfl) (lenOf own_pd12 rfl) rfl (Nat.le_of_eq rfl) 27 100 rfl rfl (by decide) (by decide) 218 (hb hby at_215) rfl ?_
          clear X eT; clear T; intro v T h679 L2 Lc X eT hL hQ680
          obtain ⟨rfl, rfl, hh⟩ := hQ680
          replace hh := hh.symm; subst hh
          replace N : Fr n0 L2 := by rw [hL]; exact Fr.app N (Fr.nil n0)
          clear hL
          show Go p e below _ T (mkF m 218 #[.val (.int p0), .val (.int p1), .val (.int p2), .val (.int p3), .val (.int p4), .val (.int p5), .val (.int (3 : Int32)), .val (.int sel), .val (.ref s0), .val (.ref s1), .val (.ref s2), .val (.ref qq), .val (.ref b2), .val (.int (1 : Int32)), .val (.int (2 : Int32)), .val (.int (1 : Int32)), .unset] [(.int (if aq_ = a0_ then 1 else 0))])
          rcases Decidable.em (aq_ = a0_) with re681 | re681
          · rw [if_pos re681]
            refine gifNo X hx 221 (hb hby at_218) rfl (by decide) ?_
            refine giconst X hx (0 : Int32) 222 (hb hby at_221) rfl rfl ?_
            refine gistore X hx #[.val (.int p0), .val (.int p1), .val (.int p2), .val (.int p3), .val (.int p4), .val (.int p5), .val (.int (3 : Int32)), .val (.int sel), .val (.ref s0), .val (.ref s1), .val (.ref s2), .val (.ref qq), .val (.ref b2), .val (.int (1 : Int32)), .val (.int (2 : Int32)), .val (.int (1 : Int32)), .val (.int (0 : Int32))] 224 (hb hby at_222) rfl rfl ?_
            refine ggoto X hx 276 (hb hby at_224) (by decide) (by decide) ?_
            refine gaload (v := (.ref b2)) X hx 278 (hb hby at_276) rfl rfl rfl ?_
            refine gaload (v := (.ref qq)) X hx 280 (hb hby at_278) rfl rfl rfl ?_
            obtain ⟨q682, hp683, hR684, ha685⟩ := own_found (i := 0) (ds := ([a0_, a1_] : List (List Int32))) I483 (by simp)
            have ne_u0_qq : u0 ≠ qq := Str.ne2 G448 P4_Str.exa (own_w6 hw)
            have ne_u1_qq : u1 ≠ qq := Str.ne2 G476 P4_Str.exa (own_w6 hw)
            refine gvirtual (y := own_mNo) (z := own_mNo) (a := b2) (argsL := [(.ref qq)]) (st := []) X hx hZ hown (own_w89 hw) (own_w90 hw) (notFace_of_selects (args := #[]) (mvT hZ (own_w92 hw))) (own_w92 hw) (own_w91 hw) (by decide) A4 (payP (W := 0) (rmNo2 l Z a0 hw (qq) (uq) (aq_) (((own_r32.set q439.toNatClampNeg (1 : Int32)).set q467.toNatClampNeg (2 : Int32))) (q682) (4) (b2) (ss_8) (sl_9) (ks_10) (ki_11) (G1) (s0) (s1) (u0) (u1) (a0_) (a1_) h529 n0 (Nat.le_trans Z0 sz_h) ge_qq P0_Old A4 G477 G478 G479 G480 G481 G482 P4_Str P11_Fld P12_Fld G448 G476 (O2) (P5) (I483) (by rw [re681]; exact hp683) (laq_) (ne_s0_qq) (ne_s1_qq) (ne_u0_qq) (ne_u1_qq) (hR684)) hZ (own_w93 hw) (own_w29 hw) (by decide) (by decide)) eT (by rw [hml]; rfl) (lenOf own_pd13 rfl) rfl (Nat.le_of_eq rfl) 27 100 rfl rfl (by decide) (by decide) 283 (hb hby at_280) rfl ?_
            clear X eT; clear T; intro v T h686 L2 Lc X eT hL hQ687
            obtain ⟨rfl, Nq, K688, G690⟩ := hQ687
            replace N : Fr n0 L2 := by rw [hL]; exact Fr.app N Nq
            clear Nq hL
            have ne_u2_qq : u2 ≠ qq := Str.ne2 G533 P4_Str.exa (own_w6 hw)
            replace P0_Old := P0_Old.keep K688 (allS ge_qq all0)
            replace A4 := A4.keep K688
            replace G448 := G448.keep K688 (ninS ne_s0_qq nin0) (ninS ne_u0_qq nin0)
            replace G476 := G476.keep K688 (ninS ne_s1_qq nin0) (ninS ne_u1_qq nin0)
            replace G477 := G477.keep K688 (ninS ne_b2_qq nin0)
            replace G478 := G478.keep K688 (ninS ne_b2_qq nin0)
            replace G479 := G479.keep K688 (ninS ne_b2_qq nin0)
            replace G480 := G480.keep K688 (ninS ne_b2_qq nin0)
            replace G481 := G481.keep K688 (ninS ne_ss_8_qq nin0)
            replace G482 := G482.keep K688 (ninS ne_sl_9_qq nin0)
            replace G533 := G533.keep K688 (ninS ne_s2_qq nin0) (ninS ne_u2_qq nin0)
            replace hk := Nat.le_trans hk K688.1
            replace sz_h : h0.size ≤ h686.size := Nat.le_trans sz_h K688.1
            rw [show own_at ((own_r32.set q439.toNatClampNeg (1 : Int32)).set q467.toNatClampNeg (2 : Int32)) q682 = (1 : Int32) from ha685]
            rw [show ((1 : Int32) - (1 : Int32)) = (0 : Int32) from by decide]
            show Go p e below _ T (mkF m 283 #[.val (.int p0), .val (.int p1), .val (.int p2), .val (.int p3), .val (.int p4), .val (.int p5), .val (.int (3 : Int32)), .val (.int sel), .val (.ref s0), .val (.ref s1), .val (.ref s2), .val (.ref qq), .val (.ref b2), .val (.int (1 : Int32)), .val (.int (2 : Int32)), .val (.int (1 : Int32)), .val (.int (0 : Int32))] [(.int (0 : Int32))])
            refine giload (v := (0 : Int32)) X hx 285 (hb hby at_283) rfl rfl ?_
            refine gicmpNo X hx 288 (hb hby at_285) rfl (by decide) ?_
            refine giconst X hx (1 : Int32) 289 (hb hby at_288) rfl rfl ?_
            refine ggoto X hx 293 (hb hby at_289) (by decide) (by decide) ?_
            exact gRetL X hx hlk hret rfl (Or.inl ⟨rfl, by simp, _, rfl⟩) (hb hby at_293) eT hS hk (by decide) (by decide) ⟨rfl, N⟩
          · rw [if_neg re681]
            refine gifYes X hx 227 (hb hby at_218) (by decide) (by decide) (by decide) ?_
            refine giload (v := (3 : Int32)) X hx 229 (hb hby at_227) rfl rfl ?_
            refine giconst X hx (2 : Int32) 230 (hb hby at_229) rfl rfl ?_
            refine gicmpNo X hx 233 (hb hby at_230) rfl (by decide) ?_
            refine gaload (v := (.ref qq)) X hx 235 (hb hby at_233) rfl rfl rfl ?_
            refine gaload (v := (.ref s1)) X hx 237 (hb hby at_235) rfl rfl rfl ?_
            refine gvirtual (y := own_mEq) (z := own_mEq) (a := qq) (argsL := [(.ref s1)]) (st := []) X hx hZ hown (own_w88 hw) (own_w80 hw) (notFace_of_selects (args := #[]) (mvT hZ (own_w82 hw))) (own_w82 hw) (own_w81 hw) (by decide) P4_Str.exa (payEq (W := 0) hZ hw P4_Str G476 (O2.ext P0_Old.2) P5 (by decide) (by decide)) eT (by rw [hml]; rfl) (lenOf own_pd12 rfl) rfl (Nat.le_of_eq rfl) 27 100 rfl rfl (by decide) (by decide) 240 (hb hby at_237) rfl ?_
            clear X eT; clear T; intro v T h691 L2 Lc X eT hL hQ692
            obtain ⟨rfl, rfl, hh⟩ := hQ692
            replace hh := hh.symm; subst hh
            replace N : Fr n0 L2 := by rw [hL]; exact Fr.app N (Fr.nil n0)
            clear hL
            show Go p e below _ T (mkF m 240 #[.val (.int p0), .val (.int p1), .val (.int p2), .val (.int p3), .val (.int p4), .val (.int p5), .val (.int (3 : Int32)), .val (.int sel), .val (.ref s0), .val (.ref s1), .val (.ref s2), .val (.ref qq), .val (.ref b2), .val (.int (1 : Int32)), .val (.int (2 : Int32)), .val (.int (1 : Int32)), .unset] [(.int (if aq_ = a1_ then 1 else 0))])
            rcases Decidable.em (aq_ = a1_) with re693 | re693
            · rw [if_pos re693]
              refine gifNo X hx 243 (hb hby at_240) rfl (by decide) ?_
              refine giload (v := (1 : Int32)) X hx 245 (hb hby at_243) rfl rfl ?_
              refine gistore X hx #[.val (.int p0), .val (.int p1), .val (.int p2), .val (.int p3), .val (.int p4), .val (.int p5), .val (.int (3 : Int32)), .val (.int sel), .val (.ref s0), .val (.ref s1), .val (.ref s2), .val (.ref qq), .val (.ref b2), .val (.int (1 : Int32)), .val (.int (2 : Int32)), .val (.int (1 : Int32)), .val (.int (1 : Int32))] 247 (hb hby at_245) rfl rfl ?_
              refine ggoto X hx 276 (hb hby at_247) (by decide) (by decide) ?_
              refine gaload (v := (.ref b2)) X hx 278 (hb hby at_276) rfl rfl rfl ?_
              refine gaload (v := (.ref qq)) X hx 280 (hb hby at_278) rfl rfl rfl ?_
              obtain ⟨q694, hp695, hR696, ha697⟩ := own_found (i := 1) (ds := ([a0_, a1_] : List (List Int32))) I483 (by simp)
              have ne_u0_qq : u0 ≠ qq := Str.ne2 G448 P4_Str.exa (own_w6 hw)
              have ne_u1_qq : u1 ≠ qq := Str.ne2 G476 P4_Str.exa (own_w6 hw)
              refine gvirtual (y := own_mNo) (z := own_mNo) (a := b2) (argsL := [(.ref qq)]) (st := []) X hx hZ hown (own_w89 hw) (own_w90 hw) (notFace_of_selects (args := #[]) (mvT hZ (own_w92 hw))) (own_w92 hw) (own_w91 hw) (by decide) A4 (payP (W := 0) (rmNo2 l Z a0 hw (qq) (uq) (aq_) (((own_r32.set q439.toNatClampNeg (1 : Int32)).set q467.toNatClampNeg (2 : Int32))) (q694) (4) (b2) (ss_8) (sl_9) (ks_10) (ki_11) (G1) (s0) (s1) (u0) (u1) (a0_) (a1_) h529 n0 (Nat.le_trans Z0 sz_h) ge_qq P0_Old A4 G477 G478 G479 G480 G481 G482 P4_Str P11_Fld P12_Fld G448 G476 (O2) (P5) (I483) (by rw [re693]; exact hp695) (laq_) (ne_s0_qq) (ne_s1_qq) (ne_u0_qq) (ne_u1_qq) (hR696)) hZ (own_w93 hw) (own_w29 hw) (by decide) (by decide)) eT (by rw [hml]; rfl) (lenOf own_pd13 rfl) rfl (Nat.le_of_eq rfl) 27 100 rfl rfl (by decide) (by decide) 283 (hb hby at_280) rfl ?_
              clear X eT; clear T; intro v T h698 L2 Lc X eT hL hQ699
              obtain ⟨rfl, Nq, K700, G702⟩ := hQ699
              replace N : Fr n0 L2 := by rw [hL]; exact Fr.app N Nq
              clear Nq hL
              have ne_u2_qq : u2 ≠ qq := Str.ne2 G533 P4_Str.exa (own_w6 hw)
              replace P0_Old := P0_Old.keep K700 (allS ge_qq all0)
              replace A4 := A4.keep K700
              replace G448 := G448.keep K700 (ninS ne_s0_qq nin0) (ninS ne_u0_qq nin0)
              replace G476 := G476.keep K700 (ninS ne_s1_qq nin0) (ninS ne_u1_qq nin0)
              replace G477 := G477.keep K700 (ninS ne_b2_qq nin0)
              replace G478 := G478.keep K700 (ninS ne_b2_qq nin0)
              replace G479 := G479.keep K700 (ninS ne_b2_qq nin0)
              replace G480 := G480.keep K700 (ninS ne_b2_qq nin0)
              replace G481 := G481.keep K700 (ninS ne_ss_8_qq nin0)
              replace G482 := G482.keep K700 (ninS ne_sl_9_qq nin0)
              replace G533 := G533.keep K700 (ninS ne_s2_qq nin0) (ninS ne_u2_qq nin0)
              replace hk := Nat.le_trans hk K700.1
              replace sz_h : h0.size ≤ h698.size := Nat.le_trans sz_h K700.1
              rw [show own_at ((own_r32.set q439.toNatClampNeg (1 : Int32)).set q467.toNatClampNeg (2 : Int32)) q694 = (2 : Int32) from ha697]
              rw [show ((2 : Int32) - (1 : Int32)) = (1 : Int32) from by decide]
              show Go p e below _ T (mkF m 283 #[.val (.int p0), .val (.int p1), .val (.int p2), .val (.int p3), .val (.int p4), .val (.int p5), .val (.int (3 : Int32)), .val (.int sel), .val (.ref s0), .val (.ref s1), .val (.ref s2), .val (.ref qq), .val (.ref b2), .val (.int (1 : Int32)), .val (.int (2 : Int32)), .val (.int (1 : Int32)), .val (.int (1 : Int32))] [(.int (1 : Int32))])
              refine giload (v := (1 : Int32)) X hx 285 (hb hby at_283) rfl rfl ?_
              refine gicmpNo X hx 288 (hb hby at_285) rfl (by decide) ?_
              refine giconst X hx (1 : Int32) 289 (hb hby at_288) rfl rfl ?_
              refine ggoto X hx 293 (hb hby at_289) (by decide) (by decide) ?_
              exact gRetL X hx hlk hret rfl (Or.inl ⟨rfl, by simp, _, rfl⟩) (hb hby at_293) eT hS hk (by decide) (by decide) ⟨rfl, N⟩
            · rw [if_neg re693]
              refine gifYes X hx 250 (hb hby at_240) (by decide) (by decide) (by decide) ?_
              refine giload (v := (3 : Int32)) X hx 252 (hb hby at_250) rfl rfl ?_
              refine giconst X hx (3 : Int32) 253 (hb hby at_252) rfl rfl ?_
              refine gicmpNo X hx 256 (hb hby at_253) rfl (by decide) ?_
              refine gaload (v := (.ref qq)) X hx 258 (hb hby at_256) rfl rfl rfl ?_
              refine gaload (v := (.ref s2)) X hx 260 (hb hby at_258) rfl rfl rfl ?_
              refine gvirtual (y := own_mEq) (z := own_mEq) (a := qq) (argsL := [(.ref s2)]) (st := []) X hx hZ hown (own_w88 hw) (own_w80 hw) (notFace_of_selects (args := #[]) (mvT hZ (own_w82 hw))) (own_w82 hw) (own_w81 hw) (by decide) P4_Str.exa (payEq (W := 0) hZ hw P4_Str G533 (O2.ext P0_Old.2) P5 (by decide) (by decide)) eT (by rw [hml]; rfl) (lenOf own_pd12 rfl) rfl (Nat.le_of_eq rfl) 27 100 rfl rfl (by decide) (by decide) 263 (hb hby at_260) rfl ?_
              clear X eT; clear T; intro v T h703 L2 Lc X eT hL hQ704
              obtain ⟨rfl, rfl, hh⟩ := hQ704
              replace hh := hh.symm; subst hh
              replace N : Fr n0 L2 := by rw [hL]; exact Fr.app N (Fr.nil n0)
              clear hL
              show Go p e below _ T (mkF m 263 #[.val (.int p0), .val (.int p1), .val (.int p2), .val (.int p3), .val (.int p4), .val (.int p5), .val (.int (3 : Int32)), .val (.int sel), .val (.ref s0), .val (.ref s1), .val (.ref s2), .val (.ref qq), .val (.ref b2), .val (.int (1 : Int32)), .val (.int (2 : Int32)), .val (.int (1 : Int32)), .unset] [(.int (if aq_ = a2_ then 1 else 0))])
              have re705 : ¬ aq_ = a2_ := fun z => re693 (z.trans re513)
              rw [if_neg re705]
              refine gifYes X hx 273 (hb hby at_263) (by decide) (by decide) (by decide) ?_
              refine giconst X hx (-1 : Int32) 274 (hb hby at_273) rfl rfl ?_
              refine gistore X hx #[.val (.int p0), .val (.int p1), .val (.int p2), .val (.int p3), .val (.int p4), .val (.int p5), .val (.int (3 : Int32)), .val (.int sel), .val (.ref s0), .val (.ref s1), .val (.ref s2), .val (.ref qq), .val (.ref b2), .val (.int (1 : Int32)), .val (.int (2 : Int32)), .val (.int (1 : Int32)), .val (.int (-1 : Int32))] 276 (hb hby at_274) rfl rfl ?_
              refine gaload (v := (.ref b2)) X hx 278 (hb hby at_276) rfl rfl rfl ?_
              refine gaload (v := (.ref qq)) X hx 280 (hb hby at_278) rfl rfl rfl ?_
              obtain ⟨q706, hp707, hR708, ha709, -⟩ := own_miss (ds := ([a0_, a1_] : List (List Int32))) (cs := aq_) I483 (by simp [re681, re693])
              have ne_u0_qq : u0 ≠ qq := Str.ne2 G448 P4_Str.exa (own_w6 hw)
              have ne_u1_qq : u1 ≠ qq := Str.ne2 G476 P4_Str.exa (own_w6 hw)
              refine gvirtual (y := own_mNo) (z := own_mNo) (a := b2) (argsL := [(.ref qq)]) (st := []) X hx hZ hown (own_w89 hw) (own_w90 hw) (notFace_of_selects (args := #[]) (mvT hZ (own_w92 hw))) (own_w92 hw) (own_w91 hw) (by decide) A4 (payP (W := 0) (rmNo2 l Z a0 hw (qq) (uq) (aq_) (((own_r32.set q439.toNatClampNeg (1 : Int32)).set q467.toNatClampNeg (2 : Int32))) (q706) (4) (b2) (ss_8) (sl_9) (ks_10) (ki_11) (G1) (s0) (s1) (u0) (u1) (a0_) (a1_) h529 n0 (Nat.le_trans Z0 sz_h) ge_qq P0_Old A4 G477 G478 G479 G480 G481 G482 P4_Str P11_Fld P12_Fld G448 G476 (O2) (P5) (I483) (hp707) (laq_) (ne_s0_qq) (ne_s1_qq) (ne_u0_qq) (ne_u1_qq) (hR708)) hZ (own_w93 hw) (own_w29 hw) (by decide) (by decide)) eT (by rw [hml]; rfl) (lenOf own_pd13 rfl) rfl (Nat.le_of_eq rfl) 27 100 rfl rfl (by decide) (by decide) 283 (hb hby at_280) rfl ?_
              clear X eT; clear T; intro v T h710 L2 Lc X eT hL hQ711
              obtain ⟨rfl, Nq, K712, G714⟩ := hQ711
              replace N : Fr n0 L2 := by rw [hL]; exact Fr.app N Nq
              clear Nq hL
              have ne_u2_qq : u2 ≠ qq := Str.ne2 G533 P4_Str.exa (own_w6 hw)
              replace P0_Old := P0_Old.keep K712 (allS ge_qq all0)
              replace A4 := A4.keep K712
              replace G448 := G448.keep K712 (ninS ne_s0_qq nin0) (ninS ne_u0_qq nin0)
              replace G476 := G476.keep K712 (ninS ne_s1_qq nin0) (ninS ne_u1_qq nin0)
              replace G477 := G477.keep K712 (ninS ne_b2_qq nin0)
              replace G478 := G478.keep K712 (ninS ne_b2_qq nin0)
              replace G479 := G479.keep K712 (ninS ne_b2_qq nin0)
              replace G480 := G480.keep K712 (ninS ne_b2_qq nin0)
              replace G481 := G481.keep K712 (ninS ne_ss_8_qq nin0)
              replace G482 := G482.keep K712 (ninS ne_sl_9_qq nin0)
              replace G533 := G533.keep K712 (ninS ne_s2_qq nin0) (ninS ne_u2_qq nin0)
              replace hk := Nat.le_trans hk K712.1
              replace sz_h : h0.size ≤ h710.size := Nat.le_trans sz_h K712.1
              rw [show own_at ((own_r32.set q439.toNatClampNeg (1 : Int32)).set q467.toNatClampNeg (2 : Int32)) q706 = (0 : Int32) from ha709]
              rw [show ((0 : Int32) - (1 : Int32)) = (-1 : Int32) from by decide]
              show Go p e below _ T (mkF m 283 #[.val (.int p0), .val (.int p1), .val (.int p2), .val (.int p3), .val (.int p4), .val (.int p5), .val (.int (3 : Int32)), .val (.int sel), .val (.ref s0), .val (.ref s1), .val (.ref s2), .val (.ref qq), .val (.ref b2), .val (.int (1 : Int32)), .val (.int (2 : Int32)), .val (.int (1 : Int32)), .val (.int (-1 : Int32))] [(.int (-1 : Int32))])
              refine giload (v := (-1 : Int32)) X hx 285 (hb hby at_283) rfl rfl ?_
              refine gicmpNo X hx 288 (hb hby at_285) rfl (by decide) ?_
              refine giconst X hx (1 : Int32) 289 (hb hby at_288) rfl rfl ?_
              refine ggoto X hx 293 (hb hby at_289) (by decide) (by decide) ?_
              exact gRetL X hx hlk hret rfl (Or.inl ⟨rfl, by simp, _, rfl⟩) (hb hby at_293) eT hS hk (by decide) (by decide) ⟨rfl, N⟩
        · obtain ⟨q534, hp535, hR536, ha537, hI538⟩ := own_miss (ds := ([a0_, a1_] : List (List Int32))) (cs := a2_) I483 (by simp [re512, re513])
          have ne_u0_s2 : u0 ≠ s2 := Str.ne2 G448 P3_Str.exa (own_w6 hw)
          have ne_u1_s2 : u1 ≠ s2 := Str.ne2 G476 P3_Str.exa (own_w6 hw)
          refine gvirtual (y := own_mAd) (z := own_mAd) (a := b2) (argsL := [(.ref s2)]) (st := []) X hx hZ hown (own_w48 hw) (own_w49 hw) (notFace_of_selects (args := #[]) (mvT hZ (own_w51 hw))) (own_w51 hw) (own_w50 hw) (by decide) A4 (payP (W := 0) (rmAd2 l Z a0 hw (s2) (u2) (a2_) (((own_r32.set q439.toNatClampNeg (1 : Int32)).set q467.toNatClampNeg (2 : Int32))) (q534) (4) (b2) (ss_8) (sl_9) (ks_10) (ki_11) (G1) (s0) (s1) (u0) (u1) (a0_) (a1_) h472 n0 (Nat.le_trans Z0 sz_h) ge_s2 ge_b2 ge_ss_8 ge_sl_9 P0_Old A4 G477 G478 G479 G480 G481 G482 P3_Str P9_Fld P10_Fld G448 G476 (O2) (P5) (I483) (hp535) (la2_) (ne_s0_s2) (ne_s1_s2) (ne_u0_s2) (ne_u1_s2) (hR536) (ha537) (pp20) (ne_ss_8_sl_9) (ne_u0_sl_9) (ne_u1_sl_9) (ne_u2_sl_9)) hZ (own_w52 hw) (own_w29 hw) (by decide) (by decide)) eT (by rw [hml]; rfl) (lenOf own_pd13 rfl) rfl (Nat.le_of_eq rfl) 27 100 rfl rfl (by decide) (by decide) 133 (hb hby at_130) rfl ?_
          clear X eT; clear T; intro v T h539 L2 Lc X eT hL hQ540
          obtain ⟨rfl, Nq, K541, G543, G544, G545, G546, G547, G548, G549⟩ := hQ540
          replace N : Fr n0 L2 := by rw [hL]; exact Fr.app N Nq
          clear Nq hL
          have ne_uq_s2 : uq ≠ s2 := Str.ne2 P4_Str P3_Str.exa (own_w6 hw)
          replace P0_Old := P0_Old.keep K541 (allS ge_s2 (allS ge_b2 (allS ge_ss_8 (allS ge_sl_9 all0))))
          replace P4_Str := P4_Str.keep K541 (ninS ne_qq_s2 (ninS ne_qq_b2 (ninS ne_qq_ss_8 (ninS ne_qq_sl_9 nin0)))) (ninS ne_uq_s2 (ninS ne_uq_b2 (ninS ne_uq_ss_8 (ninS ne_uq_sl_9 nin0))))
          replace P11_Fld := P11_Fld.keep K541 (ninS ne_qq_s2 (ninS ne_qq_b2 (ninS ne_qq_ss_8 (ninS ne_qq_sl_9 nin0))))
          replace P12_Fld := P12_Fld.keep K541 (ninS ne_qq_s2 (ninS ne_qq_b2 (ninS ne_qq_ss_8 (ninS ne_qq_sl_9 nin0))))
          replace A4 := A4.keep K541
          replace G448 := G448.keep K541 (ninS ne_s0_s2 (ninS ne_s0_b2 (ninS ne_s0_ss_8 (ninS ne_s0_sl_9 nin0)))) (ninS ne_u0_s2 (ninS ne_u0_b2 (ninS ne_u0_ss_8 (ninS ne_u0_sl_9 nin0))))
          replace G476 := G476.keep K541 (ninS ne_s1_s2 (ninS ne_s1_b2 (ninS ne_s1_ss_8 (ninS ne_s1_sl_9 nin0)))) (ninS ne_u1_s2 (ninS ne_u1_b2 (ninS ne_u1_ss_8 (ninS ne_u1_sl_9 nin0))))
          replace hk := Nat.le_trans hk K541.1
          replace sz_h : h0.size ≤ h539.size := Nat.le_trans sz_h K541.1
          show Go p e below _ T (mkF m 133 #[.val (.int p0), .val (.int p1), .val (.int p2), .val (.int p3), .val (.int p4), .val (.int p5), .val (.int (3 : Int32)), .val (.int sel), .val (.ref s0), .val (.ref s1), .val (.ref s2), .val (.ref qq), .val (.ref b2), .unset, .unset, .unset, .unset] [(.int (2 : Int32))])
          have I550 : own_Inv (((own_r32.set q439.toNatClampNeg (1 : Int32)).set q467.toNatClampNeg (2 : Int32)).set q534.toNatClampNeg (3 : Int32)) ([a0_, a1_, a2_] : List (List Int32)) := hI538 (by simp)
          refine gpop X hx 134 (hb hby at_133) rfl rfl ?_
          refine gaload (v := (.ref s1)) X hx 136 (hb hby at_134) rfl rfl rfl ?_
          refine gaload (v := (.ref s0)) X hx 138 (hb hby at_136) rfl rfl rfl ?_
          refine gvirtual (y := own_mEq) (z := own_mEq) (a := s1) (argsL := [(.ref s0)]) (st := []) X hx hZ hown (own_w88 hw) (own_w80 hw) (notFace_of_selects (args := #[]) (mvT hZ (own_w82 hw))) (own_w82 hw) (own_w81 hw) (by decide) G476.exa (payEq (W := 0) hZ hw G476 G448 (O2.ext P0_Old.2) P5 (by decide) (by decide)) eT (by rw [hml]; rfl) (lenOf own_pd12 rfl) rfl (Nat.le_of_eq rfl) 27 100 rfl rfl (by decide) (by decide) 141 (hb hby at_138) rfl ?_
          clear X eT; clear T; intro v T h715 L2 Lc X eT hL hQ716
          obtain ⟨rfl, rfl, hh⟩ := hQ716
          replace hh := hh.symm; subst hh
          replace N : Fr n0 L2 := by rw [hL]; exact Fr.app N (Fr.nil n0)
          clear hL
          show Go p e below _ T (mkF m 141 #[.val (.int p0), .val (.int p1), .val (.int p2), .val (.int p3), .val (.int p4), .val (.int p5), .val (.int (3 : Int32)), .val (.int sel), .val (.ref s0), .val (.ref s1), .val (.ref s2), .val (.ref qq), .val (.ref b2), .unset, .unset, .unset, .unset] [(.int (if a1_ = a0_ then 1 else 0))])
          rw [if_neg re456]
          refine gifYes X hx 148 (hb hby at_141) (by decide) (by decide) (by decide) ?_
          refine giconst X hx (1 : Int32) 149 (hb hby at_148) rfl rfl ?_
          refine gistore X hx #[.val (.int p0), .val (.int p1), .val (.int p2), .val (.int p3), .val (.int p4), .val (.int p5), .val (.int (3 : Int32)), .val (.int sel), .val (.ref s0), .val (.ref s1), .val (.ref s2), .val (.ref qq), .val (.ref b2), .val (.int (1 : Int32)), .unset, .unset, .unset] 151 (hb hby at_149) rfl rfl ?_
          refine gaload (v := (.ref s1)) X hx 153 (hb hby at_151) rfl rfl rfl ?_
          refine gaload (v := (.ref s0)) X hx 155 (hb hby at_153) rfl rfl rfl ?_
          refine gvirtual (y := own_mEq) (z := own_mEq) (a := s1) (argsL := [(.ref s0)]) (st := []) X hx hZ hown (own_w88 hw) (own_w80 hw) (notFace_of_selects (args := #[]) (mvT hZ (own_w82 hw))) (own_w82 hw) (own_w81 hw) (by decide) G476.exa (payEq (W := 0) hZ hw G476 G448 (O2.ext P0_Old.2) P5 (by decide) (by decide)) eT (by rw [hml]; rfl) (lenOf own_pd12 rfl) rfl (Nat.le_of_eq rfl) 27 100 rfl rfl (by decide) (by decide) 158 (hb hby at_155) rfl ?_
          clear X eT; clear T; intro v T h717 L2 Lc X eT hL hQ718
          obtain ⟨rfl, rfl, hh⟩ := hQ718
          replace hh := hh.symm; subst hh
          replace N : Fr n0 L2 := by rw [hL]; exact Fr.app N (Fr.nil n0)
          clear hL
          show Go p e below _ T (mkF m 158 #[.val (.int p0), .val (.int p1), .val (.int p2), .val (.int p3), .val (.int p4), .val (.int p5), .val (.int (3 : Int32)), .val (.int sel), .val (.ref s0), .val (.ref s1), .val (.ref s2), .val (.ref qq), .val (.ref b2), .val (.int (1 : Int32)), .unset, .unset, .unset] [(.int (if a1_ = a0_ then 1 else 0))])
          rw [if_neg re456]
          refine gifYes X hx 165 (hb hby at_158) (by decide) (by decide) (by decide) ?_
          refine giconst X hx (2 : Int32) 166 (hb hby at_165) rfl rfl ?_
          refine gistore X hx #[.val (.int p0), .val (.int p1), .val (.int p2), .val (.int p3), .val (.int p4), .val (.int p5), .val (.int (3 : Int32)), .val (.int sel), .val (.ref s0), .val (.ref s1), .val (.ref s2), .val (.ref qq), .val (.ref b2), .val (.int (1 : Int32)), .val (.int (2 : Int32)), .unset, .unset] 168 (hb hby at_166) rfl rfl ?_
          refine gaload (v := (.ref s2)) X hx 170 (hb hby at_168) rfl rfl rfl ?_
          refine gaload (v := (.ref s0)) X hx 172 (hb hby at_170) rfl rfl rfl ?_
          refine gvirtual (y := own_mEq) (z := own_mEq) (a := s2) (argsL := [(.ref s0)]) (st := []) X hx hZ hown (own_w88 hw) (own_w80 hw) (notFace_of_selects (args := #[]) (mvT hZ (own_w82 hw))) (own_w82 hw) (own_w81 hw) (by decide) G543.exa (payEq (W := 0) hZ hw G543 G448 (O2.ext P0_Old.2) P5 (by decide) (by decide)) eT (by rw [hml]; rfl) (lenOf own_pd12 rfl) rfl (Nat.le_of_eq rfl) 27 100 rfl rfl (by decide) (by decide) 175 (hb hby at_172) rfl ?_
          clear X eT; clear T; intro v T h719 L2 Lc X eT hL hQ720
          obtain ⟨rfl, rfl, hh⟩ := hQ720
          replace hh := hh.symm; subst hh
          replace N : Fr n0 L2 := by rw [hL]; exact Fr.app N (Fr.nil n0)
          clear hL
          show Go p e below _ T (mkF m 175 #[.val (.int p0), .val (.int p1), .val (.int p2), .val (.int p3), .val (.int p4), .val (.int p5), .val (.int (3 : Int32)), .val (.int sel), .val (.ref s0), .val (.ref s1), .val (.ref s2), .val (.ref qq), .val (.ref b2), .val (.int (1 : Int32)), .val (.int (2 : Int32)), .unset, .unset] [(.int (if a2_ = a0_ then 1 else 0))])
          rw [if_neg re512]
          refine gifYes X hx 184 (hb hby at_175) (by decide) (by decide) (by decide) ?_
          refine gaload (v := (.ref s2)) X hx 186 (hb hby at_184) rfl rfl rfl ?_
          refine gaload (v := (.ref s1)) X hx 188 (hb hby at_186) rfl rfl rfl ?_
          refine gvirtual (y := own_mEq) (z := own_mEq) (a := s2) (argsL := [(.ref s1)]) (st := []) X hx hZ hown (own_w88 hw) (own_w80 hw) (notFace_of_selects (args := #[]) (mvT hZ (own_w82 hw))) (own_w82 hw) (own_w81 hw) (by decide) G543.exa (payEq (W := 0) hZ hw G543 G476 (O2.ext P0_Old.2) P5 (by decide) (by decide)) eT (by rw [hml]; rfl) (lenOf own_pd12 rfl) rfl (Nat.le_of_eq rfl) 27 100 rfl rfl (by decide) (by decide) 191 (hb hby at_188) rfl ?_
          clear X eT; clear T; intro v T h721 L2 Lc X eT hL hQ722
          obtain ⟨rfl, rfl, hh⟩ := hQ722
          replace hh := hh.symm; subst hh
          replace N : Fr n0 L2 := by rw [hL]; exact Fr.app N (Fr.nil n0)
          clear hL
          show Go p e below _ T (mkF m 191 #[.val (.int p0), .val (.int p1), .val (.int p2), .val (.int p3), .val (.int p4), .val (.int p5), .val (.int (3 : Int32)), .val (.int sel), .val (.ref s0), .val (.ref s1), .val (.ref s2), .val (.ref qq), .val (.ref b2), .val (.int (1 : Int32)), .val (.int (2 : Int32)), .unset, .unset] [(.int (if a2_ = a1_ then 1 else 0))])
          rw [if_neg re513]
          refine gifYes X hx 201 (hb hby at_191) (by decide) (by decide) (by decide) ?_
          refine giload (v := (2 : Int32)) X hx 203 (hb hby at_201) rfl rfl ?_
          refine gistore X hx #[.val (.int p0), .val (.int p1), .val (.int p2), .val (.int p3), .val (.int p4), .val (.int p5), .val (.int (3 : Int32)), .val (.int sel), .val (.ref s0), .val (.ref s1), .val (.ref s2), .val (.ref qq), .val (.ref b2), .val (.int (1 : Int32)), .val (.int (2 : Int32)), .val (.int (2 : Int32)), .unset] 205 (hb hby at_203) rfl rfl ?_
          refine giload (v := (3 : Int32)) X hx 207 (hb hby at_205) rfl rfl ?_
          refine giconst X hx (1 : Int32) 208 (hb hby at_207) rfl rfl ?_
          refine gicmpNo X hx 211 (hb hby at_208) rfl (by decide) ?_
          refine gaload (v := (.ref qq)) X hx 213 (hb hby at_211) rfl rfl rfl ?_
          refine gaload (v := (.ref s0)) X hx 215 (hb hby at_213) rfl rfl rfl ?_
          refine gvirtual (y := own_mEq) (z := own_mEq) (a := qq) (argsL := [(.ref s0)]) (st := []) X hx hZ hown (own_w88 hw) (own_w80 hw) (notFace_of_selects (args := #[]) (mvT hZ (own_w82 hw))) (own_w82 hw) (own_w81 hw) (by decide) P4_Str.exa (payEq (W := 0) hZ hw P4_Str G448 (O2.ext P0_Old.2) P5 (by decide) (by decide)) eT (by rw [hml]; rfl) (lenOf own_pd12 rfl) rfl (Nat.le_of_eq rfl) 27 100 rfl rfl (by decide) (by decide) 218 (hb hby at_215) rfl ?_
          clear X eT; clear T; intro v T h723 L2 Lc X eT hL hQ724
          obtain ⟨rfl, rfl, hh⟩ := hQ724
          replace hh := hh.symm; subst hh
          replace N : Fr n0 L2 := by rw [hL]; exact Fr.app N (Fr.nil n0)
          clear hL
          show Go p e below _ T (mkF m 218 #[.val (.int p0), .val (.int p1), .val (.int p2), .val (.int p3), .val (.int p4), .val (.int p5), .val (.int (3 : Int32)), .val (.int sel), .val (.ref s0), .val (.ref s1), .val (.ref s2), .val (.ref qq), .val (.ref b2), .val (.int (1 : Int32)), .val (.int (2 : Int32)), .val (.int (2 : Int32)), .unset] [(.int (if aq_ = a0_ then 1 else 0))])
          rcases Decidable.em (aq_ = a0_) with re725 | re725
          · rw [if_pos re725]
            refine gifNo X hx 221 (hb hby at_218) rfl (by decide) ?_
            refine giconst X hx (0 : Int32) 222 (hb hby at_221) rfl rfl ?_
            refine gistore X hx #[.val (.int p0), .val (.int p1), .val (.int p2), .val (.int p3), .val (.int p4), .val (.int p5), .val (.int (3 : Int32)), .val (.int sel), .val (.ref s0), .val (.ref s1), .val (.ref s2), .val (.ref qq), .val (.ref b2), .val (.int (1 : Int32)), .val (.int (2 : Int32)), .val (.int (2 : Int32)), .val (.int (0 : Int32))] 224 (hb hby at_222) rfl rfl ?_
            refine ggoto X hx 276 (hb hby at_224) (by decide) (by decide) ?_
            refine gaload (v := (.ref b2)) X hx 278 (hb hby at_276) rfl rfl rfl ?_
            refine gaload (v := (.ref qq)) X hx 280 (hb hby at_278) rfl rfl rfl ?_
            obtain ⟨q726, hp727, hR728, ha729⟩ := own_found (i := 0) (ds := ([a0_, a1_, a2_] : List (List Int32))) I550 (by simp)
            have ne_u0_qq : u0 ≠ qq := Str.ne2 G448 P4_Str.exa (own_w6 hw)
            have ne_u1_qq : u1 ≠ qq := Str.ne2 G476 P4_Str.exa (own_w6 hw)
            have ne_u2_qq : u2 ≠ qq := Str.ne2 G543 P4_Str.exa (own_w6 hw)
            refine gvirtual (y := own_mNo) (z := own_mNo) (a := b2) (argsL := [(.ref qq)]) (st := []) X hx hZ hown (own_w89 hw) (own_w90 hw) (notFace_of_selects (args := #[]) (mvT hZ (own_w92 hw))) (own_w92 hw) (own_w91 hw) (by decide) A4 (payP (W := 0) (rmNo3 l Z a0 hw (qq) (uq) (aq_) ((((own_r32.set q439.toNatClampNeg (1 : Int32)).set q467.toNatClampNeg (2 : Int32)).set q534.toNatClampNeg (3 : Int32))) (q726) (4) (b2) (ss_8) (sl_9) (ks_10) (ki_11) (G1) (s0) (s1) (s2) (u0) (u1) (u2) (a0_) (a1_) (a2_) h539 n0 (Nat.le_trans Z0 sz_h) ge_qq P0_Old A4 G544 G545 G546 G547 G548 G549 P4_Str P11_Fld P12_Fld G448 G476 G543 (O2) (P5) (I550) (by rw [re725]; exact hp727) (laq_) (ne_s0_qq) (ne_s1_qq) (ne_s2_qq) (ne_u0_qq) (ne_u1_qq) (ne_u2_qq) (hR728)) hZ (own_w93 hw) (own_w29 hw) (by decide) (by decide)) eT (by rw [hml]; rfl) (lenOf own_pd13 rfl) rfl (Nat.le_of_eq rfl) 27 100 rfl rfl (by decide) (by decide) 283 (hb hby at_280) rfl ?_
            clear X eT; clear T; intro v T h730 L2 Lc X eT hL hQ731
            obtain ⟨rfl, Nq, K732, G734⟩ := hQ731
            replace N : Fr n0 L2 := by rw [hL]; exact Fr.app N Nq
            clear Nq hL
            replace P0_Old := P0_Old.keep K732 (allS ge_qq all0)
            replace A4 := A4.keep K732
            replace G448 := G448.keep K732 (ninS ne_s0_qq nin0) (ninS ne_u0_qq nin0)
            replace G476 := G476.keep K732 (ninS ne_s1_qq nin0) (ninS ne_u1_qq nin0)
            replace G543 := G543.keep K732 (ninS ne_s2_qq nin0) (ninS ne_u2_qq nin0)
            replace G544 := G544.keep K732 (ninS ne_b2_qq nin0)
            replace G545 := G545.keep K732 (ninS ne_b2_qq nin0)
            replace G546 := G546.keep K732 (ninS ne_b2_qq nin0)
            replace G547 := G547.keep K732 (ninS ne_b2_qq nin0)
            replace G548 := G548.keep K732 (ninS ne_ss_8_qq nin0)
            replace G549 := G549.keep K732 (ninS ne_sl_9_qq nin0)
            replace hk := Nat.le_trans hk K732.1
            replace sz_h : h0.size ≤ h730.size := Nat.le_trans sz_h K732.1
            rw [show own_at (((own_r32.set q439.toNatClampNeg (1 : Int32)).set q467.toNatClampNeg (2 : Int32)).set q534.toNatClampNeg (3 : Int32)) q726 = (1 : Int32) from ha729]
            rw [show ((1 : Int32) - (1 : Int32)) = (0 : Int32) from by decide]
            show Go p e below _ T (mkF m 283 #[.val (.int p0), .val (.int p1), .val (.int p2), .val (.int p3), .val (.int p4), .val (.int p5), .val (.int (3 : Int32)), .val (.int sel), .val (.ref s0), .val (.ref s1), .val (.ref s2), .val (.ref qq), .val (.ref b2), .val (.int (1 : Int32)), .val (.int (2 : Int32)), .val (.int (2 : Int32)), .val (.int (0 : Int32))] [(.int (0 : Int32))])
            refine giload (v := (0 : Int32)) X hx 285 (hb hby at_283) rfl rfl ?_
            refine gicmpNo X hx 288 (hb hby at_285) rfl (by decide) ?_
            refine giconst X hx (1 : Int32) 289 (hb hby at_288) rfl rfl ?_
            refine ggoto X hx 293 (hb hby at_289) (by decide) (by decide) ?_
            exact gRetL X hx hlk hret rfl (Or.inl ⟨rfl, by simp, _, rfl⟩) (hb hby at_293) eT hS hk (by decide) (by decide) ⟨rfl, N⟩
          · rw [if_neg re725]
            refine gifYes X hx 227 (hb hby at_218) (by decide) (by decide) (by decide) ?_
            refine giload (v := (3 : Int32)) X hx 229 (hb hby at_227) rfl rfl ?_
            refine giconst X hx (2 : Int32) 230 (hb hby at_229) rfl rfl ?_
            refine gicmpNo X hx 233 (hb hby at_230) rfl (by decide) ?_
            refine gaload (v := (.ref qq)) X hx 235 (hb hby at_233) rfl rfl rfl ?_
            refine gaload (v := (.ref s1)) X hx 237 (hb hby at_235) rfl rfl rfl ?_
            refine gvirtual (y := own_mEq) (z := own_mEq) (a := qq) (argsL := [(.ref s1)]) (st := []) X hx hZ hown (own_w88 hw) (own_w80 hw) (notFace_of_selects (args := #[]) (mvT hZ (own_w82 hw))) (own_w82 hw) (own_w81 hw) (by decide) P4_Str.exa (payEq (W := 0) hZ hw P4_Str G476 (O2.ext P0_Old.2) P5 (by decide) (by decide)) eT (by rw [hml]; rfl) (lenOf own_pd12 rfl) rfl (Nat.le_of_eq rfl) 27 100 rfl rfl (by decide) (by decide) 240 (hb hby at_237) rfl ?_
            clear X eT; clear T; intro v T h735 L2 Lc X eT hL hQ736
            obtain ⟨rfl, rfl, hh⟩ := hQ736
            replace hh := hh.symm; subst hh
            replace N : Fr n0 L2 := by rw [hL]; exact Fr.app N (Fr.nil n0)
            clear hL
            show Go p e below _ T (mkF m 240 #[.val (.int p0), .val (.int p1), .val (.int p2), .val (.int p3), .val (.int p4), .val (.int p5), .val (.int (3 : Int32)), .val (.int sel), .val (.ref s0), .val (.ref s1), .val (.ref s2), .val (.ref qq), .val (.ref b2), .val (.int (1 : Int32)), .val (.int (2 : Int32)), .val (.int (2 : Int32)), .unset] [(.int (if aq_ = a1_ then 1 else 0))])
            rcases Decidable.em (aq_ = a1_) with re737 | re737
            · rw [if_pos re737]
              refine gifNo X hx 243 (hb hby at_240) rfl (by decide) ?_
              refine giload (v := (1 : Int32)) X hx 245 (hb hby at_243) rfl rfl ?_
              refine gistore X hx #[.val (.int p0), .val (.int p1), .val (.int p2), .val (.int p3), .val (.int p4), .val (.int p5), .val (.int (3 : Int32)), .val (.int sel), .val (.ref s0), .val (.ref s1), .val (.ref s2), .val (.ref qq), .val (.ref b2), .val (.int (1 : Int32)), .val (.int (2 : Int32)), .val (.int (2 : Int32)), .val (.int (1 : Int32))] 247 (hb hby at_245) rfl rfl ?_
              refine ggoto X hx 276 (hb hby at_247) (by decide) (by decide) ?_
              refine gaload (v := (.ref b2)) X hx 278 (hb hby at_276) rfl rfl rfl ?_
              refine gaload (v := (.ref qq)) X hx 280 (hb hby at_278) rfl rfl rfl ?_
              obtain ⟨q738, hp739, hR740, ha741⟩ := own_found (i := 1) (ds := ([a0_, a1_, a2_] : List (List Int32))) I550 (by simp)
              have ne_u0_qq : u0 ≠ qq := Str.ne2 G448 P4_Str.exa (own_w6 hw)
              have ne_u1_qq : u1 ≠ qq := Str.ne2 G476 P4_Str.exa (own_w6 hw)
              have ne_u2_qq : u2 ≠ qq := Str.ne2 G543 P4_Str.exa (own_w6 hw)
              refine gvirtual (y := own_mNo) (z := own_mNo) (a := b2) (argsL := [(.ref qq)]) (st := []) X hx hZ hown (own_w89 hw) (own_w90 hw) (notFace_of_selects (args := #[]) (mvT hZ (own_w92 hw))) (own_w92 hw) (own_w91 hw) (by decide) A4 (payP (W := 0) (rmNo3 l Z a0 hw (qq) (uq) (aq_) ((((own_r32.set q439.toNatClampNeg (1 : Int32)).set q467.toNatClampNeg (2 : Int32)).set q534.toNatClampNeg (3 : Int32))) (q738) (4) (b2) (ss_8) (sl_9) (ks_10) (ki_11) (G1) (s0) (s1) (s2) (u0) (u1) (u2) (a0_) (a1_) (a2_) h539 n0 (Nat.le_trans Z0 sz_h) ge_qq P0_Old A4 G544 G545 G546 G547 G548 G549 P4_Str P11_Fld P12_Fld G448 G476 G543 (O2) (P5) (I550) (by rw [re737]; exact hp739) (laq_) (ne_s0_qq) (ne_s1_qq) (ne_s2_qq) (ne_u0_qq) (ne_u1_qq) (ne_u2_qq) (hR740)) hZ (own_w93 hw) (own_w29 hw) (by decide) (by decide)) eT (by rw [hml]; rfl) (lenOf own_pd13 rfl) rfl (Nat.le_of_eq rfl) 27 100 rfl rfl (by decide) (by decide) 283 (hb hby at_280) rfl ?_
              clear X eT; clear T; intro v T h742 L2 Lc X eT hL hQ743
              obtain ⟨rfl, Nq, K744, G746⟩ := hQ743
              replace N : Fr n0 L2 := by rw [hL]; exact Fr.app N Nq
              clear Nq hL
              replace P0_Old := P0_Old.keep K744 (allS ge_qq all0)
              replace A4 := A4.keep K744
              replace G448 := G448.keep K744 (ninS ne_s0_qq nin0) (ninS ne_u0_qq nin0)
              replace G476 := G476.keep K744 (ninS ne_s1_qq nin0) (ninS ne_u1_qq nin0)
              replace G543 := G543.keep K744 (ninS ne_s2_qq nin0) (ninS ne_u2_qq nin0)
              replace G544 := G544.keep K744 (ninS ne_b2_qq nin0)
              replace G545 := G545.keep K744 (ninS ne_b2_qq nin0)
              replace G546 := G546.keep K744 (ninS ne_b2_qq nin0)
              replace G547 := G547.keep K744 (ninS ne_b2_qq nin0)
              replace G548 := G548.keep K744 (ninS ne_ss_8_qq nin0)
              replace G549 := G549.keep K744 (ninS ne_sl_9_qq nin0)
              replace hk := Nat.le_trans hk K744.1
              replace sz_h : h0.size ≤ h742.size := Nat.le_trans sz_h K744.1
              rw [show own_at (((own_r32.set q439.toNatClampNeg (1 : Int32)).set q467.toNatClampNeg (2 : Int32)).set q534.toNatClampNeg (3 : Int32)) q738 = (2 : Int32) from ha741]
              rw [show ((2 : Int32) - (1 : Int32)) = (1 : Int32) from by decide]
              show Go p e below _ T (mkF m 283 #[.val (.int p0), .val (.int p1), .val (.int p2), .val (.int p3), .val (.int p4), .val (.int p5), .val (.int (3 : Int32)), .val (.int sel), .val (.ref s0), .val (.ref s1), .val (.ref s2), .val (.ref qq), .val (.ref b2), .val (.int (1 : Int32)), .val (.int (2 : Int32)), .val (.int (2 : Int32)), .val (.int (1 : Int32))] [(.int (1 : Int32))])
              refine giload (v := (1 : Int32)) X hx 285 (hb hby at_283) rfl rfl ?_
              refine gicmpNo X hx 288 (hb hby at_285) rfl (by decide) ?_
              refine giconst X hx (1 : Int32) 289 (hb hby at_288) rfl rfl ?_
              refine ggoto X hx 293 (hb hby at_289) (by decide) (by decide) ?_
              exact gRetL X hx hlk hret rfl (Or.inl ⟨rfl, by simp, _, rfl⟩) (hb hby at_293) eT hS hk (by decide) (by decide) ⟨rfl, N⟩
            · rw [if_neg re737]
              refine gifYes X hx 250 (hb hby at_240) (by decide) (by decide) (by decide) ?_
              refine giload (v := (3 : Int32)) X hx 252 (hb hby at_250) rfl rfl ?_
              refine giconst X hx (3 : Int32) 253 (hb hby at_252) rfl rfl ?_
              refine gicmpNo X hx 256 (hb hby at_253) rfl (by decide) ?_
              refine gaload (v := (.ref qq)) X hx 258 (hb hby at_256) rfl rfl rfl ?_
              refine gaload (v := (.ref s2)) X hx 260 (hb hby at_258) rfl rfl rfl ?_
              refine gvirtual (y := own_mEq) (z := own_mEq) (a := qq) (argsL := [(.ref s2)]) (st := []) X hx hZ hown (own_w88 hw) (own_w80 hw) (notFace_of_selects (args := #[]) (mvT hZ (own_w82 hw))) (own_w82 hw) (own_w81 hw) (by decide) P4_Str.exa (payEq (W := 0) hZ hw P4_Str G543 (O2.ext P0_Old.2) P5 (by decide) (by decide)) eT (by rw [hml]; rfl) (lenOf own_pd12 rfl) rfl (Nat.le_of_eq rfl) 27 100 rfl rfl (by decide) (by decide) 263 (hb hby at_260) rfl ?_
              clear X eT; clear T; intro v T h747 L2 Lc X eT hL hQ748
              obtain ⟨rfl, rfl, hh⟩ := hQ748
              replace hh := hh.symm; subst hh
              replace N : Fr n0 L2 := by rw [hL]; exact Fr.app N (Fr.nil n0)
              clear hL
              show Go p e below _ T (mkF m 263 #[.val (.int p0), .val (.int p1), .val (.int p2), .val (.int p3), .val (.int p4), .val (.int p5), .val (.int (3 : Int32)), .val (.int sel), .val (.ref s0), .val (.ref s1), .val (.ref s2), .val (.ref qq), .val (.ref b2), .val (.int (1 : Int32)), .val (.int (2 : Int32)), .val (.int (2 : Int32)), .unset] [(.int (if aq_ = a2_ then 1 else 0))])
              rcases Decidable.em (aq_ = a2_) with re749 | re749
              · rw [if_pos re749]
                refine gifNo X hx 266 (hb hby at_263) rfl (by decide) ?_
                refine giload (v := (2 : Int32)) X hx 268 (hb hby at_266) rfl rfl ?_
                refine gistore X hx #[.val (.int p0), .val (.int p1), .val (.int p2), .val (.int p3), .val (.int p4), .val (.int p5), .val (.int (3 : Int32)), .val (.int sel), .val (.ref s0), .val (.ref s1), .val (.ref s2), .val (.ref qq), .val (.ref b2), .val (.int (1 : Int32)), .val (.int (2 : Int32)), .val (.int (2 : Int32)), .val (.int (2 : Int32))] 270 (hb hby at_268) rfl rfl ?_
                refine ggoto X hx 276 (hb hby at_270) (by decide) (by decide) ?_
                refine gaload (v := (.ref b2)) X hx 278 (hb hby at_276) rfl rfl rfl ?_
                refine gaload (v := (.ref qq)) X hx 280 (hb hby at_278) rfl rfl rfl ?_
                obtain ⟨q750, hp751, hR752, ha753⟩ := own_found (i := 2) (ds := ([a0_, a1_, a2_] : List (List Int32))) I550 (by simp)
                have ne_u0_qq : u0 ≠ qq := Str.ne2 G448 P4_Str.exa (own_w6 hw)
                have ne_u1_qq : u1 ≠ qq := Str.ne2 G476 P4_Str.exa (own_w6 hw)
                have ne_u2_qq : u2 ≠ qq := Str.ne2 G543 P4_Str.exa (own_w6 hw)
                refine gvirtual (y := own_mNo) (z := own_mNo) (a := b2) (argsL := [(.ref qq)]) (st := []) X hx hZ hown (own_w89 hw) (own_w90 hw) (notFace_of_selects (args := #[]) (mvT hZ (own_w92 hw))) (own_w92 hw) (own_w91 hw) (by decide) A4 (payP (W := 0) (rmNo3 l Z a0 hw (qq) (uq) (aq_) ((((own_r32.set q439.toNatClampNeg (1 : Int32)).set q467.toNatClampNeg (2 : Int32)).set q534.toNatClampNeg (3 : Int32))) (q750) (4) (b2) (ss_8) (sl_9) (ks_10) (ki_11) (G1) (s0) (s1) (s2) (u0) (u1) (u2) (a0_) (a1_) (a2_) h539 n0 (Nat.le_trans Z0 sz_h) ge_qq P0_Old A4 G544 G545 G546 G547 G548 G549 P4_Str P11_Fld P12_Fld G448 G476 G543 (O2) (P5) (I550) (by rw [re749]; exact hp751) (laq_) (ne_s0_qq) (ne_s1_qq) (ne_s2_qq) (ne_u0_qq) (ne_u1_qq) (ne_u2_qq) (hR752)) hZ (own_w93 hw) (own_w29 hw) (by decide) (by decide)) eT (by rw [hml]; rfl) (lenOf own_pd13 rfl) rfl (Nat.le_of_eq rfl) 27 100 rfl rfl (by decide) (by decide) 283 (hb hby at_280) rfl ?_
                clear X eT; clear T; intro v T h754 L2 Lc X eT hL hQ755
                obtain ⟨rfl, Nq, K756, G758⟩ := hQ755
                replace N : Fr n0 L2 := by rw [hL]; exact Fr.app N Nq
                clear Nq hL
                replace P0_Old := P0_Old.keep K756 (allS ge_qq all0)
                replace A4 := A4.keep K756
                replace G448 := G448.keep K756 (ninS ne_s0_qq nin0) (ninS ne_u0_qq nin0)
                replace G476 := G476.keep K756 (ninS ne_s1_qq nin0) (ninS ne_u1_qq nin0)
                replace G543 := G543.keep K756 (ninS ne_s2_qq nin0) (ninS ne_u2_qq nin0)
                replace G544 := G544.keep K756 (ninS ne_b2_qq nin0)
                replace G545 := G545.keep K756 (ninS ne_b2_qq nin0)
                replace G546 := G546.keep K756 (ninS ne_b2_qq nin0)
                replace G547 := G547.keep K756 (ninS ne_b2_qq nin0)
                replace G548 := G548.keep K756 (ninS ne_ss_8_qq nin0)
                replace G549 := G549.keep K756 (ninS ne_sl_9_qq nin0)
                replace hk := Nat.le_trans hk K756.1
                replace sz_h : h0.size ≤ h754.size := Nat.le_trans sz_h K756.1
                rw [show own_at (((own_r32.set q439.toNatClampNeg (1 : Int32)).set q467.toNatClampNeg (2 : Int32)).set q534.toNatClampNeg (3 : Int32)) q750 = (3 : Int32) from ha753]
                rw [show ((3 : Int32) - (1 : Int32)) = (2 : Int32) from by decide]
                show Go p e below _ T (mkF m 283 #[.val (.int p0), .val (.int p1), .val (.int p2), .val (.int p3), .val (.int p4), .val (.int p5), .val (.int (3 : Int32)), .val (.int sel), .val (.ref s0), .val (.ref s1), .val (.ref s2), .val (.ref qq), .val (.ref b2), .val (.int (1 : Int32)), .val (.int (2 : Int32)), .val (.int (2 : Int32)), .val (.int (2 : Int32))] [(.int (2 : Int32))])
                refine giload (v := (2 : Int32)) X hx 285 (hb hby at_283) rfl rfl ?_
                refine gicmpNo X hx 288 (hb hby at_285) rfl (by decide) ?_
                refine giconst X hx (1 : Int32) 289 (hb hby at_288) rfl rfl ?_
                refine ggoto X hx 293 (hb hby at_289) (by decide) (by decide) ?_
                exact gRetL X hx hlk hret rfl (Or.inl ⟨rfl, by simp, _, rfl⟩) (hb hby at_293) eT hS hk (by decide) (by decide) ⟨rfl, N⟩
              · rw [if_neg re749]
                refine gifYes X hx 273 (hb hby at_263) (by decide) (by decide) (by decide) ?_
                refine giconst X hx (-1 : Int32) 274 (hb hby at_273) rfl rfl ?_
                refine gistore X hx #[.val (.int p0), .val (.int p1), .val (.int p2), .val (.int p3), .val (.int p4), .val (.int p5), .val (.int (3 : Int32)), .val (.int sel), .val (.ref s0), .val (.ref s1), .val (.ref s2), .val (.ref qq), .val (.ref b2), .val (.int (1 : Int32)), .val (.int (2 : Int32)), .val (.int (2 : Int32)), .val (.int (-1 : Int32))] 276 (hb hby at_274) rfl rfl ?_
                refine gaload (v := (.ref b2)) X hx 278 (hb hby at_276) rfl rfl rfl ?_
                refine gaload (v := (.ref qq)) X hx 280 (hb hby at_278) rfl rfl rfl ?_
                obtain ⟨q759, hp760, hR761, ha762, -⟩ := own_miss (ds := ([a0_, a1_, a2_] : List (List Int32))) (cs := aq_) I550 (by simp [re725, re737, re749])
                have ne_u0_qq : u0 ≠ qq := Str.ne2 G448 P4_Str.exa (own_w6 hw)
                have ne_u1_qq : u1 ≠ qq := Str.ne2 G476 P4_Str.exa (own_w6 hw)
                have ne_u2_qq : u2 ≠ qq := Str.ne2 G543 P4_Str.exa (own_w6 hw)
                refine gvirtual (y := own_mNo) (z := own_mNo) (a := b2) (argsL := [(.ref qq)]) (st := []) X hx hZ hown (own_w89 hw) (own_w90 hw) (notFace_of_selects (args := #[]) (mvT hZ (own_w92 hw))) (own_w92 hw) (own_w91 hw) (by decide) A4 (payP (W := 0) (rmNo3 l Z a0 hw (qq) (uq) (aq_) ((((own_r32.set q439.toNatClampNeg (1 : Int32)).set q467.toNatClampNeg (2 : Int32)).set q534.toNatClampNeg (3 : Int32))) (q759) (4) (b2) (ss_8) (sl_9) (ks_10) (ki_11) (G1) (s0) (s1) (s2) (u0) (u1) (u2) (a0_) (a1_) (a2_) h539 n0 (Nat.le_trans Z0 sz_h) ge_qq P0_Old A4 G544 G545 G546 G547 G548 G549 P4_Str P11_Fld P12_Fld G448 G476 G543 (O2) (P5) (I550) (hp760) (laq_) (ne_s0_qq) (ne_s1_qq) (ne_s2_qq) (ne_u0_qq) (ne_u1_qq) (ne_u2_qq) (hR761)) hZ (own_w93 hw) (own_w29 hw) (by decide) (by decide)) eT (by rw [hml]; rfl) (lenOf own_pd13 rfl) rfl (Nat.le_of_eq rfl) 27 100 rfl rfl (by decide) (by decide) 283 (hb hby at_280) rfl ?_
                clear X eT; clear T; intro v T h763 L2 Lc X eT hL hQ764
                obtain ⟨rfl, Nq, K765, G767⟩ := hQ764
                replace N : Fr n0 L2 := by rw [hL]; exact Fr.app N Nq
                clear Nq hL
                replace P0_Old := P0_Old.keep K765 (allS ge_qq all0)
                replace A4 := A4.keep K765
                replace G448 := G448.keep K765 (ninS ne_s0_qq nin0) (ninS ne_u0_qq nin0)
                replace G476 := G476.keep K765 (ninS ne_s1_qq nin0) (ninS ne_u1_qq nin0)
                replace G543 := G543.keep K765 (ninS ne_s2_qq nin0) (ninS ne_u2_qq nin0)
                replace G544 := G544.keep K765 (ninS ne_b2_qq nin0)
                replace G545 := G545.keep K765 (ninS ne_b2_qq nin0)
                replace G546 := G546.keep K765 (ninS ne_b2_qq nin0)
                replace G547 := G547.keep K765 (ninS ne_b2_qq nin0)
                replace G548 := G548.keep K765 (ninS ne_ss_8_qq nin0)
                replace G549 := G549.keep K765 (ninS ne_sl_9_qq nin0)
                replace hk := Nat.le_trans hk K765.1
                replace sz_h : h0.size ≤ h763.size := Nat.le_trans sz_h K765.1
                rw [show own_at (((own_r32.set q439.toNatClampNeg (1 : Int32)).set q467.toNatClampNeg (2 : Int32)).set q534.toNatClampNeg (3 : Int32)) q759 = (0 : Int32) from ha762]
                rw [show ((0 : Int32) - (1 : Int32)) = (-1 : Int32) from by decide]
                show Go p e below _ T (mkF m 283 #[.val (.int p0), .val (.int p1), .val (.int p2), .val (.int p3), .val (.int p4), .val (.int p5), .val (.int (3 : Int32)), .val (.int sel), .val (.ref s0), .val (.ref s1), .val (.ref s2), .val (.ref qq), .val (.ref b2), .val (.int (1 : Int32)), .val (.int (2 : Int32)), .val (.int (2 : Int32)), .val (.int (-1 : Int32))] [(.int (-1 : Int32))])
                refine giload (v := (-1 : Int32)) X hx 285 (hb hby at_283) rfl rfl ?_
                refine gicmpNo X hx 288 (hb hby at_285) rfl (by decide) ?_
                refine giconst X hx (1 : Int32) 289 (hb hby at_288) rfl rfl ?_
                refine ggoto X hx 293 (hb hby at_289) (by decide) (by decide) ?_
                exact gRetL X hx hlk hret rfl (Or.inl ⟨rfl, by simp, _, rfl⟩) (hb hby at_293) eT hS hk (by decide) (by decide) ⟨rfl, N⟩
set_option maxRecDepth 65536 in
set_option maxHeartbeats 40000000 in
theorem rm0 (l : Launch) (Z : State) (a0 : Array Value) (hw : ∀ d ∈ tables_1, d.before a0 Z = true) (p0 : Int32) (p1 : Int32) (p2 : Int32) (p3 : Int32) (p4 : Int32) (p5 : Int32) (G1 : Int32) (h0 : Heap) (n0 : Nat) (Z0 : n0 ≤ h0.size) (P0_Old : Old Z n0 h0) (O2 : Sta Z Z.heap "java/lang/String" "COMPACT_STRINGS" "Z" (.int G1)) (P5 : ¬ G1 = (0 : Int32)) :
    CtL l x code maxLocals ret tables_1 room_1 Z own_EL #[(.int p0), (.int p1), (.int p2), (.int p3), (.int p4), (.int p5)] h0 (fun v h L => v = some (.int (1 : Int32)) ∧ Fr n0 L) := by
  refine CtL.walk (Ls := #[.val (.int p0), .val (.int p1), .val (.int p2), .val (.int p3), .val (.int p4), .val (.int p5), .unset, .unset, .unset, .unset, .unset, .unset, .unset, .unset, .unset, .unset, .unset]) (plainFor_of_name own_pn8) (fun m => by first | (simp [entryFrame, mkF, argsToLocals, Value.category, maxLocals]; done) | rfl) ?_
  intro p e s m below meth cc_ T vm k0 hx hby hml hown hnm hret hlk hZ X eT hS hk C
  have N := Fr.nil n0
  have sz_h : h0.size ≤ h0.size := Nat.le_refl _
  refine giload (v := p5) X hx 2 (hb hby at_0) rfl rfl ?_
  refine gldcI X hx hZ hown (own_w0 hw) 4 (hb hby at_2) rfl ?_
  refine giand X hx 5 (hb hby at_4) rfl ?_
  refine giconst X hx (4 : Int32) 6 (hb hby at_5) rfl rfl ?_
  refine girem X hx 7 (hb hby at_6) rfl (by decide) ?_
  refine gistore X hx #[.val (.int p0), .val (.int p1), .val (.int p2), .val (.int p3), .val (.int p4), .val (.int p5), .val (.int ((p5 &&& (2147483647 : Int32)) % (4 : Int32))), .unset, .unset, .unset, .unset, .unset, .unset, .unset, .unset, .unset, .unset] 9 (hb hby at_7) rfl rfl ?_
  refine giload (v := p4) X hx 11 (hb hby at_9) rfl rfl ?_
  refine giconst X hx (3 : Int32) 12 (hb hby at_11) rfl rfl ?_
  refine giand X hx 13 (hb hby at_12) rfl ?_
  refine gistore X hx #[.val (.int p0), .val (.int p1), .val (.int p2), .val (.int p3), .val (.int p4), .val (.int p5), .val (.int ((p5 &&& (2147483647 : Int32)) % (4 : Int32))), .val (.int (p4 &&& (3 : Int32))), .unset, .unset, .unset, .unset, .unset, .unset, .unset, .unset, .unset] 15 (hb hby at_13) rfl rfl ?_
  refine giloadN (v := p0) X hx 16 (hb hby at_15) rfl rfl ?_
  refine gstaticS (y := (⟨"tabulon/StringIndexNumberOfPinLaw", "str", "(I)Ljava/lang/String;"⟩ : MethodName)) (argsL := [(.int p0)]) (st := []) X hx hZ hown (own_w1 hw) (own_w2 hw) (own_w3 hw) (own_w4 hw) (by decide) hS hk (payS (W := 0) (rm1 l Z a0 hw (p0) _ h0 n0 (Nat.le_trans Z0 sz_h) P0_Old (O2) (P5)) hZ (own_w4 hw) (own_w3 hw) (by decide) (by decide) (own_EW hw) C.1 all0) eT (by rw [hml]; rfl) (lenOf own_pd15 rfl) rfl (Nat.le_of_eq rfl) 6 12 rfl rfl (by decide) (by decide) 19 (hb hby at_16) rfl ?_
  clear X eT hS hk hZ hown; clear T k0; intro v T h1 L2 Lc vm k0 X eT hL hS hk hZ hown CR6 hQ2
  obtain ⟨x_3, t_4, rfl, Nq, K5, zz_x_3, G7, G8, G9⟩ := hQ2
  replace N : Fr n0 L2 := by rw [hL]; exact Fr.app N Nq
  clear Nq hL
  have sz_x_3 : h0.size ≤ x_3 := Nat.le_trans sz_h zz_x_3
  have ge_x_3 : n0 ≤ x_3 := Nat.le_trans Z0 sz_x_3
  replace P0_Old := P0_Old.keep K5 all0
  replace C := C.trans CR6
  replace sz_h : h0.size ≤ h1.size := Nat.le_trans sz_h K5.1
  show Go p e below _ T (mkF m 19 #[.val (.int p0), .val (.int p1), .val (.int p2), .val (.int p3), .val (.int p4), .val (.int p5), .val (.int ((p5 &&& (2147483647 : Int32)) % (4 : Int32))), .val (.int (p4 &&& (3 : Int32))), .unset, .unset, .unset, .unset, .unset, .unset, .unset, .unset, .unset] [(.ref x_3)])
  refine gastore X hx #[.val (.int p0), .val (.int p1), .val (.int p2), .val (.int p3), .val (.int p4), .val (.int p5), .val (.int ((p5 &&& (2147483647 : Int32)) % (4 : Int32))), .val (.int (p4 &&& (3 : Int32))), .val (.ref x_3), .unset, .unset, .unset, .unset, .unset, .unset, .unset, .unset] 21 (hb hby at_19) rfl rfl rfl ?_
  refine giloadN (v := p1) X hx 22 (hb hby at_21) rfl rfl ?_
  refine gstaticS (y := (⟨"tabulon/StringIndexNumberOfPinLaw", "str", "(I)Ljava/lang/String;"⟩ : MethodName)) (argsL := [(.int p1)]) (st := []) X hx hZ hown (own_w1 hw) (own_w2 hw) (own_w3 hw) (own_w4 hw) (by decide) hS hk (payS (W := 0) (rm1 l Z a0 hw (p1) _ h1 n0 (Nat.le_trans Z0 sz_h) P0_Old (O2) (P5)) hZ (own_w4 hw) (own_w3 hw) (by decide) (by decide) (own_EW hw) C.1 all0) eT (by rw [hml]; rfl) (lenOf own_pd15 rfl) rfl (Nat.le_of_eq rfl) 12 24 rfl rfl (by decide) (by decide) 25 (hb hby at_22) rfl ?_
  clear X eT hS hk hZ hown; clear T k0; intro v T h10 L2 Lc vm k0 X eT hL hS hk hZ hown CR15 hQ11
  obtain ⟨x_12, t_13, rfl, Nq, K14, zz_x_12, G16, G17, G18⟩ := hQ11
  replace N : Fr n0 L2 := by rw [hL]; exact Fr.app N Nq
  clear Nq hL
  have ne_x_3_x_12 : x_3 ≠ x_12 := Nat.ne_of_lt (Nat.lt_of_lt_of_le G7.lt zz_x_12)
  have ne_x_12_x_3 : x_12 ≠ x_3 := Ne.symm ne_x_3_x_12
  have ne_t_4_x_12 : t_4 ≠ x_12 := Nat.ne_of_lt (Nat.lt_of_lt_of_le G7.lt2 zz_x_12)
  have ne_x_12_t_4 : x_12 ≠ t_4 := Ne.symm ne_t_4_x_12
  have sz_x_12 : h0.size ≤ x_12 := Nat.le_trans sz_h zz_x_12
  have ge_x_12 : n0 ≤ x_12 := Nat.le_trans Z0 sz_x_12
  replace P0_Old := P0_Old.keep K14 all0
  replace G7 := G7.keep K14 nin0 nin0
  replace G8 := G8.keep K14 nin0
  replace G9 := G9.keep K14 nin0
  replace C := C.trans CR15
  replace sz_h : h0.size ≤ h10.size := Nat.le_trans sz_h K14.1
  show Go p e below _ T (mkF m 25 #[.val (.int p0), .val (.int p1), .val (.int p2), .val (.int p3), .val (.int p4), .val (.int p5), .val (.int ((p5 &&& (2147483647 : Int32)) % (4 : Int32))), .val (.int (p4 &&& (3 : Int32))), .val (.ref x_3), .unset, .unset, .unset, .unset, .unset, .unset, .unset, .unset] [(.ref x_12)])
  refine gastore X hx #[.val (.int p0), .val (.int p1), .val (.int p2), .val (.int p3), .val (.int p4), .val (.int p5), .val (.int ((p5 &&& (2147483647 : Int32)) % (4 : Int32))), .val (.int (p4 &&& (3 : Int32))), .val (.ref x_3), .val (.ref x_12), .unset, .unset, .unset, .unset, .unset, .unset, .unset] 27 (hb hby at_25) rfl rfl rfl ?_
  refine giloadN (v := p2) X hx 28 (hb hby at_27) rfl rfl ?_
  refine gstaticS (y := (⟨"tabulon/StringIndexNumberOfPinLaw", "str", "(I)Ljava/lang/String;"⟩ : MethodName)) (argsL := [(.int p2)]) (st := []) X hx hZ hown (own_w1 hw) (own_w2 hw) (own_w3 hw) (own_w4 hw) (by decide) hS hk (payS (W := 0) (rm1 l Z a0 hw (p2) _ h10 n0 (Nat.le_trans Z0 sz_h) P0_Old (O2) (P5)) hZ (own_w4 hw) (own_w3 hw) (by decide) (by decide) (own_EW hw) C.1 all0) eT (by rw [hml]; rfl) (lenOf own_pd15 rfl) rfl (Nat.le_of_eq rfl) 18 36 rfl rfl (by decide) (by decide) 31 (hb hby at_28) rfl ?_
  clear X eT hS hk hZ hown; clear T k0; intro v T h19 L2 Lc vm k0 X eT hL hS hk hZ hown CR24 hQ20
  obtain ⟨x_21, t_22, rfl, Nq, K23, zz_x_21, G25, G26, G27⟩ := hQ20
  replace N : Fr n0 L2 := by rw [hL]; exact Fr.app N Nq
  clear Nq hL
  have ne_x_3_x_21 : x_3 ≠ x_21 := Nat.ne_of_lt (Nat.lt_of_lt_of_le G7.lt zz_x_21)
  have ne_x_21_x_3 : x_21 ≠ x_3 := Ne.symm ne_x_3_x_21
  have ne_x_12_x_21 : x_12 ≠ x_21 := Nat.ne_of_lt (Nat.lt_of_lt_of_le G16.lt zz_x_21)
  have ne_x_21_x_12 : x_21 ≠ x_12 := Ne.symm ne_x_12_x_21
  have ne_t_4_x_21 : t_4 ≠ x_21 := Nat.ne_of_lt (Nat.lt_of_lt_of_le G7.lt2 zz_x_21)
  have ne_x_21_t_4 : x_21 ≠ t_4 := Ne.symm ne_t_4_x_21
  have ne_t_13_x_21 : t_13 ≠ x_21 := Nat.ne_of_lt (Nat.lt_of_lt_of_le G16.lt2 zz_x_21)
  have ne_x_21_t_13 : x_21 ≠ t_13 := Ne.symm ne_t_13_x_21
  have sz_x_21 : h0.size ≤ x_21 := Nat.le_trans sz_h zz_x_21
  have ge_x_21 : n0 ≤ x_21 := Nat.le_trans Z0 sz_x_21
  replace P0_Old := P0_Old.keep K23 all0
  replace G7 := G7.keep K23 nin0 nin0
  replace G8 := G8.keep K23 nin0
  replace G9 := G9.keep K23 nin0
  replace G16 := G16.keep K23 nin0 nin0
  replace G17 := G17.keep K23 nin0
  replace G18 := G18.keep K23 nin0
  replace C := C.trans CR24
  replace sz_h : h0.size ≤ h19.size := Nat.le_trans sz_h K23.1
  show Go p e below _ T (mkF m 31 #[.val (.int p0), .val (.int p1), .val (.int p2), .val (.int p3), .val (.int p4), .val (.int p5), .val (.int ((p5 &&& (2147483647 : Int32)) % (4 : Int32))), .val (.int (p4 &&& (3 : Int32))), .val (.ref x_3), .val (.ref x_12), .unset, .unset, .unset, .unset, .unset, .unset, .unset] [(.ref x_21)])
  refine gastore X hx #[.val (.int p0), .val (.int p1), .val (.int p2), .val (.int p3), .val (.int p4), .val (.int p5), .val (.int ((p5 &&& (2147483647 : Int32)) % (4 : Int32))), .val (.int (p4 &&& (3 : Int32))), .val (.ref x_3), .val (.ref x_12), .val (.ref x_21), .unset, .unset, .unset, .unset, .unset, .unset] 33 (hb hby at_31) rfl rfl rfl ?_
  refine giload (v := (p4 &&& (3 : Int32))) X hx 35 (hb hby at_33) rfl rfl ?_
  rcases Decidable.em ((p4 &&& (3 : Int32)) = (0 : Int32)) with sl35 | sl35
  · refine gifNo X hx 38 (hb hby at_35) rfl ((if0 _ _).trans (teq sl35).2) ?_
    refine giloadN (v := p0) X hx 39 (hb hby at_38) rfl rfl ?_
    refine gstaticS (y := (⟨"tabulon/StringIndexNumberOfPinLaw", "str", "(I)Ljava/lang/String;"⟩ : MethodName)) (argsL := [(.int p0)]) (st := []) X hx hZ hown (own_w1 hw) (own_w2 hw) (own_w3 hw) (own_w4 hw) (by decide) hS hk (payS (W := 0) (rm1 l Z a0 hw (p0) _ h19 n0 (Nat.le_trans Z0 sz_h) P0_Old (O2) (P5)) hZ (own_w4 hw) (own_w3 hw) (by decide) (by decide) (own_EW hw) C.1 all0) eT (by rw [hml]; rfl) (lenOf own_pd15 rfl) rfl (Nat.le_of_eq rfl) 24 48 rfl rfl (by decide) (by decide) 42 (hb hby at_39) rfl ?_
    clear X eT hS hk hZ hown; clear T k0; intro v T h28 L2 Lc vm k0 X eT hL hS hk hZ hown CR33 hQ29
    obtain ⟨x_30, t_31, rfl, Nq, K32, zz_x_30, G34, G35, G36⟩ := hQ29
    replace N : Fr n0 L2 := by rw [hL]; exact Fr.app N Nq
    clear Nq hL
    have ne_x_3_x_30 : x_3 ≠ x_30 := Nat.ne_of_lt (Nat.lt_of_lt_of_le G7.lt zz_x_30)
    have ne_x_30_x_3 : x_30 ≠ x_3 := Ne.symm ne_x_3_x_30
    have ne_x_12_x_30 : x_12 ≠ x_30 := Nat.ne_of_lt (Nat.lt_of_lt_of_le G16.lt zz_x_30)
    have ne_x_30_x_12 : x_30 ≠ x_12 := Ne.symm ne_x_12_x_30
    have ne_x_21_x_30 : x_21 ≠ x_30 := Nat.ne_of_lt (Nat.lt_of_lt_of_le G25.lt zz_x_30)
    have ne_x_30_x_21 : x_30 ≠ x_21 := Ne.symm ne_x_21_x_30
    have ne_t_4_x_30 : t_4 ≠ x_30 := Nat.ne_of_lt (Nat.lt_of_lt_of_le G7.lt2 zz_x_30)
    have ne_x_30_t_4 : x_30 ≠ t_4 := Ne.symm ne_t_4_x_30
    have ne_t_13_x_30 : t_13 ≠ x_30 := Nat.ne_of_lt (Nat.lt_of_lt_of_le G16.lt2 zz_x_30)
    have ne_x_30_t_13 : x_30 ≠ t_13 := Ne.symm ne_t_13_x_30
    have ne_t_22_x_30 : t_22 ≠ x_30 := Nat.ne_of_lt (Nat.lt_of_lt_of_le G25.lt2 zz_x_30)
    have ne_x_30_t_22 : x_30 ≠ t_22 := Ne.symm ne_t_22_x_30
    have sz_x_30 : h0.size ≤ x_30 := Nat.le_trans sz_h zz_x_30
    have ge_x_30 : n0 ≤ x_30 := Nat.le_trans Z0 sz_x_30
    replace P0_Old := P0_Old.keep K32 all0
    replace G7 := G7.keep K32 nin0 nin0
    replace G8 := G8.keep K32 nin0
    replace G9 := G9.keep K32 nin0
    replace G16 := G16.keep K32 nin0 nin0
    replace G17 := G17.keep K32 nin0
    replace G18 := G18.keep K32 nin0
    replace G25 := G25.keep K32 nin0 nin0
    replace G26 := G26.keep K32 nin0
    replace G27 := G27.keep K32 nin0
    replace C := C.trans CR33
    replace sz_h : h0.size ≤ h28.size := Nat.le_trans sz_h K32.1
    show Go p e below _ T (mkF m 42 #[.val (.int p0), .val (.int p1), .val (.int p2), .val (.int p3), .val (.int p4), .val (.int p5), .val (.int ((p5 &&& (2147483647 : Int32)) % (4 : Int32))), .val (.int (p4 &&& (3 : Int32))), .val (.ref x_3), .val (.ref x_12), .val (.ref x_21), .unset, .unset, .unset, .unset, .unset, .unset] [(.ref x_30)])
    refine gastore X hx #[.val (.int p0), .val (.int p1), .val (.int p2), .val (.int p3), .val (.int p4), .val (.int p5), .val (.int ((p5 &&& (2147483647 : Int32)) % (4 : Int32))), .val (.int (p4 &&& (3 : Int32))), .val (.ref x_3), .val (.ref x_12), .val (.ref x_21), .val (.ref x_30), .unset, .unset, .unset, .unset, .unset] 44 (hb hby at_42) rfl rfl rfl ?_
    refine ggoto X hx 83 (hb hby at_44) (by decide) (by decide) ?_
    exact partB l Z a0 hw p0 p1 p2 p3 p4 p5 ((p5 &&& (2147483647 : Int32)) % (4 : Int32)) (p4 &&& (3 : Int32)) G1 x_3 x_12 x_21 x_30 t_4 t_13 t_22 t_31 (own_txt p0) (own_txt p1) (own_txt p2) (own_txt p0) h28 n0 (Nat.le_trans Z0 sz_h) ge_x_3 ge_x_12 ge_x_21 ge_x_30 P0_Old G7 G16 G25 G34 G8 G9 G17 G18 G26 G27 G35 G36 O2 P5 (own_mod4 p5) (own_txl _) (own_txl _) (own_txl _) (own_txl _) ne_x_12_x_3 ne_x_21_x_3 ne_x_21_x_12 ne_x_30_x_3 ne_x_30_x_12 ne_x_30_x_21 hx hby hml hown hret hlk hZ X eT hS hk N
  · refine gifYes X hx 47 (hb hby at_35) ((if0 _ _).trans (feq sl35).2) (by decide) (by decide) ?_
    refine giload (v := (p4 &&& (3 : Int32))) X hx 49 (hb hby at_47) rfl rfl ?_
    refine giconst X hx (1 : Int32) 50 (hb hby at_49) rfl rfl ?_
    rcases Decidable.em ((p4 &&& (3 : Int32)) = (1 : Int32)) with sl50 | sl50
    · refine gicmpNo X hx 53 (hb hby at_50) rfl (teq sl50).2 ?_
      refine giloadN (v := p1) X hx 54 (hb hby at_53) rfl rfl ?_
      refine gstaticS (y := (⟨"tabulon/StringIndexNumberOfPinLaw", "str", "(I)Ljava/lang/String;"⟩ : MethodName)) (argsL := [(.int p1)]) (st := []) X hx hZ hown (own_w1 hw) (own_w2 hw) (own_w3 hw) (own_w4 hw) (by decide) hS hk (payS (W := 0) (rm1 l Z a0 hw (p1) _ h19 n0 (Nat.le_trans Z0 sz_h) P0_Old (O2) (P5)) hZ (own_w4 hw) (own_w3 hw) (by decide) (by decide) (own_EW hw) C.1 all0) eT (by rw [hml]; rfl) (lenOf own_pd15 rfl) rfl (Nat.le_of_eq rfl) 24 48 rfl rfl (by decide) (by decide) 57 (hb hby at_54) rfl ?_
      clear X eT hS hk hZ hown; clear T k0; intro v T h37 L2 Lc vm k0 X eT hL hS hk hZ hown CR42 hQ38
      obtain ⟨x_39, t_40, rfl, Nq, K41, zz_x_39, G43, G44, G45⟩ := hQ38
      replace N : Fr n0 L2 := by rw [hL]; exact Fr.app N Nq
      clear Nq hL
      have ne_x_3_x_39 : x_3 ≠ x_39 := Nat.ne_of_lt (Nat.lt_of_lt_of_le G7.lt zz_x_39)
      have ne_x_39_x_3 : x_39 ≠ x_3 := Ne.symm ne_x_3_x_39
      have ne_x_12_x_39 : x_12 ≠ x_39 := Nat.ne_of_lt (Nat.lt_of_lt_of_le G16.lt zz_x_39)
      have ne_x_39_x_12 : x_39 ≠ x_12 := Ne.symm ne_x_12_x_39
      have ne_x_21_x_39 : x_21 ≠ x_39 := Nat.ne_of_lt (Nat.lt_of_lt_of_le G25.lt zz_x_39)
      have ne_x_39_x_21 : x_39 ≠ x_21 := Ne.symm ne_x_21_x_39
      have ne_t_4_x_39 : t_4 ≠ x_39 := Nat.ne_of_lt (Nat.lt_of_lt_of_le G7.lt2 zz_x_39)
      have ne_x_39_t_4 : x_39 ≠ t_4 := Ne.symm ne_t_4_x_39
      have ne_t_13_x_39 : t_13 ≠ x_39 := Nat.ne_of_lt (Nat.lt_of_lt_of_le G16.lt2 zz_x_39)
      have ne_x_39_t_13 : x_39 ≠ t_13 := Ne.symm ne_t_13_x_39
      have ne_t_22_x_39 : t_22 ≠ x_39 := Nat.ne_of_lt (Nat.lt_of_lt_of_le G25.lt2 zz_x_39)
      have ne_x_39_t_22 : x_39 ≠ t_22 := Ne.symm ne_t_22_x_39
      have sz_x_39 : h0.size ≤ x_39 := Nat.le_trans sz_h zz_x_39
      have ge_x_39 : n0 ≤ x_39 := Nat.le_trans Z0 sz_x_39
      replace P0_Old := P0_Old.keep K41 all0
      replace G7 := G7.keep K41 nin0 nin0
      replace G8 := G8.keep K41 nin0
      replace G9 := G9.keep K41 nin0
      replace G16 := G16.keep K41 nin0 nin0
      replace G17 := G17.keep K41 nin0
      replace G18 := G18.keep K41 nin0
      replace G25 := G25.keep K41 nin0 nin0
      replace G26 := G26.keep K41 nin0
      replace G27 := G27.keep K41 nin0
      replace C := C.trans CR42
      replace sz_h : h0.size ≤ h37.size := Nat.le_trans sz_h K41.1
      show Go p e below _ T (mkF m 57 #[.val (.int p0), .val (.int p1), .val (.int p2), .val (.int p3), .val (.int p4), .val (.int p5), .val (.int ((p5 &&& (2147483647 : Int32)) % (4 : Int32))), .val (.int (p4 &&& (3 : Int32))), .val (.ref x_3), .val (.ref x_12), .val (.ref x_21), .unset, .unset, .unset, .unset, .unset, .unset] [(.ref x_39)])
      refine gastore X hx #[.val (.int p0), .val (.int p1), .val (.int p2), .val (.int p3), .val (.int p4), .val (.int p5), .val (.int ((p5 &&& (2147483647 : Int32)) % (4 : Int32))), .val (.int (p4 &&& (3 : Int32))), .val (.ref x_3), .val (.ref x_12), .val (.ref x_21), .val (.ref x_39), .unset, .unset, .unset, .unset, .unset] 59 (hb hby at_57) rfl rfl rfl ?_
      refine ggoto X hx 83 (hb hby at_59) (by decide) (by decide) ?_
      exact partB l Z a0 hw p0 p1 p2 p3 p4 p5 ((p5 &&& (2147483647 : Int32)) % (4 : Int32)) (p4 &&& (3 : Int32)) G1 x_3 x_12 x_21 x_39 t_4 t_13 t_22 t_40 (own_txt p0) (own_txt p1) (own_txt p2) (own_txt p1) h37 n0 (Nat.le_trans Z0 sz_h) ge_x_3 ge_x_12 ge_x_21 ge_x_39 P0_Old G7 G16 G25 G43 G8 G9 G17 G18 G26 G27 G44 G45 O2 P5 (own_mod4 p5) (own_txl _) (own_txl _) (own_txl _) (own_txl _) ne_x_12_x_3 ne_x_21_x_3 ne_x_21_x_12 ne_x_39_x_3 ne_x_39_x_12 ne_x_39_x_21 hx hby hml hown hret hlk hZ X eT hS hk N
    · refine gicmpYes X hx 62 (hb hby at_50) (feq sl50).2 (by decide) (by decide) ?_
      refine giload (v := (p4 &&& (3 : Int32))) X hx 64 (hb hby at_62) rfl rfl ?_
      refine giconst X hx (2 : Int32) 65 (hb hby at_64) rfl rfl ?_
      rcases Decidable.em ((p4 &&& (3 : Int32)) = (2 : Int32)) with sl65 | sl65
      · refine gicmpNo X hx 68 (hb hby at_65) rfl (teq sl65).2 ?_
        refine giloadN (v := p2) X hx 69 (hb hby at_68) rfl rfl ?_
        refine gstaticS (y := (⟨"tabulon/StringIndexNumberOfPinLaw", "str", "(I)Ljava/lang/String;"⟩ : MethodName)) (argsL := [(.int p2)]) (st := []) X hx hZ hown (own_w1 hw) (own_w2 hw) (own_w3 hw) (own_w4 hw) (by decide) hS hk (payS (W := 0) (rm1 l Z a0 hw (p2) _ h19 n0 (Nat.le_trans Z0 sz_h) P0_Old (O2) (P5)) hZ (own_w4 hw) (own_w3 hw) (by decide) (by decide) (own_EW hw) C.1 all0) eT (by rw [hml]; rfl) (lenOf own_pd15 rfl) rfl (Nat.le_of_eq rfl) 24 48 rfl rfl (by decide) (by decide) 72 (hb hby at_69) rfl ?_
        clear X eT hS hk hZ hown; clear T k0; intro v T h46 L2 Lc vm k0 X eT hL hS hk hZ hown CR51 hQ47
        obtain ⟨x_48, t_49, rfl, Nq, K50, zz_x_48, G52, G53, G54⟩ := hQ47
        replace N : Fr n0 L2 := by rw [hL]; exact Fr.app N Nq
        clear Nq hL
        have ne_x_3_x_48 : x_3 ≠ x_48 := Nat.ne_of_lt (Nat.lt_of_lt_of_le G7.lt zz_x_48)
        have ne_x_48_x_3 : x_48 ≠ x_3 := Ne.symm ne_x_3_x_48
        have ne_x_12_x_48 : x_12 ≠ x_48 := Nat.ne_of_lt (Nat.lt_of_lt_of_le G16.lt zz_x_48)
        have ne_x_48_x_12 : x_48 ≠ x_12 := Ne.symm ne_x_12_x_48
        have ne_x_21_x_48 : x_21 ≠ x_48 := Nat.ne_of_lt (Nat.lt_of_lt_of_le G25.lt zz_x_48)
        have ne_x_48_x_21 : x_48 ≠ x_21 := Ne.symm ne_x_21_x_48
        have ne_t_4_x_48 : t_4 ≠ x_48 := Nat.ne_of_lt (Nat.lt_of_lt_of_le G7.lt2 zz_x_48)
        have ne_x_48_t_4 : x_48 ≠ t_4 := Ne.symm ne_t_4_x_48
        have ne_t_13_x_48 : t_13 ≠ x_48 := Nat.ne_of_lt (Nat.lt_of_lt_of_le G16.lt2 zz_x_48)
        have ne_x_48_t_13 : x_48 ≠ t_13 := Ne.symm ne_t_13_x_48
        have ne_t_22_x_48 : t_22 ≠ x_48 := Nat.ne_of_lt (Nat.lt_of_lt_of_le G25.lt2 zz_x_48)
        have ne_x_48_t_22 : x_48 ≠ t_22 := Ne.symm ne_t_22_x_48
        have sz_x_48 : h0.size ≤ x_48 := Nat.le_trans sz_h zz_x_48
        have ge_x_48 : n0 ≤ x_48 := Nat.le_trans Z0 sz_x_48
        replace P0_Old := P0_Old.keep K50 all0
        replace G7 := G7.keep K50 nin0 nin0
        replace G8 := G8.keep K50 nin0
        replace G9 := G9.keep K50 nin0
        replace G16 := G16.keep K50 nin0 nin0
        replace G17 := G17.keep K50 nin0
        replace G18 := G18.keep K50 nin0
        replace G25 := G25.keep K50 nin0 nin0
        replace G26 := G26.keep K50 nin0
        replace G27 := G27.keep K50 nin0
        replace C := C.trans CR51
        replace sz_h : h0.size ≤ h46.size := Nat.le_trans sz_h K50.1
        show Go p e below _ T (mkF m 72 #[.val (.int p0), .val (.int p1), .val (.int p2), .val (.int p3), .val (.int p4), .val (.int p5), .val (.int ((p5 &&& (2147483647 : Int32)) % (4 : Int32))), .val (.int (p4 &&& (3 : Int32))), .val (.ref x_3), .val (.ref x_12), .val (.ref x_21), .unset, .unset, .unset, .unset, .unset, .unset] [(.ref x_48)])
        refine gastore X hx #[.val (.int p0), .val (.int p1), .val (.int p2), .val (.int p3), .val (.int p4), .val (.int p5), .val (.int ((p5 &&& (2147483647 : Int32)) % (4 : Int32))), .val (.int (p4 &&& (3 : Int32))), .val (.ref x_3), .val (.ref x_12), .val (.ref x_21), .val (.ref x_48), .unset, .unset, .unset, .unset, .unset] 74 (hb hby at_72) rfl rfl rfl ?_
        refine ggoto X hx 83 (hb hby at_74) (by decide) (by decide) ?_
        exact partB l Z a0 hw p0 p1 p2 p3 p4 p5 ((p5 &&& (2147483647 : Int32)) % (4 : Int32)) (p4 &&& (3 : Int32)) G1 x_3 x_12 x_21 x_48 t_4 t_13 t_22 t_49 (own_txt p0) (own_txt p1) (own_txt p2) (own_txt p2) h46 n0 (Nat.le_trans Z0 sz_h) ge_x_3 ge_x_12 ge_x_21 ge_x_48 P0_Old G7 G16 G25 G52 G8 G9 G17 G18 G26 G27 G53 G54 O2 P5 (own_mod4 p5) (own_txl _) (own_txl _) (own_txl _) (own_txl _) ne_x_12_x_3 ne_x_21_x_3 ne_x_21_x_12 ne_x_48_x_3 ne_x_48_x_12 ne_x_48_x_21 hx hby hml hown hret hlk hZ X eT hS hk N
      · refine gicmpYes X hx 77 (hb hby at_65) (feq sl65).2 (by decide) (by decide) ?_
        refine giloadN (v := p3) X hx 78 (hb hby at_77) rfl rfl ?_
        refine gstaticS (y := (⟨"tabulon/StringIndexNumberOfPinLaw", "str", "(I)Ljava/lang/String;"⟩ : MethodName)) (argsL := [(.int p3)]) (st := []) X hx hZ hown (own_w1 hw) (own_w2 hw) (own_w3 hw) (own_w4 hw) (by decide) hS hk (payS (W := 0) (rm1 l Z a0 hw (p3) _ h19 n0 (Nat.le_trans Z0 sz_h) P0_Old (O2) (P5)) hZ (own_w4 hw) (own_w3 hw) (by decide) (by decide) (own_EW hw) C.1 all0) eT (by rw [hml]; rfl) (lenOf own_pd15 rfl) rfl (Nat.le_of_eq rfl) 24 48 rfl rfl (by decide) (by decide) 81 (hb hby at_78) rfl ?_
        clear X eT hS hk hZ hown; clear T k0; intro v T h55 L2 Lc vm k0 X eT hL hS hk hZ hown CR60 hQ56
        obtain ⟨x_57, t_58, rfl, Nq, K59, zz_x_57, G61, G62, G63⟩ := hQ56
        replace N : Fr n0 L2 := by rw [hL]; exact Fr.app N Nq
        clear Nq hL
        have ne_x_3_x_57 : x_3 ≠ x_57 := Nat.ne_of_lt (Nat.lt_of_lt_of_le G7.lt zz_x_57)
        have ne_x_57_x_3 : x_57 ≠ x_3 := Ne.symm ne_x_3_x_57
        have ne_x_12_x_57 : x_12 ≠ x_57 := Nat.ne_of_lt (Nat.lt_of_lt_of_le G16.lt zz_x_57)
        have ne_x_57_x_12 : x_57 ≠ x_12 := Ne.symm ne_x_12_x_57
        have ne_x_21_x_57 : x_21 ≠ x_57 := Nat.ne_of_lt (Nat.lt_of_lt_of_le G25.lt zz_x_57)
        have ne_x_57_x_21 : x_57 ≠ x_21 := Ne.symm ne_x_21_x_57
        have ne_t_4_x_57 : t_4 ≠ x_57 := Nat.ne_of_lt (Nat.lt_of_lt_of_le G7.lt2 zz_x_57)
        have ne_x_57_t_4 : x_57 ≠ t_4 := Ne.symm ne_t_4_x_57
        have ne_t_13_x_57 : t_13 ≠ x_57 := Nat.ne_of_lt (Nat.lt_of_lt_of_le G16.lt2 zz_x_57)
        have ne_x_57_t_13 : x_57 ≠ t_13 := Ne.symm ne_t_13_x_57
        have ne_t_22_x_57 : t_22 ≠ x_57 := Nat.ne_of_lt (Nat.lt_of_lt_of_le G25.lt2 zz_x_57)
        have ne_x_57_t_22 : x_57 ≠ t_22 := Ne.symm ne_t_22_x_57
        have sz_x_57 : h0.size ≤ x_57 := Nat.le_trans sz_h zz_x_57
        have ge_x_57 : n0 ≤ x_57 := Nat.le_trans Z0 sz_x_57
        replace P0_Old := P0_Old.keep K59 all0
        replace G7 := G7.keep K59 nin0 nin0
        replace G8 := G8.keep K59 nin0
        replace G9 := G9.keep K59 nin0
        replace G16 := G16.keep K59 nin0 nin0
        replace G17 := G17.keep K59 nin0
        replace G18 := G18.keep K59 nin0
        replace G25 := G25.keep K59 nin0 nin0
        replace G26 := G26.keep K59 nin0
        replace G27 := G27.keep K59 nin0
        replace C := C.trans CR60
        replace sz_h : h0.size ≤ h55.size := Nat.le_trans sz_h K59.1
        show Go p e below _ T (mkF m 81 #[.val (.int p0), .val (.int p1), .val (.int p2), .val (.int p3), .val (.int p4), .val (.int p5), .val (.int ((p5 &&& (2147483647 : Int32)) % (4 : Int32))), .val (.int (p4 &&& (3 : Int32))), .val (.ref x_3), .val (.ref x_12), .val (.ref x_21), .unset, .unset, .unset, .unset, .unset, .unset] [(.ref x_57)])
        refine gastore X hx #[.val (.int p0), .val (.int p1), .val (.int p2), .val (.int p3), .val (.int p4), .val (.int p5), .val (.int ((p5 &&& (2147483647 : Int32)) % (4 : Int32))), .val (.int (p4 &&& (3 : Int32))), .val (.ref x_3), .val (.ref x_12), .val (.ref x_21), .val (.ref x_57), .unset, .unset, .unset, .unset, .unset] 83 (hb hby at_81) rfl rfl rfl ?_
        exact partB l Z a0 hw p0 p1 p2 p3 p4 p5 ((p5 &&& (2147483647 : Int32)) % (4 : Int32)) (p4 &&& (3 : Int32)) G1 x_3 x_12 x_21 x_57 t_4 t_13 t_22 t_58 (own_txt p0) (own_txt p1) (own_txt p2) (own_txt p3) h55 n0 (Nat.le_trans Z0 sz_h) ge_x_3 ge_x_12 ge_x_21 ge_x_57 P0_Old G7 G16 G25 G61 G8 G9 G17 G18 G26 G27 G62 G63 O2 P5 (own_mod4 p5) (own_txl _) (own_txl _) (own_txl _) (own_txl _) ne_x_12_x_3 ne_x_21_x_3 ne_x_21_x_12 ne_x_57_x_3 ne_x_57_x_12 ne_x_57_x_21 hx hby hml hown hret hlk hZ X eT hS hk N
set_option maxRecDepth 65536 in
set_option maxHeartbeats 40000000 in
theorem comes_1 {Post : Tables → Env → Array Value → State → Outcome → State → Prop} (hpost : ∀ tb e args s v u, (limb_1_1.after args s (.returned v) u = true ∧ limb_1_2.after args s (.returned v) u = true ∧ True) → FramedW s (.returned v) u (Jvm.fieldLocs frame_1_writes args s ++ Jvm.arrayLocs frame_1_arrays args s ++ Jvm.staticLocs frame_1_statics s) 40 1280 → Post tb e args s (.returned v) u) :
    ArmFor flags0 classFile x code maxLocals ret World_1 tables_1 room_1 Calls_1 rest_1 Pre_1 Post := by
  intro l hfl _ _ p e ha hc hk s m args below hf hA hF happ hP
  obtain ⟨hcalls, hrest, hpre⟩ := hP
  obtain ⟨-, -, -, hnamed, -, -, -, hat⟩ := (Spec.applies_iff hf).mp happ
  obtain ⟨hg, hn⟩ := and_e (Cond.before_iff.mp (show (Jvm.Cond.and given_1 narrow_1).before args s = true from hpre))
  obtain ⟨h1, g0⟩ := and_e hg
  obtain ⟨k0, g1⟩ := and_e g0
  obtain ⟨k1, g2⟩ := and_e g1
  obtain ⟨k2, g3⟩ := and_e g2
  obtain ⟨k3, g4⟩ := and_e g3
  obtain ⟨k4, g5⟩ := and_e g4
  obtain ⟨w0, w1, w2, w3, w4, w5, rfl⟩ : ∃ w0 w1 w2 w3 w4 w5 : Value, args = #[w0, w1, w2, w3, w4, w5] := by
    have hs : args.size = 6 := by simpa [Cond.value, given_1] using h1
    obtain ⟨L⟩ := args
    match L, hs with
    | [w0, w1, w2, w3, w4, w5], _ => exact ⟨w0, w1, w2, w3, w4, w5, rfl⟩
  have hw := fun d (hd : d ∈ tables_1) => atoms_spec (ws := Jvm.Cond.code x code maxLocals ret :: tables_1) hat d (List.mem_cons_of_mem _ hd)
  obtain ⟨hsets, hown0⟩ := atoms_of _ (rest_1_c_eq ▸ (show rest_1_c.before _ s = true from hrest))
  obtain ⟨i0, e0⟩ := is_v k0
  obtain rfl : w0 = (.int i0) := Option.some.inj e0
  obtain ⟨i1, e1⟩ := is_v k1
  obtain rfl : w1 = (.int i1) := Option.some.inj e1
  obtain ⟨i2, e2⟩ := is_v k2
  obtain rfl : w2 = (.int i2) := Option.some.inj e2
  obtain ⟨i3, e3⟩ := is_v k3
  obtain rfl : w3 = (.int i3) := Option.some.inj e3
  obtain ⟨i4, e4⟩ := is_v k4
  obtain rfl : w4 = (.int i4) := Option.some.inj e4
  obtain ⟨i5, e5⟩ := is_v g5
  obtain rfl : w5 = (.int i5) := Option.some.inj e5
  have n3 := not_v (Cond.before_iff.mp (hsets _ (List.mem_of_getElem? (i := 2) rfl)))
  obtain ⟨j7, f6⟩ := is_v (Cond.before_iff.mp (hsets _ (List.mem_of_getElem? (i := 1) rfl)))
  have S8 : Sta s s.heap "java/lang/String" "COMPACT_STRINGS" "Z" (.int j7) := Sta.start f6 (Or.inl (hsets _ (List.mem_of_getElem? (i := 0) rfl)))
  have c13 : ¬ (j7 = (0 : Int32)) := gotF (Cond.eq_ints f6 (Term.int_eval (0))) n3
  obtain ⟨n, o, h1, h2, h3, _, L, rfl, ⟨rfl, N⟩, hq⟩ := rm0 l s _ hw i0 i1 i2 i3 i4 i5 j7 s.heap s.heap.size (Nat.le_refl _) (Old.start s) S8 c13 p e ha hc hk s m _ below hf ((Spec.applies_iff_loose hf).mp happ).1 ⟨rfl, State.Warmed39.refl s, rfl, CHv.start (own_EW hw) (fun p hp => hcalls.1 p hp) (hsets _ (List.mem_of_getElem? (i := 2) rfl)) (own_w20 hw) (own_w6 hw)⟩ trivial
  refine ⟨n, _, h1, h2, h3, hpost _ _ _ _ _ _ ⟨Cond.after_iff.mpr rfl, Cond.after_iff.mpr (eq_i res_at (Term.int_eval (1)) rfl), trivial⟩ ⟨hq.1, hq.2.1, hq.2.2.1, (hq.2.2.2.sift fun y hy => Or.inr (N y hy)).mono (by decide) (by decide)⟩⟩
theorem main_1_1 : Claimed_1_1 := comes_1 fun _ _ _ _ _ _ h hF => ⟨h.1, hF⟩
theorem main_1_2 : Claimed_1_2 := comes_1 fun _ _ _ _ _ _ h hF => ⟨h.2.1, hF⟩
end Jvm.Pilot.@@N@@
namespace Jvm.Pilot.@@N@@
open Jvm Jvm.ClassFile Sem Op Lib Jvm.Free Jvm.Stand Jvm.Pilot.@@N@@.Jvm.D
/-! MADE BY PROGRAM (witnessworld.py) out of the Statement's table words and the real class files: 23 classes; the members and pool entries that the words name. The judged class is class 1, her method 2. -/
namespace start1
open Jvm.ClassFile
def u (s : String) : CpInfo := .utf8 (stringToUtf16 s)
/-- a pool by its gaps: so many unusable entries, then the entry; so many at the end -/
def gap : Nat → List CpInfo → List CpInfo
  | 0, r => r
  | n + 1, r => .unusable :: gap n r
def poolList (es : List (Nat × CpInfo)) (last : Nat) : List CpInfo := es.foldr (fun e r => gap e.1 (e.2 :: r)) (gap last [])
def pool (es : List (Nat × CpInfo)) (last : Nat) : Array CpInfo := ⟨poolList es last⟩
def fileOf (pool : Array CpInfo) (this : Nat) (attrs : Array Attribute := #[]) (ms : Array MethodInfo := #[]) (fl : Nat := 33) (sup : Nat := 0) (ifs : Array Nat := #[]) (fds : Array FieldInfo := #[]) : ClassFile where
  minorVersion := 0
  majorVersion := 65
  constantPool := pool
  accessFlags := fl
  thisClass := this
  superClass := sup
  interfaces := ifs
  fields := fds
  methods := ms
  attributes := attrs
def plain (name : String) (sup : Option ClassId) : Class where
  name := name
  kind := .ordinary
  loader := none
  accessFlags := 33
  super := sup
  interfaces := #[]
  cf := none
  fields := #[]
  methods := #[]
  instanceTypes := #[]
  staticTypes := #[]
  resolved := #[]
  callSites := []
  init := .initialized
  statics := none
  mirror := none

def pool0 : Array CpInfo := pool [(5, u "<init>"), (0, u "()V"), (1, .class_ 10), (1, u "java/lang/Object")] 113

def k0c0 : Code := { maxStack := 0, maxLocals := 1, code := object_method_1_code, exceptionTable := #[], attributes := #[] }
def k0m0 : Method := { name := "<init>", desc := "()V", sig := { parameters := [], returnType := none }, accessFlags := 1, code := some k0c0 }
/-- java/lang/Object -/
def k0 : Class := { plain "java/lang/Object" none with
  accessFlags := 33
  interfaces := #[]
  cf := some (fileOf pool0 8 #[] #[{ accessFlags := 1, nameIndex := 5, descriptorIndex := 6, attributes := #[] }] 33 0 #[] #[])
  fields := #[]
  methods := #[k0m0]
  instanceTypes := #[]
  staticTypes := #[]
  resolved := Array.replicate 124 none
  statics := none }

def pool1 : Array CpInfo := pool [(2, .class_ 4), (0, .nameAndType 5 6), (0, u "java/lang/Object"), (0, u "<init>"), (0, u "()V"), (0, .class_ 8), (0, u "java/lang/String"), (0, .methodref 7 10), (0, .nameAndType 5 11), (0, u "([C)V"), (0, .methodref 7 13), (0, .nameAndType 14 15), (0, u "valueOf"), (0, u "(C)Ljava/lang/String;"), (0, .integer 2147483647), (0, .methodref 18 19), (0, .class_ 20), (0, .nameAndType 21 22), (0, u "tabulon/StringIndexNumberOfPinLaw"), (0, u "str"), (0, u "(I)Ljava/lang/String;"), (0, .class_ 24), (0, u "tabulon/StringIndex"), (0, .methodref 23 3), (0, .methodref 23 27), (0, .nameAndType 28 29), (0, u "add"), (0, u "(Ljava/lang/String;)I"), (0, .methodref 7 31), (0, .nameAndType 32 33), (0, u "equals"), (0, u "(Ljava/lang/Object;)Z"), (0, .methodref 23 35), (0, .nameAndType 36 29), (0, u "numberOf"), (3, u "law"), (0, u "(IIIIII)Z")] 2

def k1m0 : Method := { name := "<init>", desc := "()V", sig := { parameters := [], returnType := none }, accessFlags := 1, code := none }
def k1c1 : Code := { maxStack := 6, maxLocals := 5, code := method_2_code, exceptionTable := #[], attributes := #[] }
def k1m1 : Method := { name := "str", desc := "(I)Ljava/lang/String;", sig := { parameters := [.int], returnType := some (.object "java/lang/String") }, accessFlags := 10, code := some k1c1 }
def k1c2 : Code := { maxStack := 2, maxLocals := 17, code := code, exceptionTable := #[], attributes := #[] }
def k1m2 : Method := { name := "law", desc := "(IIIIII)Z", sig := { parameters := [.int, .int, .int, .int, .int, .int], returnType := some .boolean }, accessFlags := 9, code := some k1c2 }
/-- tabulon/StringIndexNumberOfPinLaw -/
def k1 : Class := { plain "tabulon/StringIndexNumberOfPinLaw" (some 0) with
  accessFlags := 49
  interfaces := #[]
  cf := some (fileOf pool1 18 #[] #[{ accessFlags := 1, nameIndex := 5, descriptorIndex := 6, attributes := #[] }, { accessFlags := 10, nameIndex := 21, descriptorIndex := 22, attributes := #[] }, { accessFlags := 9, nameIndex := 40, descriptorIndex := 41, attributes := #[] }] 49 2 #[] #[])
  fields := #[]
  methods := #[k1m0, k1m1, k1m2]
  instanceTypes := #[]
  staticTypes := #[]
  resolved := Array.replicate 44 none
  statics := none }

def pool2 : Array CpInfo := pool [(1, .class_ 2), (0, u "java/io/Serializable"), (0, .class_ 4), (0, u "java/lang/Object")] 2

/-- java/io/Serializable -/
def k2 : Class := { plain "java/io/Serializable" (some 0) with
  accessFlags := 1537
  interfaces := #[]
  cf := some (fileOf pool2 1 #[] #[] 1537 3 #[] #[])
  fields := #[]
  methods := #[]
  instanceTypes := #[]
  staticTypes := #[]
  resolved := Array.replicate 7 none
  statics := none }

def pool3 : Array CpInfo := pool [(1, .class_ 2), (0, u "java/lang/Comparable"), (0, .class_ 4), (0, u "java/lang/Object")] 7

/-- java/lang/Comparable -/
def k3 : Class := { plain "java/lang/Comparable" (some 0) with
  accessFlags := 1537
  interfaces := #[]
  cf := some (fileOf pool3 1 #[] #[] 1537 3 #[] #[])
  fields := #[]
  methods := #[]
  instanceTypes := #[]
  staticTypes := #[]
  resolved := Array.replicate 12 none
  statics := none }

def pool4 : Array CpInfo := pool [(2, .class_ 4), (1, u "java/lang/CharSequence"), (42, .class_ 48), (0, u "java/lang/CharSequence$1CodePointIterator"), (10, .class_ 60), (0, u "java/lang/CharSequence$1CharIterator"), (5, .class_ 67), (0, u "java/lang/Object")] 63

/-- java/lang/CharSequence -/
def k4 : Class := { plain "java/lang/CharSequence" (some 0) with
  accessFlags := 1537
  interfaces := #[]
  cf := some (fileOf pool4 2 #[.nestMembers #[47, 59]] #[] 1537 66 #[] #[])
  fields := #[]
  methods := #[]
  instanceTypes := #[]
  staticTypes := #[]
  resolved := Array.replicate 131 none
  statics := none }

def pool5 : Array CpInfo := pool [(1, .class_ 2), (0, u "java/lang/constant/Constable"), (0, .class_ 4), (0, u "java/lang/Object")] 6

/-- java/lang/constant/Constable -/
def k5 : Class := { plain "java/lang/constant/Constable" (some 0) with
  accessFlags := 1537
  interfaces := #[]
  cf := some (fileOf pool5 1 #[] #[] 1537 3 #[] #[])
  fields := #[]
  methods := #[]
  instanceTypes := #[]
  staticTypes := #[]
  resolved := Array.replicate 11 none
  statics := none }

def pool6 : Array CpInfo := pool [(1, .class_ 2), (0, u "java/lang/constant/ConstantDesc"), (0, .class_ 4), (0, u "java/lang/Object")] 32

/-- java/lang/constant/ConstantDesc -/
def k6 : Class := { plain "java/lang/constant/ConstantDesc" (some 0) with
  accessFlags := 1537
  interfaces := #[]
  cf := some (fileOf pool6 1 #[] #[] 1537 3 #[] #[])
  fields := #[]
  methods := #[]
  instanceTypes := #[]
  staticTypes := #[]
  resolved := Array.replicate 37 none
  statics := none }

def pool7 : Array CpInfo := pool [(1, .methodref 2 3), (0, .class_ 4), (0, .nameAndType 5 6), (0, u "java/lang/Object"), (0, u "<init>"), (0, u "()V"), (0, .string 8), (0, u ""), (0, .fieldref 10 11), (0, .class_ 12), (0, .nameAndType 13 14), (0, u "java/lang/String"), (0, u "value"), (0, u "[B"), (0, .fieldref 10 16), (0, .nameAndType 17 18), (0, u "coder"), (0, u "B"), (0, .fieldref 10 20), (0, .nameAndType 21 22), (0, u "hash"), (0, u "I"), (0, .fieldref 10 24), (0, .nameAndType 25 26), (0, u "hashIsZero"), (0, u "Z"), (0, .methodref 10 28), (0, .nameAndType 5 29), (0, u "([CIILjava/lang/Void;)V"), (8, .fieldref 10 39), (0, .nameAndType 40 26), (0, u "COMPACT_STRINGS"), (1, .class_ 44), (1, u "java/lang/StringUTF16"), (0, u "compress"), (1, .methodref 42 48), (0, .nameAndType 49 50), (0, u "coderFromArrayLen"), (0, u "([BI)B"), (2, u "toBytes"), (53, .class_ 109), (1, u "java/lang/StringLatin1"), (32, u "()Z"), (34, .methodref 42 178), (0, .nameAndType 45 179), (0, u "([CII)[B"), (29, .methodref 10 210), (0, .nameAndType 5 211), (0, u "([BB)V"), (122, u "()I"), (34, u "(C)Z"), (122, .methodref 10 493), (0, .nameAndType 494 142), (0, u "isLatin1"), (46, .methodref 107 542), (0, .nameAndType 543 544), (0, u "equals"), (0, u "([B[B)Z"), (28, u "(Ljava/lang/Object;)Z"), (1, .class_ 576), (0, u "java/lang/CharSequence"), (22, u "CASE_INSENSITIVE_ORDER"), (0, u "Ljava/util/Comparator;"), (27, .methodref 107 629), (0, .nameAndType 630 631), (0, u "hashCode"), (0, u "([B)I"), (150, u "valueOf"), (0, u "(C)Ljava/lang/String;"), (226, u "([C)V"), (4, .methodref 107 1016), (0, .nameAndType 1017 369), (0, u "canEncode"), (0, .methodref 107 1019), (0, .nameAndType 53 1020), (0, u "(C)[B"), (80, u "serialPersistentFields"), (0, u "[Ljava/io/ObjectStreamField;"), (0, .class_ 1104), (0, u "java/lang/String$CaseInsensitiveComparator"), (1, .class_ 1107), (0, u "java/io/Serializable"), (0, .class_ 1109), (0, u "java/lang/Comparable"), (0, .class_ 1111), (0, u "java/lang/constant/Constable"), (0, .class_ 1113), (0, u "java/lang/constant/ConstantDesc"), (2, u "serialVersionUID"), (0, u "J"), (3, u "REPL"), (0, u "C"), (2, u "LATIN1"), (1, u "UTF16")] 323

def k7m0 : Method := { name := "<init>", desc := "()V", sig := { parameters := [], returnType := none }, accessFlags := 1, code := none }
def k7c1 : Code := { maxStack := 5, maxLocals := 2, code := jdk_42_method_3_code, exceptionTable := #[], attributes := #[] }
def k7m1 : Method := { name := "<init>", desc := "([C)V", sig := { parameters := [(.array .char)], returnType := none }, accessFlags := 1, code := some k7c1 }
def k7c2 : Code := { maxStack := 2, maxLocals := 3, code := jdk_42_method_66_code, exceptionTable := #[], attributes := #[] }
def k7m2 : Method := { name := "equals", desc := "(Ljava/lang/Object;)Z", sig := { parameters := [(.object "java/lang/Object")], returnType := some .boolean }, accessFlags := 1, code := some k7c2 }
def k7c3 : Code := { maxStack := 2, maxLocals := 2, code := jdk_42_method_78_code, exceptionTable := #[], attributes := #[] }
def k7m3 : Method := { name := "hashCode", desc := "()I", sig := { parameters := [], returnType := some .int }, accessFlags := 1, code := some k7c3 }
def k7c4 : Code := { maxStack := 4, maxLocals := 1, code := jdk_42_method_139_code, exceptionTable := #[], attributes := #[] }
def k7m4 : Method := { name := "valueOf", desc := "(C)Ljava/lang/String;", sig := { parameters := [.char], returnType := some (.object "java/lang/String") }, accessFlags := 9, code := some k7c4 }
def k7c5 : Code := { maxStack := 4, maxLocals := 6, code := jdk_42_method_149_code, exceptionTable := #[], attributes := #[] }
def k7m5 : Method := { name := "<init>", desc := "([CIILjava/lang/Void;)V", sig := { parameters := [(.array .char), .int, .int, (.object "java/lang/Void")], returnType := none }, accessFlags := 2, code := some k7c5 }
def k7c6 : Code := { maxStack := 2, maxLocals := 3, code := jdk_42_method_151_code, exceptionTable := #[], attributes := #[] }
def k7m6 : Method := { name := "<init>", desc := "([BB)V", sig := { parameters := [(.array .byte), .byte], returnType := none }, accessFlags := 0, code := some k7c6 }
def k7c7 : Code := { maxStack := 1, maxLocals := 1, code := jdk_42_method_154_code, exceptionTable := #[], attributes := #[] }
def k7m7 : Method := { name := "isLatin1", desc := "()Z", sig := { parameters := [], returnType := some .boolean }, accessFlags := 0, code := some k7c7 }
/-- java/lang/String -/
def k7 : Class := { plain "java/lang/String" (some 0) with
  accessFlags := 49
  interfaces := #[2, 3, 4, 5, 6]
  cf := some (fileOf pool7 10 #[.nestMembers #[1103]] #[{ accessFlags := 1, nameIndex := 5, descriptorIndex := 6, attributes := #[] }, { accessFlags := 1, nameIndex := 5, descriptorIndex := 1010, attributes := #[] }, { accessFlags := 1, nameIndex := 543, descriptorIndex := 573, attributes := #[] }, { accessFlags := 1, nameIndex := 630, descriptorIndex := 334, attributes := #[] }, { accessFlags := 9, nameIndex := 782, descriptorIndex := 783, attributes := #[] }, { accessFlags := 2, nameIndex := 5, descriptorIndex := 29, attributes := #[] }, { accessFlags := 0, nameIndex := 5, descriptorIndex := 211, attributes := #[] }, { accessFlags := 0, nameIndex := 494, descriptorIndex := 142, attributes := #[] }] 49 2 #[1106, 1108, 575, 1110, 1112] #[{ accessFlags := 18, nameIndex := 13, descriptorIndex := 14, attributes := #[] }, { accessFlags := 18, nameIndex := 17, descriptorIndex := 18, attributes := #[] }, { accessFlags := 2, nameIndex := 21, descriptorIndex := 22, attributes := #[] }, { accessFlags := 2, nameIndex := 25, descriptorIndex := 26, attributes := #[] }, { accessFlags := 26, nameIndex := 1116, descriptorIndex := 1117, attributes := #[] }, { accessFlags := 24, nameIndex := 40, descriptorIndex := 26, attributes := #[] }, { accessFlags := 26, nameIndex := 1101, descriptorIndex := 1102, attributes := #[] }, { accessFlags := 26, nameIndex := 1121, descriptorIndex := 1122, attributes := #[] }, { accessFlags := 25, nameIndex := 599, descriptorIndex := 600, attributes := #[] }, { accessFlags := 24, nameIndex := 1125, descriptorIndex := 18, attributes := #[] }, { accessFlags := 24, nameIndex := 1127, descriptorIndex := 18, attributes := #[] }])
  fields := #[{ name := "value", type := (.array .byte), accessFlags := 18, slot := 0, constantValue := 0 }, { name := "coder", type := .byte, accessFlags := 18, slot := 1, constantValue := 0 }, { name := "hash", type := .int, accessFlags := 2, slot := 2, constantValue := 0 }, { name := "hashIsZero", type := .boolean, accessFlags := 2, slot := 3, constantValue := 0 }, { name := "serialVersionUID", type := .long, accessFlags := 26, slot := 0, constantValue := 0 }, { name := "COMPACT_STRINGS", type := .boolean, accessFlags := 24, slot := 1, constantValue := 0 }, { name := "serialPersistentFields", type := (.array (.object "java/io/ObjectStreamField")), accessFlags := 26, slot := 2, constantValue := 0 }, { name := "REPL", type := .char, accessFlags := 26, slot := 3, constantValue := 0 }, { name := "CASE_INSENSITIVE_ORDER", type := (.object "java/util/Comparator"), accessFlags := 25, slot := 4, constantValue := 0 }, { name := "LATIN1", type := .byte, accessFlags := 24, slot := 5, constantValue := 0 }, { name := "UTF16", type := .byte, accessFlags := 24, slot := 6, constantValue := 0 }]
  methods := #[k7m0, k7m1, k7m2, k7m3, k7m4, k7m5, k7m6, k7m7]
  instanceTypes := #[(.array .byte), .byte, .int, .boolean]
  staticTypes := #[.long, .boolean, (.array (.object "java/io/ObjectStreamField")), .char, (.object "java/util/Comparator"), .byte, .byte]
  resolved := Array.replicate 1451 none
  statics := some 0 }

def pool8 : Array CpInfo := pool [(1, .methodref 2 3), (0, .class_ 4), (0, .nameAndType 5 6), (0, u "java/lang/Object"), (0, u "<init>"), (0, u "()V"), (0, .class_ 8), (0, u "tabulon/StringIndex"), (0, .class_ 10), (0, u "java/lang/String"), (0, .fieldref 7 12), (0, .nameAndType 13 14), (0, u "strings"), (0, u "[Ljava/lang/String;"), (0, .fieldref 7 16), (0, .nameAndType 17 18), (0, u "slots"), (0, u "[I"), (0, .class_ 20), (0, u "java/lang/Integer"), (0, .methodref 19 22), (0, .nameAndType 23 24), (0, u "numberOfTrailingZeros"), (0, u "(I)I"), (0, .fieldref 7 26), (0, .nameAndType 27 28), (0, u "shift"), (0, u "I"), (0, .methodref 7 30), (0, .nameAndType 31 32), (0, u "slot"), (0, u "(Ljava/lang/String;)I"), (0, .fieldref 7 34), (0, .nameAndType 35 28), (0, u "size"), (12, .class_ 49), (0, u "tabulon/StringIndex$1"), (3, .methodref 9 54), (0, .nameAndType 55 56), (0, u "hashCode"), (0, u "()I"), (0, .integer 2654435769), (0, .methodref 9 59), (0, .nameAndType 60 61), (0, u "equals"), (0, u "(Ljava/lang/Object;)Z"), (0, u "FIRST_CAPACITY"), (4, u "add"), (1, u "numberOf")] 9

def k8c0 : Code := { maxStack := 3, maxLocals := 1, code := prog_9_method_1_code, exceptionTable := #[], attributes := #[] }
def k8m0 : Method := { name := "<init>", desc := "()V", sig := { parameters := [], returnType := none }, accessFlags := 1, code := some k8c0 }
def k8c1 : Code := { maxStack := 5, maxLocals := 4, code := prog_9_method_2_code, exceptionTable := #[], attributes := #[] }
def k8m1 : Method := { name := "add", desc := "(Ljava/lang/String;)I", sig := { parameters := [(.object "java/lang/String")], returnType := some .int }, accessFlags := 1, code := some k8c1 }
def k8c2 : Code := { maxStack := 3, maxLocals := 2, code := prog_9_method_3_code, exceptionTable := #[], attributes := #[] }
def k8m2 : Method := { name := "numberOf", desc := "(Ljava/lang/String;)I", sig := { parameters := [(.object "java/lang/String")], returnType := some .int }, accessFlags := 1, code := some k8c2 }
def k8c3 : Code := { maxStack := 3, maxLocals := 4, code := prog_9_method_7_code, exceptionTable := #[], attributes := #[] }
def k8m3 : Method := { name := "slot", desc := "(Ljava/lang/String;)I", sig := { parameters := [(.object "java/lang/String")], returnType := some .int }, accessFlags := 2, code := some k8c3 }
/-- tabulon/StringIndex -/
def k8 : Class := { plain "tabulon/StringIndex" (some 0) with
  accessFlags := 49
  interfaces := #[]
  cf := some (fileOf pool8 7 #[.nestMembers #[48]] #[{ accessFlags := 1, nameIndex := 5, descriptorIndex := 6, attributes := #[] }, { accessFlags := 1, nameIndex := 67, descriptorIndex := 32, attributes := #[] }, { accessFlags := 1, nameIndex := 69, descriptorIndex := 32, attributes := #[] }, { accessFlags := 2, nameIndex := 31, descriptorIndex := 32, attributes := #[] }] 49 2 #[] #[{ accessFlags := 26, nameIndex := 62, descriptorIndex := 28, attributes := #[] }, { accessFlags := 2, nameIndex := 13, descriptorIndex := 14, attributes := #[] }, { accessFlags := 2, nameIndex := 35, descriptorIndex := 28, attributes := #[] }, { accessFlags := 2, nameIndex := 17, descriptorIndex := 18, attributes := #[] }, { accessFlags := 2, nameIndex := 27, descriptorIndex := 28, attributes := #[] }])
  fields := #[{ name := "FIRST_CAPACITY", type := .int, accessFlags := 26, slot := 0, constantValue := 0 }, { name := "strings", type := (.array (.object "java/lang/String")), accessFlags := 2, slot := 0, constantValue := 0 }, { name := "size", type := .int, accessFlags := 2, slot := 1, constantValue := 0 }, { name := "slots", type := (.array .int), accessFlags := 2, slot := 2, constantValue := 0 }, { name := "shift", type := .int, accessFlags := 2, slot := 3, constantValue := 0 }]
  methods := #[k8m0, k8m1, k8m2, k8m3]
  instanceTypes := #[(.array (.object "java/lang/String")), .int, (.array .int), .int]
  staticTypes := #[.int]
  resolved := Array.replicate 79 none
  statics := none }

def pool9 : Array CpInfo := pool [(2, .class_ 4), (1, u "java/lang/Object"), (0, u "<init>"), (0, u "()V"), (1, .class_ 10), (1, u "java/lang/Number"), (2, .class_ 14), (0, u "java/io/Serializable"), (0, u "serialVersionUID"), (0, u "J")] 20

def k9m0 : Method := { name := "<init>", desc := "()V", sig := { parameters := [], returnType := none }, accessFlags := 1, code := none }
/-- java/lang/Number -/
def k9 : Class := { plain "java/lang/Number" (some 0) with
  accessFlags := 1057
  interfaces := #[2]
  cf := some (fileOf pool9 8 #[] #[{ accessFlags := 1, nameIndex := 5, descriptorIndex := 6, attributes := #[] }] 1057 2 #[13] #[{ accessFlags := 26, nameIndex := 15, descriptorIndex := 16, attributes := #[] }])
  fields := #[{ name := "serialVersionUID", type := .long, accessFlags := 26, slot := 0, constantValue := 0 }]
  methods := #[k9m0]
  instanceTypes := #[]
  staticTypes := #[.long]
  resolved := Array.replicate 37 none
  statics := none }

def pool10 : Array CpInfo := pool [(1, .class_ 2), (0, u "java/lang/Integer"), (16, u "digits"), (0, u "[C"), (33, u "(I)I"), (30, u "DigitOnes"), (0, u "[B"), (2, u "DigitTens"), (99, .class_ 190), (0, u "java/lang/Integer$IntegerCache"), (3, u "I"), (8, .class_ 204), (0, u "java/lang/Number"), (2, u "value"), (56, .integer 65536), (37, u "TYPE"), (0, u "Ljava/lang/Class;"), (0, .class_ 305), (0, u "java/lang/Comparable"), (0, .class_ 307), (0, u "java/lang/constant/Constable"), (0, .class_ 309), (0, u "java/lang/constant/ConstantDesc"), (0, u "MIN_VALUE"), (1, u "MAX_VALUE"), (3, u "SIZE"), (1, u "BYTES"), (1, u "serialVersionUID"), (0, u "J"), (84, u "numberOfTrailingZeros")] 46

def k10c0 : Code := { maxStack := 3, maxLocals := 2, code := jdk_33_method_48_code, exceptionTable := #[], attributes := #[] }
def k10m0 : Method := { name := "numberOfTrailingZeros", desc := "(I)I", sig := { parameters := [.int], returnType := some .int }, accessFlags := 9, code := some k10c0 }
/-- java/lang/Integer -/
def k10 : Class := { plain "java/lang/Integer" (some 9) with
  accessFlags := 49
  interfaces := #[3, 5, 6]
  cf := some (fileOf pool10 1 #[.nestMembers #[189]] #[{ accessFlags := 9, nameIndex := 406, descriptorIndex := 54, attributes := #[] }] 49 203 #[304, 306, 308] #[{ accessFlags := 25, nameIndex := 310, descriptorIndex := 194, attributes := #[] }, { accessFlags := 25, nameIndex := 312, descriptorIndex := 194, attributes := #[] }, { accessFlags := 25, nameIndex := 302, descriptorIndex := 303, attributes := #[] }, { accessFlags := 24, nameIndex := 19, descriptorIndex := 20, attributes := #[] }, { accessFlags := 24, nameIndex := 89, descriptorIndex := 86, attributes := #[] }, { accessFlags := 24, nameIndex := 85, descriptorIndex := 86, attributes := #[] }, { accessFlags := 18, nameIndex := 207, descriptorIndex := 194, attributes := #[] }, { accessFlags := 25, nameIndex := 316, descriptorIndex := 194, attributes := #[] }, { accessFlags := 25, nameIndex := 318, descriptorIndex := 194, attributes := #[] }, { accessFlags := 26, nameIndex := 320, descriptorIndex := 321, attributes := #[] }])
  fields := #[{ name := "MIN_VALUE", type := .int, accessFlags := 25, slot := 0, constantValue := 0 }, { name := "MAX_VALUE", type := .int, accessFlags := 25, slot := 1, constantValue := 0 }, { name := "TYPE", type := (.object "java/lang/Class"), accessFlags := 25, slot := 2, constantValue := 0 }, { name := "digits", type := (.array .char), accessFlags := 24, slot := 3, constantValue := 0 }, { name := "DigitTens", type := (.array .byte), accessFlags := 24, slot := 4, constantValue := 0 }, { name := "DigitOnes", type := (.array .byte), accessFlags := 24, slot := 5, constantValue := 0 }, { name := "value", type := .int, accessFlags := 18, slot := 0, constantValue := 0 }, { name := "SIZE", type := .int, accessFlags := 25, slot := 6, constantValue := 0 }, { name := "BYTES", type := .int, accessFlags := 25, slot := 7, constantValue := 0 }, { name := "serialVersionUID", type := .long, accessFlags := 26, slot := 8, constantValue := 0 }]
  methods := #[k10m0]
  instanceTypes := #[.int]
  staticTypes := #[.int, .int, (.object "java/lang/Class"), (.array .char), (.array .byte), (.array .byte), .int, .int, .long]
  resolved := Array.replicate 453 none
  statics := none }

def pool11 : Array CpInfo := pool [(4, .class_ 6), (1, u "java/lang/Object"), (0, u "<init>"), (0, u "()V"), (5, .class_ 16), (1, u "java/lang/StringLatin1"), (28, .class_ 47), (1, u "jdk/internal/util/ArraysSupport"), (9, u "([B)I"), (26, .methodref 45 85), (0, .nameAndType 86 87), (0, u "vectorizedHashCode"), (0, u "(Ljava/lang/Object;IIII)I"), (2, u "canEncode"), (14, u "(C)Z"), (15, u "$assertionsDisabled"), (0, u "Z"), (98, .class_ 223), (1, u "java/lang/StringLatin1$LinesSpliterator"), (57, u "equals"), (0, u "([B[B)Z"), (15, u "hashCode"), (81, u "toBytes"), (1, u "(C)[B"), (7, .class_ 391), (0, u "java/lang/StringLatin1$CharsSpliterator")] 3

def k11m0 : Method := { name := "<init>", desc := "()V", sig := { parameters := [], returnType := none }, accessFlags := 0, code := none }
def k11c1 : Code := { maxStack := 2, maxLocals := 1, code := jdk_43_method_3_code, exceptionTable := #[], attributes := #[] }
def k11m1 : Method := { name := "canEncode", desc := "(C)Z", sig := { parameters := [.char], returnType := some .boolean }, accessFlags := 9, code := some k11c1 }
def k11c2 : Code := { maxStack := 3, maxLocals := 3, code := jdk_43_method_13_code, exceptionTable := #[], attributes := #[] }
def k11m2 : Method := { name := "equals", desc := "([B[B)Z", sig := { parameters := [(.array .byte), (.array .byte)], returnType := some .boolean }, accessFlags := 9, code := some k11c2 }
def k11c3 : Code := { maxStack := 5, maxLocals := 1, code := jdk_43_method_21_code, exceptionTable := #[], attributes := #[] }
def k11m3 : Method := { name := "hashCode", desc := "([B)I", sig := { parameters := [(.array .byte)], returnType := some .int }, accessFlags := 9, code := some k11c3 }
def k11c4 : Code := { maxStack := 4, maxLocals := 1, code := jdk_43_method_46_code, exceptionTable := #[], attributes := #[] }
def k11m4 : Method := { name := "toBytes", desc := "(C)[B", sig := { parameters := [.char], returnType := some (.array .byte) }, accessFlags := 9, code := some k11c4 }
/-- java/lang/StringLatin1 -/
def k11 : Class := { plain "java/lang/StringLatin1" (some 0) with
  accessFlags := 48
  interfaces := #[]
  cf := some (fileOf pool11 14 #[.nestMembers #[390, 221]] #[{ accessFlags := 0, nameIndex := 7, descriptorIndex := 8, attributes := #[] }, { accessFlags := 9, nameIndex := 90, descriptorIndex := 105, attributes := #[] }, { accessFlags := 9, nameIndex := 281, descriptorIndex := 282, attributes := #[] }, { accessFlags := 9, nameIndex := 298, descriptorIndex := 57, attributes := #[] }, { accessFlags := 9, nameIndex := 380, descriptorIndex := 382, attributes := #[] }] 48 4 #[] #[{ accessFlags := 4120, nameIndex := 121, descriptorIndex := 122, attributes := #[] }])
  fields := #[{ name := "$assertionsDisabled", type := .boolean, accessFlags := 4120, slot := 0, constantValue := 0 }]
  methods := #[k11m0, k11m1, k11m2, k11m3, k11m4]
  instanceTypes := #[]
  staticTypes := #[.boolean]
  resolved := Array.replicate 395 none
  statics := none }

def pool12 : Array CpInfo := pool [(6, .class_ 8), (1, u "java/lang/Object"), (0, u "<init>"), (0, u "()V"), (1, .class_ 14), (1, u "java/lang/StringUTF16"), (31, u "$assertionsDisabled"), (0, u "Z"), (13, u "HI_BYTE_SHIFT"), (0, u "I"), (2, u "LO_BYTE_SHIFT"), (49, .methodref 12 116), (0, .nameAndType 117 118), (0, u "compress"), (0, u "([CI[BII)I"), (3, u "([CII)[B"), (138, u "coderFromArrayLen"), (0, u "([BI)B"), (106, .class_ 371), (1, u "java/lang/StringUTF16$LinesSpliterator"), (58, u "MAX_LENGTH"), (196, .class_ 628), (0, u "java/lang/StringUTF16$CodePointsSpliterator"), (0, .class_ 630), (0, u "java/lang/StringUTF16$CharsSpliterator")] 4

def k12m0 : Method := { name := "<init>", desc := "()V", sig := { parameters := [], returnType := none }, accessFlags := 0, code := none }
def k12c1 : Code := { maxStack := 2, maxLocals := 2, code := jdk_52_method_15_code, exceptionTable := #[], attributes := #[] }
def k12m1 : Method := { name := "coderFromArrayLen", desc := "([BI)B", sig := { parameters := [(.array .byte), .int], returnType := some .byte }, accessFlags := 8, code := some k12c1 }
def k12c2 : Code := { maxStack := 5, maxLocals := 6, code := jdk_52_method_16_code, exceptionTable := #[], attributes := #[] }
def k12m2 : Method := { name := "compress", desc := "([CII)[B", sig := { parameters := [(.array .char), .int, .int], returnType := some (.array .byte) }, accessFlags := 9, code := some k12c2 }
def k12c3 : Code := { maxStack := 3, maxLocals := 7, code := jdk_52_method_21_code, exceptionTable := #[], attributes := #[] }
def k12m3 : Method := { name := "compress", desc := "([CI[BII)I", sig := { parameters := [(.array .char), .int, (.array .byte), .int, .int], returnType := some .int }, accessFlags := 9, code := some k12c3 }
/-- java/lang/StringUTF16 -/
def k12 : Class := { plain "java/lang/StringUTF16" (some 0) with
  accessFlags := 48
  interfaces := #[]
  cf := some (fileOf pool12 12 #[.nestMembers #[627, 629, 369]] #[{ accessFlags := 0, nameIndex := 9, descriptorIndex := 10, attributes := #[] }, { accessFlags := 8, nameIndex := 261, descriptorIndex := 262, attributes := #[] }, { accessFlags := 9, nameIndex := 117, descriptorIndex := 122, attributes := #[] }, { accessFlags := 9, nameIndex := 117, descriptorIndex := 118, attributes := #[] }] 48 6 #[] #[{ accessFlags := 26, nameIndex := 61, descriptorIndex := 62, attributes := #[] }, { accessFlags := 26, nameIndex := 65, descriptorIndex := 62, attributes := #[] }, { accessFlags := 24, nameIndex := 430, descriptorIndex := 62, attributes := #[] }, { accessFlags := 4120, nameIndex := 46, descriptorIndex := 47, attributes := #[] }])
  fields := #[{ name := "HI_BYTE_SHIFT", type := .int, accessFlags := 26, slot := 0, constantValue := 0 }, { name := "LO_BYTE_SHIFT", type := .int, accessFlags := 26, slot := 1, constantValue := 0 }, { name := "MAX_LENGTH", type := .int, accessFlags := 24, slot := 2, constantValue := 0 }, { name := "$assertionsDisabled", type := .boolean, accessFlags := 4120, slot := 3, constantValue := 0 }]
  methods := #[k12m0, k12m1, k12m2, k12m3]
  instanceTypes := #[]
  staticTypes := #[.int, .int, .int, .boolean]
  resolved := Array.replicate 635 none
  statics := none }

def pool13 : Array CpInfo := pool [(9, u "<init>"), (6, .class_ 18), (1, u "java/lang/Object"), (0, u "()V"), (1, .class_ 23), (1, u "jdk/internal/util/ArraysSupport"), (0, u "LOG2_ARRAY_LONG_INDEX_SCALE"), (0, u "I"), (2, u "U"), (0, u "Ljdk/internal/misc/Unsafe;"), (8, u "BIG_ENDIAN"), (0, u "Z"), (8, u "LOG2_BYTE_BIT_SIZE"), (4, u "LOG2_ARRAY_INT_INDEX_SCALE"), (6, .class_ 61), (0, u "[B"), (0, .methodref 21 63), (0, .nameAndType 64 65), (0, u "signedHashCode"), (0, u "(I[BII)I"), (42, u "JLA"), (0, u "Ljdk/internal/access/JavaLangAccess;"), (11, u "LOG2_ARRAY_BOOLEAN_INDEX_SCALE"), (9, u "LOG2_ARRAY_BYTE_INDEX_SCALE"), (5, u "LOG2_ARRAY_CHAR_INDEX_SCALE"), (5, u "LOG2_ARRAY_SHORT_INDEX_SCALE"), (18, u "LOG2_ARRAY_FLOAT_INDEX_SCALE"), (24, u "LOG2_ARRAY_DOUBLE_INDEX_SCALE"), (89, u "T_BOOLEAN"), (2, u "T_CHAR"), (1, u "T_FLOAT"), (1, u "T_DOUBLE"), (1, u "T_BYTE"), (1, u "T_SHORT"), (1, u "T_INT"), (1, u "T_LONG"), (1, u "SOFT_MAX_ARRAY_LENGTH"), (26, u "vectorizedHashCode"), (0, u "(Ljava/lang/Object;IIII)I")] 55

def k13m0 : Method := { name := "<init>", desc := "()V", sig := { parameters := [], returnType := none }, accessFlags := 2, code := none }
def k13c1 : Code := { maxStack := 4, maxLocals := 5, code := jdk_48_method_4_code, exceptionTable := #[], attributes := #[] }
def k13m1 : Method := { name := "vectorizedHashCode", desc := "(Ljava/lang/Object;IIII)I", sig := { parameters := [(.object "java/lang/Object"), .int, .int, .int, .int], returnType := some .int }, accessFlags := 9, code := some k13c1 }
def k13c2 : Code := { maxStack := 3, maxLocals := 6, code := jdk_48_method_5_code, exceptionTable := #[], attributes := #[] }
def k13m2 : Method := { name := "signedHashCode", desc := "(I[BII)I", sig := { parameters := [.int, (.array .byte), .int, .int], returnType := some .int }, accessFlags := 10, code := some k13c2 }
/-- jdk/internal/util/ArraysSupport -/
def k13 : Class := { plain "jdk/internal/util/ArraysSupport" (some 0) with
  accessFlags := 33
  interfaces := #[]
  cf := some (fileOf pool13 21 #[] #[{ accessFlags := 2, nameIndex := 9, descriptorIndex := 19, attributes := #[] }, { accessFlags := 9, nameIndex := 321, descriptorIndex := 322, attributes := #[] }, { accessFlags := 10, nameIndex := 64, descriptorIndex := 65, attributes := #[] }] 33 16 #[] #[{ accessFlags := 24, nameIndex := 28, descriptorIndex := 29, attributes := #[] }, { accessFlags := 26, nameIndex := 38, descriptorIndex := 39, attributes := #[] }, { accessFlags := 25, nameIndex := 121, descriptorIndex := 25, attributes := #[] }, { accessFlags := 25, nameIndex := 131, descriptorIndex := 25, attributes := #[] }, { accessFlags := 25, nameIndex := 137, descriptorIndex := 25, attributes := #[] }, { accessFlags := 25, nameIndex := 143, descriptorIndex := 25, attributes := #[] }, { accessFlags := 25, nameIndex := 53, descriptorIndex := 25, attributes := #[] }, { accessFlags := 25, nameIndex := 24, descriptorIndex := 25, attributes := #[] }, { accessFlags := 25, nameIndex := 162, descriptorIndex := 25, attributes := #[] }, { accessFlags := 25, nameIndex := 187, descriptorIndex := 25, attributes := #[] }, { accessFlags := 26, nameIndex := 48, descriptorIndex := 25, attributes := #[] }, { accessFlags := 25, nameIndex := 277, descriptorIndex := 25, attributes := #[] }, { accessFlags := 25, nameIndex := 280, descriptorIndex := 25, attributes := #[] }, { accessFlags := 25, nameIndex := 282, descriptorIndex := 25, attributes := #[] }, { accessFlags := 25, nameIndex := 284, descriptorIndex := 25, attributes := #[] }, { accessFlags := 25, nameIndex := 286, descriptorIndex := 25, attributes := #[] }, { accessFlags := 25, nameIndex := 288, descriptorIndex := 25, attributes := #[] }, { accessFlags := 25, nameIndex := 290, descriptorIndex := 25, attributes := #[] }, { accessFlags := 25, nameIndex := 292, descriptorIndex := 25, attributes := #[] }, { accessFlags := 26, nameIndex := 108, descriptorIndex := 109, attributes := #[] }, { accessFlags := 25, nameIndex := 294, descriptorIndex := 25, attributes := #[] }])
  fields := #[{ name := "U", type := (.object "jdk/internal/misc/Unsafe"), accessFlags := 24, slot := 0, constantValue := 0 }, { name := "BIG_ENDIAN", type := .boolean, accessFlags := 26, slot := 1, constantValue := 0 }, { name := "LOG2_ARRAY_BOOLEAN_INDEX_SCALE", type := .int, accessFlags := 25, slot := 2, constantValue := 0 }, { name := "LOG2_ARRAY_BYTE_INDEX_SCALE", type := .int, accessFlags := 25, slot := 3, constantValue := 0 }, { name := "LOG2_ARRAY_CHAR_INDEX_SCALE", type := .int, accessFlags := 25, slot := 4, constantValue := 0 }, { name := "LOG2_ARRAY_SHORT_INDEX_SCALE", type := .int, accessFlags := 25, slot := 5, constantValue := 0 }, { name := "LOG2_ARRAY_INT_INDEX_SCALE", type := .int, accessFlags := 25, slot := 6, constantValue := 0 }, { name := "LOG2_ARRAY_LONG_INDEX_SCALE", type := .int, accessFlags := 25, slot := 7, constantValue := 0 }, { name := "LOG2_ARRAY_FLOAT_INDEX_SCALE", type := .int, accessFlags := 25, slot := 8, constantValue := 0 }, { name := "LOG2_ARRAY_DOUBLE_INDEX_SCALE", type := .int, accessFlags := 25, slot := 9, constantValue := 0 }, { name := "LOG2_BYTE_BIT_SIZE", type := .int, accessFlags := 26, slot := 10, constantValue := 0 }, { name := "T_BOOLEAN", type := .int, accessFlags := 25, slot := 11, constantValue := 0 }, { name := "T_CHAR", type := .int, accessFlags := 25, slot := 12, constantValue := 0 }, { name := "T_FLOAT", type := .int, accessFlags := 25, slot := 13, constantValue := 0 }, { name := "T_DOUBLE", type := .int, accessFlags := 25, slot := 14, constantValue := 0 }, { name := "T_BYTE", type := .int, accessFlags := 25, slot := 15, constantValue := 0 }, { name := "T_SHORT", type := .int, accessFlags := 25, slot := 16, constantValue := 0 }, { name := "T_INT", type := .int, accessFlags := 25, slot := 17, constantValue := 0 }, { name := "T_LONG", type := .int, accessFlags := 25, slot := 18, constantValue := 0 }, { name := "JLA", type := (.object "jdk/internal/access/JavaLangAccess"), accessFlags := 26, slot := 19, constantValue := 0 }, { name := "SOFT_MAX_ARRAY_LENGTH", type := .int, accessFlags := 25, slot := 20, constantValue := 0 }]
  methods := #[k13m0, k13m1, k13m2]
  instanceTypes := #[]
  staticTypes := #[(.object "jdk/internal/misc/Unsafe"), .boolean, .int, .int, .int, .int, .int, .int, .int, .int, .int, .int, .int, .int, .int, .int, .int, .int, .int, (.object "jdk/internal/access/JavaLangAccess"), .int]
  resolved := Array.replicate 378 none
  statics := none }

def pool14 : Array CpInfo := pool [(2, .class_ 4), (1, u "java/lang/Object"), (0, u "<init>"), (0, u "()V"), (17, .class_ 26), (1, u "jdk/internal/util/Preconditions"), (28, .class_ 56), (0, u "jdk/internal/util/Preconditions$4"), (57, .class_ 115), (0, u "jdk/internal/util/Preconditions$1"), (7, u "SIOOBE_FORMATTER"), (0, u "Ljava/util/function/BiFunction;"), (0, .class_ 126), (0, u "jdk/internal/util/Preconditions$2"), (3, u "AIOOBE_FORMATTER"), (0, .class_ 132), (0, u "jdk/internal/util/Preconditions$3"), (3, u "IOOBE_FORMATTER")] 57

def k14m0 : Method := { name := "<init>", desc := "()V", sig := { parameters := [], returnType := none }, accessFlags := 1, code := none }
/-- jdk/internal/util/Preconditions -/
def k14 : Class := { plain "jdk/internal/util/Preconditions" (some 0) with
  accessFlags := 33
  interfaces := #[]
  cf := some (fileOf pool14 24 #[.nestMembers #[55, 131, 125, 114]] #[{ accessFlags := 1, nameIndex := 5, descriptorIndex := 6, attributes := #[] }] 33 2 #[] #[{ accessFlags := 25, nameIndex := 123, descriptorIndex := 124, attributes := #[] }, { accessFlags := 25, nameIndex := 130, descriptorIndex := 124, attributes := #[] }, { accessFlags := 25, nameIndex := 136, descriptorIndex := 124, attributes := #[] }])
  fields := #[{ name := "SIOOBE_FORMATTER", type := (.object "java/util/function/BiFunction"), accessFlags := 25, slot := 0, constantValue := 0 }, { name := "AIOOBE_FORMATTER", type := (.object "java/util/function/BiFunction"), accessFlags := 25, slot := 1, constantValue := 0 }, { name := "IOOBE_FORMATTER", type := (.object "java/util/function/BiFunction"), accessFlags := 25, slot := 2, constantValue := 0 }]
  methods := #[k14m0]
  instanceTypes := #[]
  staticTypes := #[(.object "java/util/function/BiFunction"), (.object "java/util/function/BiFunction"), (.object "java/util/function/BiFunction")]
  resolved := Array.replicate 194 none
  statics := some 1 }

def pool15 : Array CpInfo := pool [(1, u "java/lang/Cloneable"), (0, .class_ 1), (0, u "java/lang/Object"), (0, .class_ 3)] 3

/-- java/lang/Cloneable -/
def k15 : Class := { plain "java/lang/Cloneable" (some 0) with
  accessFlags := 1537
  interfaces := #[]
  cf := some (fileOf pool15 2 #[] #[] 1537 4 #[] #[])
  fields := #[]
  methods := #[]
  instanceTypes := #[]
  staticTypes := #[]
  resolved := Array.replicate 8 none
  statics := none }

/-- the primitive byte -/
def k16 : Class := { plain "byte" none with kind := .primitive 'B', accessFlags := 0x411 }
/-- [B -/
def k17 : Class := { plain "[B" (some 0) with kind := .array 16 .byte, interfaces := #[15, 2], accessFlags := 1041 }

/-- the primitive char -/
def k18 : Class := { plain "char" none with kind := .primitive 'C', accessFlags := 0x411 }
/-- [C -/
def k19 : Class := { plain "[C" (some 0) with kind := .array 18 .char, interfaces := #[15, 2], accessFlags := 1041 }

/-- the primitive int -/
def k20 : Class := { plain "int" none with kind := .primitive 'I', accessFlags := 0x411 }
/-- [I -/
def k21 : Class := { plain "[I" (some 0) with kind := .array 20 .int, interfaces := #[15, 2], accessFlags := 1041 }

/-- [Ljava/lang/String; -/
def k22 : Class := { plain "[Ljava/lang/String;" (some 0) with kind := .array 7 (.object "java/lang/String"), interfaces := #[15, 2], accessFlags := 1041 }

def heap : Heap := #[{ cls := 7, slots := #[.long 0, .int 1, .null, .int 0, .null, .int 0, .int 0], vm := .statics 7 },
  { cls := 14, slots := #[.null, .null, .null], vm := .statics 14 }]
def classes : Array Class := #[k0, k1, k2, k3, k4, k5, k6, k7, k8, k9, k10, k11, k12, k13, k14, k15, k16, k17, k18, k19, k20, k21, k22]
def interned : List (Array UInt16 × Addr) := []
def slotsUsed : Nat := 10
def theMethod : MethodId := ⟨1, 2⟩
def args0 : Array Value := #[.int 1, .int 2, .int 3, .int 4, .int 5, .int 6]
def aboutOver (below : List Frame) : State where
  vm := { classes := classes, interned := interned.toArray }
  heap := heap
  slotsUsed := slotsUsed
  threads := #[{ frames := .invoking theMethod args0 :: below }]
def below0 : List Frame := [.native { method := ⟨0, 0⟩, args := #[] }]
def about1 : State := aboutOver below0
def p0 : Program := .bare "" "" ""
def e0 : Env := launch0.env 0 0 0
theorem w_frames : about1.frames = Frame.invoking theMethod args0 :: below0 := rfl
set_option maxRecDepth 65536 in
theorem w_args : argsFit about1.vm theMethod args0 = true := by decide +kernel
set_option maxRecDepth 65536 in
theorem w_heap : heapFits about1 = true := by decide +kernel
set_option maxRecDepth 65536 in
theorem w_runnable : about1.curStatus? = some .runnable := by decide +kernel
set_option maxRecDepth 65536 in
theorem w_alone : about1.alone = true := by decide +kernel
set_option maxRecDepth 65536 in
theorem w_named : about1.methodNamed? x = some theMethod := by decide +kernel
set_option maxRecDepth 65536 in
theorem w_hears : about1.hears theMethod below0 = true := by decide +kernel
set_option maxRecDepth 65536 in
theorem w_ripe : about1.ripe theMethod args0 below0 = true := by decide +kernel
theorem w_running : about1.status = .running := rfl
set_option maxRecDepth 65536 in
theorem w_room : about1.hasRoom e0.platform room_1 = true :=
  launch0.hasRoom_least _ room_1 (by decide +kernel) (by decide +kernel) (by decide +kernel) (by decide +kernel) (by decide +kernel) (by decide +kernel)
theorem allAtoms_all (ts : List Jvm.Cond) (a : Array Jvm.Value) (st : Jvm.State) : (allAtoms ts).before a st = ts.all (fun c => c.before a st) := by
  induction ts with
  | nil => rfl
  | cons c t ih =>
    show (Jvm.Cond.and c (allAtoms t)).before a st = _
    rw [Jvm.Cond.before_and, ih, List.all_cons]
def words1 : List Jvm.Cond := Jvm.Cond.code x code maxLocals ret :: tables_1
/-- a 'code' word, met by the world's own term for the bytes: nothing is compared byte by byte -/
theorem code_word {y : MethodName} {bytes : ByteArray} {mx : Nat} {rt : Option FieldType} {a : Array Value} {s : State} {m : MethodId} {meth : Method} {c : Code} (h1 : s.methodNamed? y = some m) (h2 : s.vm.method? m = some meth) (h3 : meth.code = some c) (h4 : c.code = bytes)
    (h5 : (c.maxLocals == mx && c.exceptionTable.isEmpty && decide (c.maxStack ≤ mostOperands) && decide (meth.sig.returnType = rt) && !meth.locks && decide (parseMethodDescriptor y.desc = some meth.sig)) = true) : (Jvm.Cond.code y bytes mx rt).before a s = true := by
  simp only [Bool.and_eq_true, beq_iff_eq, Bool.not_eq_true', decide_eq_true_eq] at h5
  obtain ⟨⟨⟨⟨⟨g1, g2⟩, g3⟩, g4⟩, g5⟩, g6⟩ := h5
  simp [Cond.before, Cond.holds, Cond.value, h1, h2, h3, h4, g1, g2, g3, g4, g5, g6]
def isCode : Jvm.Cond → Bool
  | .code _ _ _ _ => true
  | _ => false
theorem all_split {L : List Jvm.Cond} {P : Jvm.Cond → Bool} (h1 : L.all (fun c => isCode c || P c) = true) (h2 : ∀ c ∈ L.filter isCode, P c = true) : L.all P = true := by
  refine List.all_eq_true.mpr fun c hc => ?_
  have h := List.all_eq_true.mp h1 c hc
  rcases Bool.eq_false_or_eq_true (isCode c) with hi | hi
  · exact h2 c (List.mem_filter.mpr ⟨hc, hi⟩)
  · simpa [hi] using h
set_option maxRecDepth 65536 in
theorem w_c0 : (Jvm.Cond.code x code maxLocals ret).before args0 about1 = true := code_word (m := ⟨1, 2⟩) (meth := k1m2) (c := k1c2) (by decide +kernel) rfl rfl rfl (by decide +kernel)
set_option maxRecDepth 65536 in
theorem w_c1 : (Jvm.Cond.code ({ cls := "tabulon/StringIndexNumberOfPinLaw", name := "str", desc := "(I)Ljava/lang/String;" } : Jvm.MethodName) method_2_code (5 : Nat) (Option.some (Jvm.ClassFile.FieldType.object "java/lang/String"))).before args0 about1 = true := code_word (m := ⟨1, 1⟩) (meth := k1m1) (c := k1c1) (by decide +kernel) rfl rfl rfl (by decide +kernel)
set_option maxRecDepth 65536 in
theorem w_c2 : (Jvm.Cond.code ({ cls := "java/lang/String", name := "<init>", desc := "([C)V" } : Jvm.MethodName) jdk_42_method_3_code (2 : Nat) (Option.none : Option Jvm.ClassFile.FieldType)).before args0 about1 = true := code_word (m := ⟨7, 1⟩) (meth := k7m1) (c := k7c1) (by decide +kernel) rfl rfl rfl (by decide +kernel)
set_option maxRecDepth 65536 in
theorem w_c3 : (Jvm.Cond.code ({ cls := "java/lang/String", name := "<init>", desc := "([CIILjava/lang/Void;)V" } : Jvm.MethodName) jdk_42_method_149_code (6 : Nat) (Option.none : Option Jvm.ClassFile.FieldType)).before args0 about1 = true := code_word (m := ⟨7, 5⟩) (meth := k7m5) (c := k7c5) (by decide +kernel) rfl rfl rfl (by decide +kernel)
set_option maxRecDepth 65536 in
theorem w_c4 : (Jvm.Cond.code ({ cls := "java/lang/Object", name := "<init>", desc := "()V" } : Jvm.MethodName) object_method_1_code (1 : Nat) (Option.none : Option Jvm.ClassFile.FieldType)).before args0 about1 = true := code_word (m := ⟨0, 0⟩) (meth := k0m0) (c := k0c0) (by decide +kernel) rfl rfl rfl (by decide +kernel)
set_option maxRecDepth 65536 in
theorem w_c5 : (Jvm.Cond.code ({ cls := "tabulon/StringIndex", name := "<init>", desc := "()V" } : Jvm.MethodName) prog_9_method_1_code (1 : Nat) (Option.none : Option Jvm.ClassFile.FieldType)).before args0 about1 = true := code_word (m := ⟨8, 0⟩) (meth := k8m0) (c := k8c0) (by decide +kernel) rfl rfl rfl (by decide +kernel)
set_option maxRecDepth 65536 in
theorem w_c6 : (Jvm.Cond.code ({ cls := "java/lang/Integer", name := "numberOfTrailingZeros", desc := "(I)I" } : Jvm.MethodName) jdk_33_method_48_code (2 : Nat) (Option.some Jvm.ClassFile.FieldType.int)).before args0 about1 = true := code_word (m := ⟨10, 0⟩) (meth := k10m0) (c := k10c0) (by decide +kernel) rfl rfl rfl (by decide +kernel)
set_option maxRecDepth 65536 in
theorem w_c7 : (Jvm.Cond.code ({ cls := "tabulon/StringIndex", name := "add", desc := "(Ljava/lang/String;)I" } : Jvm.MethodName) prog_9_method_2_code (4 : Nat) (Option.some Jvm.ClassFile.FieldType.int)).before args0 about1 = true := code_word (m := ⟨8, 1⟩) (meth := k8m1) (c := k8c1) (by decide +kernel) rfl rfl rfl (by decide +kernel)
set_option maxRecDepth 65536 in
theorem w_c8 : (Jvm.Cond.code ({ cls := "tabulon/StringIndex", name := "slot", desc := "(Ljava/lang/String;)I" } : Jvm.MethodName) prog_9_method_7_code (4 : Nat) (Option.some Jvm.ClassFile.FieldType.int)).before args0 about1 = true := code_word (m := ⟨8, 3⟩) (meth := k8m3) (c := k8c3) (by decide +kernel) rfl rfl rfl (by decide +kernel)
set_option maxRecDepth 65536 in
theorem w_c9 : (Jvm.Cond.code ({ cls := "java/lang/String", name := "hashCode", desc := "()I" } : Jvm.MethodName) jdk_42_method_78_code (2 : Nat) (Option.some Jvm.ClassFile.FieldType.int)).before args0 about1 = true := code_word (m := ⟨7, 3⟩) (meth := k7m3) (c := k7c3) (by decide +kernel) rfl rfl rfl (by decide +kernel)
set_option maxRecDepth 65536 in
theorem w_c10 : (Jvm.Cond.code ({ cls := "java/lang/String", name := "isLatin1", desc := "()Z" } : Jvm.MethodName) jdk_42_method_154_code (1 : Nat) (Option.some Jvm.ClassFile.FieldType.boolean)).before args0 about1 = true := code_word (m := ⟨7, 7⟩) (meth := k7m7) (c := k7c7) (by decide +kernel) rfl rfl rfl (by decide +kernel)
set_option maxRecDepth 65536 in
theorem w_c11 : (Jvm.Cond.code ({ cls := "java/lang/StringLatin1", name := "hashCode", desc := "([B)I" } : Jvm.MethodName) jdk_43_method_21_code (1 : Nat) (Option.some Jvm.ClassFile.FieldType.int)).before args0 about1 = true := code_word (m := ⟨11, 3⟩) (meth := k11m3) (c := k11c3) (by decide +kernel) rfl rfl rfl (by decide +kernel)
set_option maxRecDepth 65536 in
theorem w_c12 : (Jvm.Cond.code ({ cls := "java/lang/String", name := "equals", desc := "(Ljava/lang/Object;)Z" } : Jvm.MethodName) jdk_42_method_66_code (3 : Nat) (Option.some Jvm.ClassFile.FieldType.boolean)).before args0 about1 = true := code_word (m := ⟨7, 2⟩) (meth := k7m2) (c := k7c2) (by decide +kernel) rfl rfl rfl (by decide +kernel)
set_option maxRecDepth 65536 in
theorem w_c13 : (Jvm.Cond.code ({ cls := "java/lang/StringLatin1", name := "equals", desc := "([B[B)Z" } : Jvm.MethodName) jdk_43_method_13_code (3 : Nat) (Option.some Jvm.ClassFile.FieldType.boolean)).before args0 about1 = true := code_word (m := ⟨11, 2⟩) (meth := k11m2) (c := k11c2) (by decide +kernel) rfl rfl rfl (by decide +kernel)
set_option maxRecDepth 65536 in
theorem w_c14 : (Jvm.Cond.code ({ cls := "tabulon/StringIndex", name := "numberOf", desc := "(Ljava/lang/String;)I" } : Jvm.MethodName) prog_9_method_3_code (2 : Nat) (Option.some Jvm.ClassFile.FieldType.int)).before args0 about1 = true := code_word (m := ⟨8, 2⟩) (meth := k8m2) (c := k8c2) (by decide +kernel) rfl rfl rfl (by decide +kernel)
set_option maxRecDepth 65536 in
theorem w_c15 : (Jvm.Cond.code ({ cls := "java/lang/String", name := "valueOf", desc := "(C)Ljava/lang/String;" } : Jvm.MethodName) jdk_42_method_139_code (1 : Nat) (Option.some (Jvm.ClassFile.FieldType.object "java/lang/String"))).before args0 about1 = true := code_word (m := ⟨7, 4⟩) (meth := k7m4) (c := k7c4) (by decide +kernel) rfl rfl rfl (by decide +kernel)
set_option maxRecDepth 65536 in
theorem w_c16 : (Jvm.Cond.code ({ cls := "java/lang/StringLatin1", name := "canEncode", desc := "(C)Z" } : Jvm.MethodName) jdk_43_method_3_code (1 : Nat) (Option.some Jvm.ClassFile.FieldType.boolean)).before args0 about1 = true := code_word (m := ⟨11, 1⟩) (meth := k11m1) (c := k11c1) (by decide +kernel) rfl rfl rfl (by decide +kernel)
set_option maxRecDepth 65536 in
theorem w_c17 : (Jvm.Cond.code ({ cls := "java/lang/StringLatin1", name := "toBytes", desc := "(C)[B" } : Jvm.MethodName) jdk_43_method_46_code (1 : Nat) (Option.some (Jvm.ClassFile.FieldType.array Jvm.ClassFile.FieldType.byte))).before args0 about1 = true := code_word (m := ⟨11, 4⟩) (meth := k11m4) (c := k11c4) (by decide +kernel) rfl rfl rfl (by decide +kernel)
set_option maxRecDepth 65536 in
theorem w_c18 : (Jvm.Cond.code ({ cls := "java/lang/String", name := "<init>", desc := "([BB)V" } : Jvm.MethodName) jdk_42_method_151_code (3 : Nat) (Option.none : Option Jvm.ClassFile.FieldType)).before args0 about1 = true := code_word (m := ⟨7, 6⟩) (meth := k7m6) (c := k7c6) (by decide +kernel) rfl rfl rfl (by decide +kernel)
set_option maxRecDepth 65536 in
theorem w_c19 : (Jvm.Cond.code ({ cls := "java/lang/StringUTF16", name := "compress", desc := "([CII)[B" } : Jvm.MethodName) jdk_52_method_16_code (6 : Nat) (Option.some (Jvm.ClassFile.FieldType.array Jvm.ClassFile.FieldType.byte))).before args0 about1 = true := code_word (m := ⟨12, 2⟩) (meth := k12m2) (c := k12c2) (by decide +kernel) rfl rfl rfl (by decide +kernel)
set_option maxRecDepth 65536 in
theorem w_c20 : (Jvm.Cond.code ({ cls := "java/lang/StringUTF16", name := "compress", desc := "([CI[BII)I" } : Jvm.MethodName) jdk_52_method_21_code (7 : Nat) (Option.some Jvm.ClassFile.FieldType.int)).before args0 about1 = true := code_word (m := ⟨12, 3⟩) (meth := k12m3) (c := k12c3) (by decide +kernel) rfl rfl rfl (by decide +kernel)
set_option maxRecDepth 65536 in
theorem w_c21 : (Jvm.Cond.code ({ cls := "java/lang/StringUTF16", name := "coderFromArrayLen", desc := "([BI)B" } : Jvm.MethodName) jdk_52_method_15_code (2 : Nat) (Option.some Jvm.ClassFile.FieldType.byte)).before args0 about1 = true := code_word (m := ⟨12, 1⟩) (meth := k12m1) (c := k12c1) (by decide +kernel) rfl rfl rfl (by decide +kernel)
set_option maxRecDepth 65536 in
theorem w_c22 : (Jvm.Cond.code ({ cls := "jdk/internal/util/ArraysSupport", name := "vectorizedHashCode", desc := "(Ljava/lang/Object;IIII)I" } : Jvm.MethodName) jdk_48_method_4_code (5 : Nat) (Option.some Jvm.ClassFile.FieldType.int)).before args0 about1 = true := code_word (m := ⟨13, 1⟩) (meth := k13m1) (c := k13c1) (by decide +kernel) rfl rfl rfl (by decide +kernel)
set_option maxRecDepth 65536 in
theorem w_c23 : (Jvm.Cond.code ({ cls := "jdk/internal/util/ArraysSupport", name := "signedHashCode", desc := "(I[BII)I" } : Jvm.MethodName) jdk_48_method_5_code (6 : Nat) (Option.some Jvm.ClassFile.FieldType.int)).before args0 about1 = true := code_word (m := ⟨13, 2⟩) (meth := k13m2) (c := k13c2) (by decide +kernel) rfl rfl rfl (by decide +kernel)
def codes1 : List Jvm.Cond := [Jvm.Cond.code x code maxLocals ret, Jvm.Cond.code ({ cls := "tabulon/StringIndexNumberOfPinLaw", name := "str", desc := "(I)Ljava/lang/String;" } : Jvm.MethodName) method_2_code (5 : Nat) (Option.some (Jvm.ClassFile.FieldType.object "java/lang/String")), Jvm.Cond.code ({ cls := "java/lang/String", name := "<init>", desc := "([C)V" } : Jvm.MethodName) jdk_42_method_3_code (2 : Nat) (Option.none : Option Jvm.ClassFile.FieldType), Jvm.Cond.code ({ cls := "java/lang/String", name := "<init>", desc := "([CIILjava/lang/Void;)V" } : Jvm.MethodName) jdk_42_method_149_code (6 : Nat) (Option.none : Option Jvm.ClassFile.FieldType), Jvm.Cond.code ({ cls := "java/lang/Object", name := "<init>", desc := "()V" } : Jvm.MethodName) object_method_1_code (1 : Nat) (Option.none : Option Jvm.ClassFile.FieldType), Jvm.Cond.code ({ cls := "tabulon/StringIndex", name := "<init>", desc := "()V" } : Jvm.MethodName) prog_9_method_1_code (1 : Nat) (Option.none : Option Jvm.ClassFile.FieldType), Jvm.Cond.code ({ cls := "java/lang/Integer", name := "numberOfTrailingZeros", desc := "(I)I" } : Jvm.MethodName) jdk_33_method_48_code (2 : Nat) (Option.some Jvm.ClassFile.FieldType.int), Jvm.Cond.code ({ cls := "tabulon/StringIndex", name := "add", desc := "(Ljava/lang/String;)I" } : Jvm.MethodName) prog_9_method_2_code (4 : Nat) (Option.some Jvm.ClassFile.FieldType.int), Jvm.Cond.code ({ cls := "tabulon/StringIndex", name := "slot", desc := "(Ljava/lang/String;)I" } : Jvm.MethodName) prog_9_method_7_code (4 : Nat) (Option.some Jvm.ClassFile.FieldType.int), Jvm.Cond.code ({ cls := "java/lang/String", name := "hashCode", desc := "()I" } : Jvm.MethodName) jdk_42_method_78_code (2 : Nat) (Option.some Jvm.ClassFile.FieldType.int), Jvm.Cond.code ({ cls := "java/lang/String", name := "isLatin1", desc := "()Z" } : Jvm.MethodName) jdk_42_method_154_code (1 : Nat) (Option.some Jvm.ClassFile.FieldType.boolean), Jvm.Cond.code ({ cls := "java/lang/StringLatin1", name := "hashCode", desc := "([B)I" } : Jvm.MethodName) jdk_43_method_21_code (1 : Nat) (Option.some Jvm.ClassFile.FieldType.int), Jvm.Cond.code ({ cls := "java/lang/String", name := "equals", desc := "(Ljava/lang/Object;)Z" } : Jvm.MethodName) jdk_42_method_66_code (3 : Nat) (Option.some Jvm.ClassFile.FieldType.boolean), Jvm.Cond.code ({ cls := "java/lang/StringLatin1", name := "equals", desc := "([B[B)Z" } : Jvm.MethodName) jdk_43_method_13_code (3 : Nat) (Option.some Jvm.ClassFile.FieldType.boolean), Jvm.Cond.code ({ cls := "tabulon/StringIndex", name := "numberOf", desc := "(Ljava/lang/String;)I" } : Jvm.MethodName) prog_9_method_3_code (2 : Nat) (Option.some Jvm.ClassFile.FieldType.int), Jvm.Cond.code ({ cls := "java/lang/String", name := "valueOf", desc := "(C)Ljava/lang/String;" } : Jvm.MethodName) jdk_42_method_139_code (1 : Nat) (Option.some (Jvm.ClassFile.FieldType.object "java/lang/String")), Jvm.Cond.code ({ cls := "java/lang/StringLatin1", name := "canEncode", desc := "(C)Z" } : Jvm.MethodName) jdk_43_method_3_code (1 : Nat) (Option.some Jvm.ClassFile.FieldType.boolean), Jvm.Cond.code ({ cls := "java/lang/StringLatin1", name := "toBytes", desc := "(C)[B" } : Jvm.MethodName) jdk_43_method_46_code (1 : Nat) (Option.some (Jvm.ClassFile.FieldType.array Jvm.ClassFile.FieldType.byte)), Jvm.Cond.code ({ cls := "java/lang/String", name := "<init>", desc := "([BB)V" } : Jvm.MethodName) jdk_42_method_151_code (3 : Nat) (Option.none : Option Jvm.ClassFile.FieldType), Jvm.Cond.code ({ cls := "java/lang/StringUTF16", name := "compress", desc := "([CII)[B" } : Jvm.MethodName) jdk_52_method_16_code (6 : Nat) (Option.some (Jvm.ClassFile.FieldType.array Jvm.ClassFile.FieldType.byte)), Jvm.Cond.code ({ cls := "java/lang/StringUTF16", name := "compress", desc := "([CI[BII)I" } : Jvm.MethodName) jdk_52_method_21_code (7 : Nat) (Option.some Jvm.ClassFile.FieldType.int), Jvm.Cond.code ({ cls := "java/lang/StringUTF16", name := "coderFromArrayLen", desc := "([BI)B" } : Jvm.MethodName) jdk_52_method_15_code (2 : Nat) (Option.some Jvm.ClassFile.FieldType.byte), Jvm.Cond.code ({ cls := "jdk/internal/util/ArraysSupport", name := "vectorizedHashCode", desc := "(Ljava/lang/Object;IIII)I" } : Jvm.MethodName) jdk_48_method_4_code (5 : Nat) (Option.some Jvm.ClassFile.FieldType.int), Jvm.Cond.code ({ cls := "jdk/internal/util/ArraysSupport", name := "signedHashCode", desc := "(I[BII)I" } : Jvm.MethodName) jdk_48_method_5_code (6 : Nat) (Option.some Jvm.ClassFile.FieldType.int)]
set_option maxRecDepth 65536 in
theorem codes_eq : words1.filter isCode = codes1 := rfl
theorem w_codes : ∀ c ∈ words1.filter isCode, c.before args0 about1 = true := by
  rw [codes_eq]
  intro c hc
  simp only [codes1, List.mem_cons, List.not_mem_nil, or_false] at hc
  rcases hc with rfl | rfl | rfl | rfl | rfl | rfl | rfl | rfl | rfl | rfl | rfl | rfl | rfl | rfl | rfl | rfl | rfl | rfl | rfl | rfl | rfl | rfl | rfl | rfl
  · exact w_c0
  · exact w_c1
  · exact w_c2
  · exact w_c3
  · exact w_c4
  · exact w_c5
  · exact w_c6
  · exact w_c7
  · exact w_c8
  · exact w_c9
  · exact w_c10
  · exact w_c11
  · exact w_c12
  · exact w_c13
  · exact w_c14
  · exact w_c15
  · exact w_c16
  · exact w_c17
  · exact w_c18
  · exact w_c19
  · exact w_c20
  · exact w_c21
  · exact w_c22
  · exact w_c23
set_option maxRecDepth 65536 in
theorem w_t1 : (words1.take 24).all (fun c => isCode c || c.before args0 about1) = true := by decide +kernel
set_option maxRecDepth 65536 in
theorem w_t2 : ((words1.drop 24).take 24).all (fun c => isCode c || c.before args0 about1) = true := by decide +kernel
set_option maxRecDepth 65536 in
theorem w_t3 : (((words1.drop 24).drop 24).take 24).all (fun c => isCode c || c.before args0 about1) = true := by decide +kernel
set_option maxRecDepth 65536 in
theorem w_t4 : ((((words1.drop 24).drop 24).drop 24).take 24).all (fun c => isCode c || c.before args0 about1) = true := by decide +kernel
set_option maxRecDepth 65536 in
theorem w_t5 : (((((words1.drop 24).drop 24).drop 24).drop 24).take 24).all (fun c => isCode c || c.before args0 about1) = true := by decide +kernel
set_option maxRecDepth 65536 in
theorem w_t6 : (((((words1.drop 24).drop 24).drop 24).drop 24).drop 24).all (fun c => isCode c || c.before args0 about1) = true := by decide +kernel
theorem w_tables : (allAtoms (Jvm.Cond.code x code maxLocals ret :: tables_1)).before args0 about1 = true := by
  rw [allAtoms_all]
  show words1.all (fun c => c.before args0 about1) = true
  refine all_split ?_ w_codes
  rw [← List.take_append_drop 24 words1, List.all_append, w_t1, ← List.take_append_drop 24 (words1.drop 24), List.all_append, w_t2, ← List.take_append_drop 24 ((words1.drop 24).drop 24), List.all_append, w_t3, ← List.take_append_drop 24 (((words1.drop 24).drop 24).drop 24), List.all_append, w_t4, ← List.take_append_drop 24 ((((words1.drop 24).drop 24).drop 24).drop 24), List.all_append, w_t5, w_t6]
  rfl
set_option maxRecDepth 65536 in
theorem w_rest : rest_1_c.before args0 about1 = true := by decide +kernel
set_option maxRecDepth 65536 in
theorem w_case : (Jvm.Cond.and given_1 narrow_1).before args0 about1 = true := by decide +kernel
set_option maxRecDepth 65536 in
theorem w_consts : constsHeld consts_1 about1 := Jvm.Lit.constsHeldB_iff.mp (by decide +kernel)
theorem w_applies : (headSpec (Jvm.Cond.code x code maxLocals ret :: tables_1) room_1).applies x e0.platform about1 = true :=
  (Spec.applies_iff w_frames).mpr ⟨w_running, w_runnable, w_alone, w_named, w_hears, w_ripe, w_room, w_tables⟩
theorem atStart : AtStart classFile x code maxLocals ret World_1 tables_1 room_1 Calls_1 rest_1 Pre_1 launch0 p0 e0 about1 theMethod args0 below0 :=
  ⟨lists_1, trivial, launch0.admits_env _ _ _, launch0.least_env, fairChoices_fair.cas, fairChoices_fair.clock, w_frames, w_args, w_heap, w_applies, ⟨w_consts, trivial⟩, w_rest, w_case⟩
end start1
theorem witness_1 : WitnessClaimed_1 := ⟨start1.p0, start1.e0, start1.about1, start1.theMethod, start1.args0, start1.below0, start1.atStart⟩
end Jvm.Pilot.@@N@@
