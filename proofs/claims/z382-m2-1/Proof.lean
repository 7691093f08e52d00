import JvmDerived
import JvmDerived.Pilot.@@N@@Statement
import JvmDerived.Pilot.@@N@@Code
set_option linter.unusedVariables false
set_option linter.unusedSimpArgs false
/- laws to paste: Road.backV (cut by pick.py; bodies as the Statement names them) -/
namespace Jvm.Pilot.@@N@@
namespace StrChars
open Jvm Sem ClassFile Op Lib Jvm.Stand Jvm.Free.XT Jvm.Free.ALB Jvm.Free.JM Jvm.Free
open Jvm.Lib.Cold (StaticIs)
/-- a char array whose places are chars -/
def Ch (a : Addr) (A : Cell) (U : State) : Prop := Arr .char a A U ∧ Typed .char A
theorem Ch.mv {a : Addr} {A : Cell} {U U' : State} (h : Ch a A U) (hal : U.vm.Alike U'.vm) (hh : U'.heap = U.heap) : Ch a A U' := ⟨h.1.mv hal hh, h.2⟩
theorem Ch.keep {a : Addr} {A : Cell} {U U' : State} (h : Ch a A U) (hal : U.vm.Alike U'.vm) (hk : U'.heap[a]? = some A) : Ch a A U' := ⟨h.1.keep hal hk, h.2⟩
/-- what place i of a char[]'s cell holds -/
def cv (A : Cell) (i : Nat) : Int32 := match A.slots[i]? with | some (.int x) => x | _ => 0
theorem Ch.get {a : Addr} {A : Cell} {U : State} (h : Ch a A U) {i : Nat} (hi : i < A.slots.size) : A.slots[i]? = some (.int (cv A i)) := by
  have e := Array.getElem?_eq_getElem hi
  have f := h.2 i _ e
  unfold cv; rw [e]
  generalize A.slots[i] = v at f
  cases v <;> simp [fits] at f ⊢
/-- the byte that i2b leaves of a char -/
def lo8 (x : Int32) : Int32 := x.toInt8.toInt32
theorem fits_lo8 (y : Int32) : fits .byte (.int (lo8 y)) = true := by
  have h1 := y.toInt8.le_toInt
  have h2 := y.toInt8.toInt_lt
  simp only [lo8, fits, Bool.and_eq_true, decide_eq_true_eq, Int32.le_iff_toInt_le, Int8.toInt_toInt32, show (-128 : Int32).toInt = -128 from by decide, show (127 : Int32).toInt = 127 from by decide]
  omega
/-- A' is A but that each place j of lo .. hi - 1 holds f j -/
def Laid (A A' : Cell) (lo hi : Nat) (f : Nat → Value) : Prop := A'.cls = A.cls ∧ A'.vm = A.vm ∧ A'.slots.size = A.slots.size ∧ ∀ i, A'.slots[i]? = if lo ≤ i ∧ i < hi then some (f i) else A.slots[i]?
theorem Laid.zero (A : Cell) (lo : Nat) (f : Nat → Value) : Laid A A lo (lo + 0) f := ⟨rfl, rfl, rfl, fun i => by rw [if_neg (by omega)]⟩
theorem Laid.step {A Ak : Cell} {lo k : Nat} {f : Nat → Value} {v : Value} (h : Laid A Ak lo k f) (hlo : lo ≤ k) (hk : k < Ak.slots.size) (hv : v = f k) : Laid A (Ak.setSlot k v) lo (k + 1) f := by
  refine ⟨h.1, h.2.1, by simpa [Cell.setSlot] using h.2.2.1, fun i => ?_⟩
  by_cases e : k = i
  · subst e; rw [Cell.slots_setSlot_self v hk, if_pos (by omega), hv]
  · rw [Cell.slots_setSlot_ne v e, h.2.2.2 i]
    by_cases q : lo ≤ i ∧ i < k
    · rw [if_pos q, if_pos (by omega)]
    · rw [if_neg q, if_neg (by omega)]
def U16 : String := "java/lang/StringUTF16"
namespace Cmp5
def yN : MethodName := ⟨"java/lang/StringUTF16", "compress", "([CI[BII)I"⟩
abbrev yB : ByteArray := jdk_52_method_21_code
theorem d0 : decode yB 0 = .ok (.iconst 0, 1) := by decide +kernel
theorem d1 : decode yB 1 = .ok (.istore 5, 2) := by decide +kernel
theorem d3 : decode yB 3 = .ok (.iload 5, 2) := by decide +kernel
theorem d5 : decode yB 5 = .ok (.iload 4, 2) := by decide +kernel
theorem d7 : decode yB 7 = .ok (.if_icmp (.ge) 37, 3) := by decide +kernel
theorem d10 : decode yB 10 = .ok (.aload_n 0, 1) := by decide +kernel
theorem d11 : decode yB 11 = .ok (.iload_n 1, 1) := by decide +kernel
theorem d12 : decode yB 12 = .ok (.caload, 1) := by decide +kernel
theorem d13 : decode yB 13 = .ok (.istore 6, 2) := by decide +kernel
theorem d15 : decode yB 15 = .ok (.iload 6, 2) := by decide +kernel
theorem d17 : decode yB 17 = .ok (.sipush 255, 3) := by decide +kernel
theorem d20 : decode yB 20 = .ok (.if_icmp (.le) 6, 3) := by decide +kernel
theorem d26 : decode yB 26 = .ok (.aload_n 2, 1) := by decide +kernel
theorem d27 : decode yB 27 = .ok (.iload_n 3, 1) := by decide +kernel
theorem d28 : decode yB 28 = .ok (.iload 6, 2) := by decide +kernel
theorem d30 : decode yB 30 = .ok (.i2b, 1) := by decide +kernel
theorem d31 : decode yB 31 = .ok (.bastore, 1) := by decide +kernel
theorem d32 : decode yB 32 = .ok (.iinc 1 1, 3) := by decide +kernel
theorem d35 : decode yB 35 = .ok (.iinc 3 1, 3) := by decide +kernel
theorem d38 : decode yB 38 = .ok (.iinc 5 1, 3) := by decide +kernel
theorem d41 : decode yB 41 = .ok (.goto (-38), 3) := by decide +kernel
theorem d44 : decode yB 44 = .ok (.iload 4, 2) := by decide +kernel
theorem d46 : decode yB 46 = .ok (.ireturn, 1) := by decide +kernel
def site : List Cond := []
def tab : Cond := tabOf yN yB 7 (some .int) site
def P (b : Addr) (A : Cell) (d : Addr) (B : Cell) (o q len : Nat) (args : Array Value) (s : State) : Prop := args = #[.ref b, .int (Int32.ofNat o), .ref d, .int (Int32.ofNat q), .int (Int32.ofNat len)] ∧ Ch b A s ∧ Arr .byte d B s ∧ b ≠ d ∧ o + len ≤ A.slots.size ∧ q + len ≤ B.slots.size ∧ ∀ i, i < len → ¬ 255 < cv A (o + i)
def E (b : Addr) (A : Cell) (d : Addr) (B : Cell) (o q len : Nat) (r : Option Value) (s u : State) : Prop := r = some (.int (Int32.ofNat len)) ∧ ∃ B', Put d B' s u ∧ Laid B B' q (q + len) (fun j => Value.int (lo8 (cv A (o + (j - q)))))
/-- no char of the range above 255: len; the places written hold each char's low byte -/
theorem law (l : Launch) (b : Addr) (A : Cell) (d : Addr) (B : Cell) (o q len : Nat) : Law l yN 5 5 0 0 yB 7 (some .int) site (P b A d B o q len) (E b A d B o q len) (copyLocs d q len) 0 0 := by
  refine Law.of_walk (plainFor_of_name (by decide +kernel)) (by decide +kernel) (by decide +kernel) (by decide) (fun _ _ h => by rw [h.1]; rfl) (fun _ U U' hal hh h => ⟨h.1, h.2.1.mv hal hh, h.2.2.1.mv hal hh, h.2.2.2⟩) (fun r U U' V V' h1 hal h2 h => ⟨h.1, h.2.elim fun B' q => ⟨B', q.1.mv h1 h2, q.2⟩⟩) ?_
  intro p e s m args below meth c s₁ X0 hexec hbytes hml hret hlk hnm hown hh0 W hP
  obtain ⟨rfl, hA, hB, hne, l1, l2, hp⟩ := hP
  have c1 : Steps p.tables e below (s₁.setTop (entryFrame m #[.ref b, .int (Int32.ofNat o), .ref d, .int (Int32.ofNat q), .int (Int32.ofNat len)] 7)) (s₁.setTop (mkF m 0 #[.val (.ref b), .val (.int (Int32.ofNat o)), .val (.ref d), .val (.int (Int32.ofNat q)), .val (.int (Int32.ofNat len)), .unset, .unset] [])) := entry rfl
  have hA0 := hA.1.mv X0.warmed.alike hh0
  have hB0 := hB.mv X0.warmed.alike hh0
  have a31 := hA.1.2.2.2
  have c2 : Steps p.tables e below (s₁.setTop (entryFrame m #[.ref b, .int (Int32.ofNat o), .ref d, .int (Int32.ofNat q), .int (Int32.ofNat len)] 7)) (s₁.setTop (mkF m 3 #[.val (.ref b), .val (.int (Int32.ofNat o)), .val (.ref d), .val (.int (Int32.ofNat q)), .val (.int (Int32.ofNat len)), .val (.int 0), .unset] [])) := c1.trans (by
    refine iconstV X0.here hexec rfl 0 (hb hbytes d0) (by decide) ?_
    refine XS.istore X0.here hexec rfl (hb hbytes d1) rfl rfl ?_
    exact Steps.refl _)
  have loop : ∀ (r i : Nat), i + r = len → ∀ (z : Slot), (z = .unset ∨ ∃ w, z = .val w ∧ w.category = 1) → ∀ (Tl : State) (Bk : Cell), Stand p l e { frames := 0, locals := 0, cells := 0, slots := 0 } s m #[.ref b, .int (Int32.ofNat o), .ref d, .int (Int32.ofNat q), .int (Int32.ofNat len)] below meth c Tl ([] ++ copyLocs d q i) 0 0 → Put d Bk s₁ Tl → Laid B Bk q (q + i) (fun j => Value.int (lo8 (cv A (o + (j - q))))) →
      Steps p.tables e below (s₁.setTop (entryFrame m #[.ref b, .int (Int32.ofNat o), .ref d, .int (Int32.ofNat q), .int (Int32.ofNat len)] 7)) (Tl.setTop (mkF m 3 #[.val (.ref b), .val (.int (Int32.ofNat (o + i))), .val (.ref d), .val (.int (Int32.ofNat (q + i))), .val (.int (Int32.ofNat len)), .val (.int (Int32.ofNat i)), z] [])) → ∃ (T' : State) (B' : Cell) (z' : Slot), Stand p l e { frames := 0, locals := 0, cells := 0, slots := 0 } s m #[.ref b, .int (Int32.ofNat o), .ref d, .int (Int32.ofNat q), .int (Int32.ofNat len)] below meth c T' ([] ++ copyLocs d q len) 0 0 ∧ Put d B' s₁ T' ∧ Laid B B' q (q + len) (fun j => Value.int (lo8 (cv A (o + (j - q))))) ∧
      Steps p.tables e below (s₁.setTop (entryFrame m #[.ref b, .int (Int32.ofNat o), .ref d, .int (Int32.ofNat q), .int (Int32.ofNat len)] 7)) (T'.setTop (mkF m 3 #[.val (.ref b), .val (.int (Int32.ofNat (o + len))), .val (.ref d), .val (.int (Int32.ofNat (q + len))), .val (.int (Int32.ofNat len)), .val (.int (Int32.ofNat len)), z'] [])) := by
    intro r
    induction r with
    | zero =>
      intro i hi z hz Tl Bk Xl pl fl cl
      have hil : i = len := by omega
      rw [hil] at Xl fl cl
      exact ⟨Tl, Bk, z, Xl, pl, fl, cl⟩
    | succ r ih =>
      intro i hi z hz Tl Bk Xl pl fl cl
      have all := X0.warmed.alike.symm.trans Xl.warmed.alike
      have hAl := hA0.keep all (pl.other hne hA0.1)
      have hBk := hB0.like all pl.1 fl.1 fl.2.1 fl.2.2.1
      have hlt : q + i < Bk.slots.size := by rw [fl.2.2.1]; omega
      have c3 : Steps p.tables e below (s₁.setTop (entryFrame m #[.ref b, .int (Int32.ofNat o), .ref d, .int (Int32.ofNat q), .int (Int32.ofNat len)] 7)) (Tl.setTop (mkF m 12 #[.val (.ref b), .val (.int (Int32.ofNat (o + i))), .val (.ref d), .val (.int (Int32.ofNat (q + i))), .val (.int (Int32.ofNat len)), .val (.int (Int32.ofNat i)), z] [.int (Int32.ofNat (o + i)), .ref b])) := cl.trans (by
        refine XS.iload Xl.here hexec rfl (hb hbytes d3) rfl ?_
        refine XS.iload Xl.here hexec rfl (hb hbytes d5) rfl ?_
        refine XS.icmpNo Xl.here hexec rfl (hb hbytes d7) rfl (ii_ge_f (lt32 (by omega) (by omega))) ?_
        refine XS.aloadN Xl.here hexec rfl (hb hbytes d10) rfl rfl ?_
        refine XS.iloadN Xl.here hexec rfl (hb hbytes d11) rfl ?_
        exact Steps.refl _)
      have c4 : Steps p.tables e below (s₁.setTop (entryFrame m #[.ref b, .int (Int32.ofNat o), .ref d, .int (Int32.ofNat q), .int (Int32.ofNat len)] 7)) (Tl.setTop (mkF m 13 #[.val (.ref b), .val (.int (Int32.ofNat (o + i))), .val (.ref d), .val (.int (Int32.ofNat (q + i))), .val (.int (Int32.ofNat len)), .val (.int (Int32.ofNat i)), z] [.int (cv A (o + i))])) := c3.trans (by
        refine Xl.aget hexec hAl rfl (hA.get (i := o + i) (by omega)) rfl rfl (hb hbytes d12) ?_
        exact Steps.refl _)
      have c5 : Steps p.tables e below (s₁.setTop (entryFrame m #[.ref b, .int (Int32.ofNat o), .ref d, .int (Int32.ofNat q), .int (Int32.ofNat len)] 7)) (Tl.setTop (mkF m 15 #[.val (.ref b), .val (.int (Int32.ofNat (o + i))), .val (.ref d), .val (.int (Int32.ofNat (q + i))), .val (.int (Int32.ofNat len)), .val (.int (Int32.ofNat i)), .val (.int (cv A (o + i)))] [])) := c4.trans (by
        refine XS.istoreS Xl.here hexec rfl (hb hbytes d13) rfl rfl hz ?_
        exact Steps.refl _)
      have c6 : Steps p.tables e below (s₁.setTop (entryFrame m #[.ref b, .int (Int32.ofNat o), .ref d, .int (Int32.ofNat q), .int (Int32.ofNat len)] 7)) (Tl.setTop (mkF m 31 #[.val (.ref b), .val (.int (Int32.ofNat (o + i))), .val (.ref d), .val (.int (Int32.ofNat (q + i))), .val (.int (Int32.ofNat len)), .val (.int (Int32.ofNat i)), .val (.int (cv A (o + i)))] [.int (lo8 (cv A (o + i))), .int (Int32.ofNat (q + i)), .ref d])) := c5.trans (by
        refine XS.iload Xl.here hexec rfl (hb hbytes d15) rfl ?_
        refine sipushV Xl.here hexec rfl 255 (hb hbytes d17) (by decide) ?_
        refine XS.icmpYes Xl.here hexec rfl (pc0 := 20) rfl (hb hbytes d20) rfl (ii_le_t (hp i (by omega))) (by decide) rfl ?_
        refine XS.aloadN Xl.here hexec rfl (hb hbytes d26) rfl rfl ?_
        refine XS.iloadN Xl.here hexec rfl (hb hbytes d27) rfl ?_
        refine XS.iload Xl.here hexec rfl (hb hbytes d28) rfl ?_
        refine i2b Xl.here hexec rfl (hb hbytes d30) rfl ?_
        exact Steps.refl _)
      obtain ⟨T7, X7, p7, st7⟩ := Xl.aput hexec hBk rfl hlt rfl (fits_lo8 (cv A (o + i))) (g := (mkF m 31 #[.val (.ref b), .val (.int (Int32.ofNat (o + i))), .val (.ref d), .val (.int (Int32.ofNat (q + i))), .val (.int (Int32.ofNat len)), .val (.int (Int32.ofNat i)), .val (.int (cv A (o + i)))] [.int (lo8 (cv A (o + i))), .int (Int32.ofNat (q + i)), .ref d])) rfl (rest := []) rfl (hb hbytes d31)
      have c8 : Steps p.tables e below (s₁.setTop (entryFrame m #[.ref b, .int (Int32.ofNat o), .ref d, .int (Int32.ofNat q), .int (Int32.ofNat len)] 7)) (T7.setTop (mkF m 32 #[.val (.ref b), .val (.int (Int32.ofNat (o + i))), .val (.ref d), .val (.int (Int32.ofNat (q + i))), .val (.int (Int32.ofNat len)), .val (.int (Int32.ofNat i)), .val (.int (cv A (o + i)))] [])) := c6.trans (st7 _ (Steps.refl _))
      have c9 : Steps p.tables e below (s₁.setTop (entryFrame m #[.ref b, .int (Int32.ofNat o), .ref d, .int (Int32.ofNat q), .int (Int32.ofNat len)] 7)) (T7.setTop (mkF m 3 #[.val (.ref b), .val (.int (Int32.ofNat (o + i) + 1)), .val (.ref d), .val (.int (Int32.ofNat (q + i) + 1)), .val (.int (Int32.ofNat len)), .val (.int (Int32.ofNat i + 1)), .val (.int (cv A (o + i)))] [])) := c8.trans (by
        refine iincV X7.here hexec rfl 1 (hb hbytes d32) (by decide) rfl rfl ?_
        refine iincV X7.here hexec rfl 1 (hb hbytes d35) (by decide) rfl rfl ?_
        refine iincV X7.here hexec rfl 1 (hb hbytes d38) (by decide) rfl rfl ?_
        refine XS.goto X7.here hexec rfl (pc0 := 41) rfl (hb hbytes d41) (by decide) rfl ?_
        exact Steps.refl _)
      have c10 : Steps p.tables e below (s₁.setTop (entryFrame m #[.ref b, .int (Int32.ofNat o), .ref d, .int (Int32.ofNat q), .int (Int32.ofNat len)] 7)) (T7.setTop (mkF m 3 #[.val (.ref b), .val (.int (Int32.ofNat (o + (i + 1)))), .val (.ref d), .val (.int (Int32.ofNat (q + (i + 1)))), .val (.int (Int32.ofNat len)), .val (.int (Int32.ofNat (i + 1))), .val (.int (cv A (o + i)))] [])) := by
        have := c9
        rw [succ32, succ32, succ32] at this
        exact this
      exact ih (i + 1) (by omega) _ (Or.inr ⟨_, rfl, rfl⟩) T7 _ (by rw [copyLocs_step, ← List.append_assoc]; exact X7) (pl.trans p7) (fl.step (by omega) hlt (by simp)) c10
  obtain ⟨T9, B9, z9, X9, p9, f9, g9⟩ := loop len 0 (by omega) .unset (Or.inl rfl) s₁ B (by simpa [copyLocs] using X0) ⟨hB0.1, fun _ _ => rfl, rfl⟩ (Laid.zero _ _ _) c2
  have c11 : Steps p.tables e below (s₁.setTop (entryFrame m #[.ref b, .int (Int32.ofNat o), .ref d, .int (Int32.ofNat q), .int (Int32.ofNat len)] 7)) (T9.setTop (mkF m 46 #[.val (.ref b), .val (.int (Int32.ofNat (o + len))), .val (.ref d), .val (.int (Int32.ofNat (q + len))), .val (.int (Int32.ofNat len)), .val (.int (Int32.ofNat len)), z9] [.int (Int32.ofNat len)])) := g9.trans (by
    refine XS.iload X9.here hexec rfl (hb hbytes d3) rfl ?_
    refine XS.iload X9.here hexec rfl (hb hbytes d5) rfl ?_
    refine XS.icmpYes X9.here hexec rfl (pc0 := 7) rfl (hb hbytes d7) rfl (ii_ge_t (nlt32 (by omega) (Nat.le_refl _))) (by decide) rfl ?_
    refine XS.iload X9.here hexec rfl (hb hbytes d44) rfl ?_
    exact Steps.refl _)
  exact ⟨T9, some (.int (Int32.ofNat len)), _, _, _, X9, by simp, rfl, rfl, (fun h => by cases h), ⟨rfl, B9, p9.from hh0, f9⟩, fun fs hl => c11.trans (X9.ireturnOut hexec hret rfl (Or.inl rfl) (hb hbytes d46) hl)⟩
end Cmp5
namespace Cmp3
def yN : MethodName := ⟨"java/lang/StringUTF16", "compress", "([CII)[B"⟩
abbrev yB : ByteArray := jdk_52_method_16_code
theorem d0 : decode yB 0 = .ok (.iload_n 2, 1) := by decide +kernel
theorem d1 : decode yB 1 = .ok (.newarray .byte, 2) := by decide +kernel
theorem d3 : decode yB 3 = .ok (.astore_n 3, 1) := by decide +kernel
theorem d4 : decode yB 4 = .ok (.aload_n 0, 1) := by decide +kernel
theorem d5 : decode yB 5 = .ok (.iload_n 1, 1) := by decide +kernel
theorem d6 : decode yB 6 = .ok (.aload_n 3, 1) := by decide +kernel
theorem d7 : decode yB 7 = .ok (.iconst 0, 1) := by decide +kernel
theorem d8 : decode yB 8 = .ok (.iload_n 2, 1) := by decide +kernel
theorem d9 : decode yB 9 = .ok (.invokestatic 115, 3) := by decide +kernel
theorem d12 : decode yB 12 = .ok (.istore 4, 2) := by decide +kernel
theorem d14 : decode yB 14 = .ok (.iload 4, 2) := by decide +kernel
theorem d16 : decode yB 16 = .ok (.iload_n 2, 1) := by decide +kernel
theorem d17 : decode yB 17 = .ok (.if_icmp (.eq) 40, 3) := by decide +kernel
theorem d57 : decode yB 57 = .ok (.aload_n 3, 1) := by decide +kernel
theorem d58 : decode yB 58 = .ok (.areturn, 1) := by decide +kernel
def site : List Cond := [.arrayClass .byte, Cmp5.tab] ++ staticW U16 115 Cmp5.yN
def tab : Cond := tabOf yN yB 6 (some (.array .byte)) site
def P (b : Addr) (A : Cell) (o len : Nat) (args : Array Value) (s : State) : Prop := args = #[.ref b, .int (Int32.ofNat o), .int (Int32.ofNat len)] ∧ Ch b A s ∧ o + len ≤ A.slots.size ∧ len ≤ 536870912 ∧ ∀ i, i < len → ¬ 255 < cv A (o + i)
def E (b : Addr) (A : Cell) (o len : Nat) (r : Option Value) (s u : State) : Prop := NewArr .byte "[B" len (fun j => .int (lo8 (cv A (o + j)))) r s u ∧ u.heap.size = s.heap.size + 1
/-- no char of the range above 255: a new byte[] of their low bytes -/
theorem law (l : Launch) (b : Addr) (A : Cell) (o len : Nat) : Law l yN 3 3 1 18 yB 6 (some (.array .byte)) site (P b A o len) (E b A o len) [] 1 len := by
  refine Law.of_walk (plainFor_of_name (by decide +kernel)) (by decide +kernel) (by decide +kernel) (by decide) (fun _ _ h => by rw [h.1]; rfl) (fun _ U U' hal hh h => ⟨h.1, h.2.1.mv hal hh, h.2.2⟩) (fun r U U' V V' h1 hal h2 h => ⟨NewArr.mv r U U' V V' h1 hal h2 h.1, by rw [h1, h2]; exact h.2⟩) ?_
  intro p e s m args below meth c s₁ X0 hexec hbytes hml hret hlk hnm hown hh0 W hP
  obtain ⟨rfl, hA, l1, l2, hp⟩ := hP
  have a31 := hA.1.2.2.2
  have c1 : Steps p.tables e below (s₁.setTop (entryFrame m #[.ref b, .int (Int32.ofNat o), .int (Int32.ofNat len)] 6)) (s₁.setTop (mkF m 0 #[.val (.ref b), .val (.int (Int32.ofNat o)), .val (.int (Int32.ofNat len)), .unset, .unset, .unset] [])) := entry rfl
  have c2 : Steps p.tables e below (s₁.setTop (entryFrame m #[.ref b, .int (Int32.ofNat o), .int (Int32.ofNat len)] 6)) (s₁.setTop (mkF m 1 #[.val (.ref b), .val (.int (Int32.ofNat o)), .val (.int (Int32.ofNat len)), .unset, .unset, .unset] [.int (Int32.ofNat len)])) := c1.trans (by
    refine XS.iloadN X0.here hexec rfl (hb hbytes d0) rfl ?_
    exact Steps.refl _)
  obtain ⟨T3, B3, X3, ba3, bs3, bv3, bh3, bf3, st3⟩ := X0.anew hexec (atype := .byte) (wk W (.arrayClass .byte)) rfl (by show len * 1 ≤ _; omega) (by omega) (g := (mkF m 1 #[.val (.ref b), .val (.int (Int32.ofNat o)), .val (.int (Int32.ofNat len)), .unset, .unset, .unset] [.int (Int32.ofNat len)])) rfl (hb hbytes d1) (rest := []) rfl (Nat.le_refl _) (by show 0 + len ≤ len; omega)
  rw [hh0] at ba3 st3
  have kp3 : XT.Kept s T3 := (XT.Kept.of_eq hh0).push bh3
  have hA3 := hA.keep X3.warmed.alike (kp3 _ _ hA.1.1)
  have hne : b ≠ s.heap.size := hA.1.ne
  have c4 : Steps p.tables e below (s₁.setTop (entryFrame m #[.ref b, .int (Int32.ofNat o), .int (Int32.ofNat len)] 6)) (T3.setTop (mkF m 3 #[.val (.ref b), .val (.int (Int32.ofNat o)), .val (.int (Int32.ofNat len)), .unset, .unset, .unset] [.ref s.heap.size])) := c2.trans (st3 _ (Steps.refl _))
  have c5 : Steps p.tables e below (s₁.setTop (entryFrame m #[.ref b, .int (Int32.ofNat o), .int (Int32.ofNat len)] 6)) (T3.setTop (mkF m 9 #[.val (.ref b), .val (.int (Int32.ofNat o)), .val (.int (Int32.ofNat len)), .val (.ref s.heap.size), .unset, .unset] [.int (Int32.ofNat len), .int 0, .ref s.heap.size, .int (Int32.ofNat o), .ref b])) := c4.trans (by
    refine XS.astoreN X3.here hexec rfl (hb hbytes d3) rfl rfl rfl ?_
    refine XS.aloadN X3.here hexec rfl (hb hbytes d4) rfl rfl ?_
    refine XS.iloadN X3.here hexec rfl (hb hbytes d5) rfl ?_
    refine XS.aloadN X3.here hexec rfl (hb hbytes d6) rfl rfl ?_
    refine iconstV X3.here hexec rfl 0 (hb hbytes d7) (by decide) ?_
    refine XS.iloadN X3.here hexec rfl (hb hbytes d8) rfl ?_
    exact Steps.refl _)
  obtain ⟨v6, T6, X6, E6, g6⟩ := X3.callS hexec (Cmp5.law l b A s.heap.size B3 o 0 len) hown (wks W (staticW U16 115 Cmp5.yN)) (wk W Cmp5.tab) (W := 0) (Nat.le_of_ble_eq_true rfl) (Nat.le_of_ble_eq_true rfl) (Nat.le_refl _) (by show 0 + len + 0 ≤ len; omega) (g := (mkF m 9 #[.val (.ref b), .val (.int (Int32.ofNat o)), .val (.int (Int32.ofNat len)), .val (.ref s.heap.size), .unset, .unset] [.int (Int32.ofNat len), .int (Int32.ofNat 0), .ref s.heap.size, .int (Int32.ofNat o), .ref b])) rfl (by rw [hml]; rfl) c5 (argsL := [.ref b, .int (Int32.ofNat o), .ref s.heap.size, .int (Int32.ofNat 0), .int (Int32.ofNat len)]) (rest := []) rfl rfl (by show 2 * 0 + 0 ≤ _; decide) (hb hbytes d9) (⟨rfl, hA3, ba3, hne, l1, by rw [bs3]; simp, hp⟩)
  obtain ⟨rfl, B6, p6, f6⟩ := E6
  have c7 : Steps p.tables e below (s₁.setTop (entryFrame m #[.ref b, .int (Int32.ofNat o), .int (Int32.ofNat len)] 6)) (T6.setTop (mkF m 12 #[.val (.ref b), .val (.int (Int32.ofNat o)), .val (.int (Int32.ofNat len)), .val (.ref s.heap.size), .unset, .unset] [.int (Int32.ofNat len)])) := g6
  have c8 : Steps p.tables e below (s₁.setTop (entryFrame m #[.ref b, .int (Int32.ofNat o), .int (Int32.ofNat len)] 6)) (T6.setTop (mkF m 58 #[.val (.ref b), .val (.int (Int32.ofNat o)), .val (.int (Int32.ofNat len)), .val (.ref s.heap.size), .val (.int (Int32.ofNat len)), .unset] [.ref s.heap.size])) := c7.trans (by
    refine XS.istore X6.here hexec rfl (hb hbytes d12) rfl rfl ?_
    refine XS.iload X6.here hexec rfl (hb hbytes d14) rfl ?_
    refine XS.iloadN X6.here hexec rfl (hb hbytes d16) rfl ?_
    refine XS.icmpYes X6.here hexec rfl (pc0 := 17) rfl (hb hbytes d17) rfl (ii_eq_t rfl) (by decide) rfl ?_
    refine XS.aloadN X6.here hexec rfl (hb hbytes d57) rfl rfl ?_
    exact Steps.refl _)
  have X8 := X6.wide (L' := []) (cells' := 1) (slots' := len) (fun x hx hlt => by
    simp only [List.nil_append, copyLocs, List.mem_map, List.mem_range] at hx
    obtain ⟨i, -, rfl⟩ := hx
    exact absurd hlt (Nat.lt_irrefl _)) (Nat.le_refl _) (by omega)
  exact ⟨T6, some (.ref s.heap.size), _, _, _, X8, rfl, rfl, rfl, (fun h => by cases h), ⟨⟨rfl, B6, ba3.like (X3.warmed.alike.symm.trans X6.warmed.alike) p6.1 f6.1 f6.2.1 f6.2.2.1, f6.2.1.trans bv3, by rw [X6.warmed.alike.findClass, f6.1]; exact bf3, by rw [f6.2.2.1, bs3]; simp, fun j hj => by rw [f6.2.2.2 j, if_pos (by omega)]; rfl, kp3.put p6 (Nat.le_refl _)⟩, by rw [p6.2.2, bh3, hh0]; simp⟩, fun fs hl => c8.trans (X8.areturnOut hexec rfl hret rfl (hb hbytes d58) hl)⟩
end Cmp3
namespace CodL
def yN : MethodName := ⟨"java/lang/StringUTF16", "coderFromArrayLen", "([BI)B"⟩
abbrev yB : ByteArray := jdk_52_method_15_code
theorem d0 : decode yB 0 = .ok (.iload_n 1, 1) := by decide +kernel
theorem d1 : decode yB 1 = .ok (.aload_n 0, 1) := by decide +kernel
theorem d2 : decode yB 2 = .ok (.arraylength, 1) := by decide +kernel
theorem d3 : decode yB 3 = .ok (.isub, 1) := by decide +kernel
theorem d4 : decode yB 4 = .ok (.bipush 31, 2) := by decide +kernel
theorem d6 : decode yB 6 = .ok (.iushr, 1) := by decide +kernel
theorem d7 : decode yB 7 = .ok (.i2b, 1) := by decide +kernel
theorem d8 : decode yB 8 = .ok (.ireturn, 1) := by decide +kernel
def site : List Cond := []
def tab : Cond := tabOf yN yB 2 (some .byte) site
def P (d : Addr) (B : Cell) (args : Array Value) (s : State) : Prop := args = #[.ref d, .int (Int32.ofNat B.slots.size)] ∧ Arr .byte d B s
def E (r : Option Value) (s u : State) : Prop := XT.PureE (some (.int 0)) r s u
/-- an array as long as the number of chars: LATIN1 -/
theorem law (l : Launch) (d : Addr) (B : Cell) : Law l yN 2 2 0 0 yB 2 (some .byte) site (P d B) E [] 0 0 := by
  refine Law.of_walk (plainFor_of_name (by decide +kernel)) (by decide +kernel) (by decide +kernel) (by decide) (fun _ _ h => by rw [h.1]; rfl) (fun _ U U' hal hh h => ⟨h.1, h.2.mv hal hh⟩) (fun r U U' V V' h1 hal h2 h => XT.PureE.mv r U U' V V' h1 hal h2 h) ?_
  intro p e s m args below meth c s₁ X0 hexec hbytes hml hret hlk hnm hown hh0 W hP
  obtain ⟨rfl, hB⟩ := hP
  have hB0 := hB.mv X0.warmed.alike hh0
  have c1 : Steps p.tables e below (s₁.setTop (entryFrame m #[.ref d, .int (Int32.ofNat B.slots.size)] 2)) (s₁.setTop (mkF m 0 #[.val (.ref d), .val (.int (Int32.ofNat B.slots.size))] [])) := entry rfl
  have c2 : Steps p.tables e below (s₁.setTop (entryFrame m #[.ref d, .int (Int32.ofNat B.slots.size)] 2)) (s₁.setTop (mkF m 2 #[.val (.ref d), .val (.int (Int32.ofNat B.slots.size))] [.ref d, .int (Int32.ofNat B.slots.size)])) := c1.trans (by
    refine XS.iloadN X0.here hexec rfl (hb hbytes d0) rfl ?_
    refine XS.aloadN X0.here hexec rfl (hb hbytes d1) rfl rfl ?_
    exact Steps.refl _)
  have c3 : Steps p.tables e below (s₁.setTop (entryFrame m #[.ref d, .int (Int32.ofNat B.slots.size)] 2)) (s₁.setTop (mkF m 8 #[.val (.ref d), .val (.int (Int32.ofNat B.slots.size))] [.int (lo8 (ushr (Int32.ofNat B.slots.size - Int32.ofNat B.slots.size) 31))])) := c2.trans (by
    refine X0.alen hexec hB0 rfl rfl (hb hbytes d2) ?_
    refine XS.isub X0.here hexec rfl (hb hbytes d3) rfl ?_
    refine bipushV X0.here hexec rfl 31 (hb hbytes d4) (by decide) ?_
    refine iushr X0.here hexec rfl (hb hbytes d6) rfl ?_
    refine i2b X0.here hexec rfl (hb hbytes d7) rfl ?_
    exact Steps.refl _)
  have e0 : lo8 (ushr (Int32.ofNat B.slots.size - Int32.ofNat B.slots.size) 31) = 0 := by rw [Int32.sub_self]; decide
  rw [e0] at c3
  exact ⟨s₁, some (.int 0), _, _, _, X0, rfl, rfl, rfl, (fun h => by cases h), ⟨rfl, hh0⟩, fun fs hl => c3.trans (X0.ireturnOut hexec hret rfl (Or.inr (Or.inr (Or.inl rfl))) (hb hbytes d8) hl)⟩
end CodL
/-- the String at a is Latin-1 over a new byte[] (the heap's one new cell): the low bytes of the len chars of A from o on; every cell but a is kept -/
def Got (a : Addr) (D : Cell) (fV fC : Field) (A : Cell) (o len : Nat) (r : Option Value) (s u : State) : Prop := r = none ∧ ∃ D' V : Cell, Blank "java/lang/String" a D' u ∧ Same D D' [fV.slot, fC.slot] ∧ D'.slots[fV.slot]? = some (.ref s.heap.size) ∧ D'.slots[fC.slot]? = some (.int 0) ∧ Arr .byte s.heap.size V u ∧ V.vm = .none ∧ u.vm.findClass "[B" = some V.cls ∧ V.slots.size = len ∧ (∀ j, j < len → V.slots[j]? = some (.int (lo8 (cv A (o + j))))) ∧ (∀ (y : Addr) (c : Cell), y ≠ a → s.heap[y]? = some c → u.heap[y]? = some c) ∧ u.heap.size = s.heap.size + 1
theorem Got.mv {a : Addr} {D A : Cell} {fV fC : Field} {o len : Nat} : ∀ r (U U' V V' : State), U'.heap = U.heap → V.vm.Alike V'.vm → V'.heap = V.heap → Got a D fV fC A o len r U V → Got a D fV fC A o len r U' V' :=
  fun r U U' V V' h1 hal h2 ⟨e0, D', X, a1, a2, a3, a4, a5, a6, a7, a8, a9, a10, a11⟩ => ⟨e0, D', X, a1.mv hal h2, a2, by rw [h1]; exact a3, a4, by rw [h1]; exact a5.mv hal h2, a6, by rw [hal.findClass]; exact a7, a8, a9, by rw [h1, h2]; exact a10, by rw [h1, h2]; exact a11⟩
namespace New4
def yN : MethodName := ⟨"java/lang/String", "<init>", "([CIILjava/lang/Void;)V"⟩
abbrev yB : ByteArray := jdk_42_method_149_code
theorem d0 : decode yB 0 = .ok (.aload_n 0, 1) := by decide +kernel
theorem d1 : decode yB 1 = .ok (.invokespecial 1, 3) := by decide +kernel
theorem d4 : decode yB 4 = .ok (.iload_n 3, 1) := by decide +kernel
theorem d5 : decode yB 5 = .ok (.ifCond (.ne) 22, 3) := by decide +kernel
theorem d27 : decode yB 27 = .ok (.getstatic 38, 3) := by decide +kernel
theorem d30 : decode yB 30 = .ok (.ifCond (.eq) 28, 3) := by decide +kernel
theorem d33 : decode yB 33 = .ok (.aload_n 1, 1) := by decide +kernel
theorem d34 : decode yB 34 = .ok (.iload_n 2, 1) := by decide +kernel
theorem d35 : decode yB 35 = .ok (.iload_n 3, 1) := by decide +kernel
theorem d36 : decode yB 36 = .ok (.invokestatic 177, 3) := by decide +kernel
theorem d39 : decode yB 39 = .ok (.astore 5, 2) := by decide +kernel
theorem d41 : decode yB 41 = .ok (.aload_n 0, 1) := by decide +kernel
theorem d42 : decode yB 42 = .ok (.aload 5, 2) := by decide +kernel
theorem d44 : decode yB 44 = .ok (.iload_n 3, 1) := by decide +kernel
theorem d45 : decode yB 45 = .ok (.invokestatic 47, 3) := by decide +kernel
theorem d48 : decode yB 48 = .ok (.putfield 15, 3) := by decide +kernel
theorem d51 : decode yB 51 = .ok (.aload_n 0, 1) := by decide +kernel
theorem d52 : decode yB 52 = .ok (.aload 5, 2) := by decide +kernel
theorem d54 : decode yB 54 = .ok (.putfield 9, 3) := by decide +kernel
theorem d57 : decode yB 57 = .ok (.return_, 1) := by decide +kernel
def site : List Cond := [.fieldLink "java/lang/String" 38 "java/lang/String" "COMPACT_STRINGS" "Z", Cmp3.tab, CodL.tab, .laysFinal "java/lang/String" "java/lang/String" "value" "[B", .fieldLink "java/lang/String" 9 "java/lang/String" "value" "[B", .laysFinal "java/lang/String" "java/lang/String" "coder" "B", .fieldLink "java/lang/String" 15 "java/lang/String" "coder" "B"] ++ objW "java/lang/String" 1 ++ staticW "java/lang/String" 177 Cmp3.yN ++ staticW "java/lang/String" 47 CodL.yN
def tab : Cond := tabOf yN yB 6 none site
def P (a : Addr) (D : Cell) (fV fC : Field) (b : Addr) (A : Cell) (z : Int32) (o len : Nat) (args : Array Value) (s : State) : Prop := args = #[.ref a, .ref b, .int (Int32.ofNat o), .int (Int32.ofNat len), .null] ∧ Blank "java/lang/String" a D s ∧ Found "java/lang/String" "value" "[B" fV s ∧ Found "java/lang/String" "coder" "B" fC s ∧ Ch b A s ∧ StaticIs s "java/lang/String" "COMPACT_STRINGS" "Z" (.int z) ∧ ¬ z = 0 ∧ 0 < len ∧ o + len ≤ A.slots.size ∧ len ≤ 536870912 ∧ ∀ i, i < len → ¬ 255 < cv A (o + i)
def E (a : Addr) (D : Cell) (fV fC : Field) (A : Cell) (o len : Nat) (r : Option Value) (s u : State) : Prop := Got a D fV fC A o len r s u
/-- len > 0, no char of the range above 255: a Latin-1 String of their low bytes -/
theorem law (l : Launch) (a : Addr) (D : Cell) (fV fC : Field) (b : Addr) (A : Cell) (z : Int32) (o len : Nat) : Law l yN 5 4 2 35 yB 6 none site (P a D fV fC b A z o len) (E a D fV fC A o len) [⟨a, fC.slot⟩, ⟨a, fV.slot⟩] 1 len := by
  refine Law.of_walk (plainFor_of_name (by decide +kernel)) (by decide +kernel) (by decide +kernel) (by decide) (fun _ _ h => by rw [h.1]; rfl) (fun _ U U' hal hh h => ⟨h.1, h.2.1.mv hal hh, h.2.2.1.al hal, h.2.2.2.1.al hal, h.2.2.2.2.1.mv hal hh, h.2.2.2.2.2.1.there hal hh, h.2.2.2.2.2.2⟩) (fun r U U' V V' h1 hal h2 h => Got.mv r U U' V V' h1 hal h2 h) ?_
  intro p e s m args below meth c s₁ X0 hexec hbytes hml hret hlk hnm hown hh0 W hP
  obtain ⟨rfl, hB, f1, f2, hA, s1, hz, l0, l1, l2, hp⟩ := hP
  have a31 := hA.1.2.2.2
  have c1 : Steps p.tables e below (s₁.setTop (entryFrame m #[.ref a, .ref b, .int (Int32.ofNat o), .int (Int32.ofNat len), .null] 6)) (s₁.setTop (mkF m 0 #[.val (.ref a), .val (.ref b), .val (.int (Int32.ofNat o)), .val (.int (Int32.ofNat len)), .val .null, .unset] [])) := entry rfl
  have c2 : Steps p.tables e below (s₁.setTop (entryFrame m #[.ref a, .ref b, .int (Int32.ofNat o), .int (Int32.ofNat len), .null] 6)) (s₁.setTop (mkF m 1 #[.val (.ref a), .val (.ref b), .val (.int (Int32.ofNat o)), .val (.int (Int32.ofNat len)), .val .null, .unset] [.ref a])) := c1.trans (by
    refine XS.aloadN X0.here hexec rfl (hb hbytes d0) rfl rfl ?_
    exact Steps.refl _)
  obtain ⟨T3, X3, q3, st3⟩ := X0.oinit hexec hown (wks W (objW "java/lang/String" 1)) (g := (mkF m 1 #[.val (.ref a), .val (.ref b), .val (.int (Int32.ofNat o)), .val (.int (Int32.ofNat len)), .val .null, .unset] [.ref a])) rfl (by rw [hml]; rfl) (rest := []) rfl (hb hbytes d1) (W := 0) (by show 2 * 0 + 0 ≤ _; decide) (Nat.le_of_ble_eq_true rfl) (Nat.le_of_ble_eq_true rfl)
  have hh3 := q3.trans hh0
  have c4 : Steps p.tables e below (s₁.setTop (entryFrame m #[.ref a, .ref b, .int (Int32.ofNat o), .int (Int32.ofNat len), .null] 6)) (T3.setTop (mkF m 27 #[.val (.ref a), .val (.ref b), .val (.int (Int32.ofNat o)), .val (.int (Int32.ofNat len)), .val .null, .unset] [])) := (c2.trans (st3 _ (Steps.refl _))).trans (by
    refine XS.iloadN X3.here hexec rfl (hb hbytes d4) rfl ?_
    refine XS.ifYes X3.here hexec rfl (pc0 := 5) rfl (hb hbytes d5) rfl (i0_ne_t (nz32 (by omega) l0)) (by decide) rfl ?_
    exact Steps.refl _)
  obtain ⟨T5, X5, q5, st5⟩ := X3.sget hexec hown (wk W (.fieldLink "java/lang/String" 38 "java/lang/String" "COMPACT_STRINGS" "Z")) s1 (fun _ _ h => by rw [hh3]; exact h) (g := (mkF m 27 #[.val (.ref a), .val (.ref b), .val (.int (Int32.ofNat o)), .val (.int (Int32.ofNat len)), .val .null, .unset] [])) rfl (hb hbytes d27)
  have hh5 := q5.trans hh3
  have c6 : Steps p.tables e below (s₁.setTop (entryFrame m #[.ref a, .ref b, .int (Int32.ofNat o), .int (Int32.ofNat len), .null] 6)) (T5.setTop (mkF m 30 #[.val (.ref a), .val (.ref b), .val (.int (Int32.ofNat o)), .val (.int (Int32.ofNat len)), .val .null, .unset] [.int z])) := c4.trans (st5 _ (Steps.refl _))
  have c7 : Steps p.tables e below (s₁.setTop (entryFrame m #[.ref a, .ref b, .int (Int32.ofNat o), .int (Int32.ofNat len), .null] 6)) (T5.setTop (mkF m 36 #[.val (.ref a), .val (.ref b), .val (.int (Int32.ofNat o)), .val (.int (Int32.ofNat len)), .val .null, .unset] [.int (Int32.ofNat len), .int (Int32.ofNat o), .ref b])) := c6.trans (by
    refine XS.ifNo X5.here hexec rfl (hb hbytes d30) rfl (i0_eq_f hz) ?_
    refine XS.aloadN X5.here hexec rfl (hb hbytes d33) rfl rfl ?_
    refine XS.iloadN X5.here hexec rfl (hb hbytes d34) rfl ?_
    refine XS.iloadN X5.here hexec rfl (hb hbytes d35) rfl ?_
    exact Steps.refl _)
  obtain ⟨v8, T8, X8, E8, g8⟩ := X5.callS hexec (Cmp3.law l b A o len) hown (wks W (staticW "java/lang/String" 177 Cmp3.yN)) (wk W Cmp3.tab) (W := 0) (Nat.le_of_ble_eq_true rfl) (Nat.le_of_ble_eq_true rfl) (Nat.le_refl _) (by show 0 + len ≤ len; omega) (g := (mkF m 36 #[.val (.ref a), .val (.ref b), .val (.int (Int32.ofNat o)), .val (.int (Int32.ofNat len)), .val .null, .unset] [.int (Int32.ofNat len), .int (Int32.ofNat o), .ref b])) rfl (by rw [hml]; rfl) c7 (argsL := [.ref b, .int (Int32.ofNat o), .int (Int32.ofNat len)]) (rest := []) rfl rfl (by show 2 * 0 + 0 ≤ _; decide) (hb hbytes d36) (⟨rfl, hA.mv X5.warmed.alike hh5, l1, l2, hp⟩)
  obtain ⟨e8, z8⟩ := E8
  obtain ⟨rfl, N, n1, n2, n3, n4, n5, n6⟩ := NewArr.mv _ T5 s _ _ hh5.symm (Vm.Alike.refl _) rfl e8
  rw [hh5] at z8
  have hB1 := hB.keep X8.warmed.alike (n6 _ _ hB.1)
  have hne : s.heap.size ≠ a := (Nat.ne_of_lt (Array.getElem?_eq_some_iff.mp hB.1).1).symm
  have c9 : Steps p.tables e below (s₁.setTop (entryFrame m #[.ref a, .ref b, .int (Int32.ofNat o), .int (Int32.ofNat len), .null] 6)) (T8.setTop (mkF m 39 #[.val (.ref a), .val (.ref b), .val (.int (Int32.ofNat o)), .val (.int (Int32.ofNat len)), .val .null, .unset] [.ref s.heap.size])) := g8
  have c10 : Steps p.tables e below (s₁.setTop (entryFrame m #[.ref a, .ref b, .int (Int32.ofNat o), .int (Int32.ofNat len), .null] 6)) (T8.setTop (mkF m 45 #[.val (.ref a), .val (.ref b), .val (.int (Int32.ofNat o)), .val (.int (Int32.ofNat len)), .val .null, .val (.ref s.heap.size)] [.int (Int32.ofNat N.slots.size), .ref s.heap.size, .ref a])) := by
    have hc : Steps p.tables e below (s₁.setTop (entryFrame m #[.ref a, .ref b, .int (Int32.ofNat o), .int (Int32.ofNat len), .null] 6)) (T8.setTop (mkF m 45 #[.val (.ref a), .val (.ref b), .val (.int (Int32.ofNat o)), .val (.int (Int32.ofNat len)), .val .null, .val (.ref s.heap.size)] [.int (Int32.ofNat len), .ref s.heap.size, .ref a])) := c9.trans (by
      refine XS.astore X8.here hexec rfl (hb hbytes d39) rfl rfl rfl ?_
      refine XS.aloadN X8.here hexec rfl (hb hbytes d41) rfl rfl ?_
      refine XS.aload X8.here hexec rfl (hb hbytes d42) rfl rfl ?_
      refine XS.iloadN X8.here hexec rfl (hb hbytes d44) rfl ?_
      exact Steps.refl _)
    rw [n4]; exact hc
  obtain ⟨v11, T11, X11, E11, g11⟩ := X8.callS hexec (CodL.law l s.heap.size N) hown (wks W (staticW "java/lang/String" 47 CodL.yN)) (wk W CodL.tab) (W := 1) (Nat.le_of_ble_eq_true rfl) (Nat.le_of_ble_eq_true rfl) (Nat.le_refl _) (by show 0 + len + 0 ≤ len; omega) (g := (mkF m 45 #[.val (.ref a), .val (.ref b), .val (.int (Int32.ofNat o)), .val (.int (Int32.ofNat len)), .val .null, .val (.ref s.heap.size)] [.int (Int32.ofNat N.slots.size), .ref s.heap.size, .ref a])) rfl (by rw [hml]; rfl) c10 (argsL := [.ref s.heap.size, .int (Int32.ofNat N.slots.size)]) (rest := [.ref a]) rfl rfl (by show 2 * 0 + (1 + 0) ≤ _; decide) (hb hbytes d45) (⟨rfl, n1⟩)
  obtain ⟨rfl, q11⟩ := E11
  have hB11 := hB1.mv (X8.warmed.alike.symm.trans X11.warmed.alike) q11
  have c12 : Steps p.tables e below (s₁.setTop (entryFrame m #[.ref a, .ref b, .int (Int32.ofNat o), .int (Int32.ofNat len), .null] 6)) (T11.setTop (mkF m 48 #[.val (.ref a), .val (.ref b), .val (.int (Int32.ofNat o)), .val (.int (Int32.ofNat len)), .val .null, .val (.ref s.heap.size)] [.int 0, .ref a])) := g11
  obtain ⟨T13, X13, p13, bl13, sl13, st13⟩ := X11.finit hexec hown (wk W (.fieldLink "java/lang/String" 15 "java/lang/String" "coder" "B")) (Or.inr ⟨_, (wk W (.laysFinal "java/lang/String" "java/lang/String" "coder" "B"))⟩) (Or.inl ⟨rfl, hnm⟩) f2 (Or.inl rfl) hB11 (t := .byte) (by decide +kernel) rfl (g := (mkF m 48 #[.val (.ref a), .val (.ref b), .val (.int (Int32.ofNat o)), .val (.int (Int32.ofNat len)), .val .null, .val (.ref s.heap.size)] [.int 0, .ref a])) rfl (rest := []) rfl (hb hbytes d48)
  have c14 : Steps p.tables e below (s₁.setTop (entryFrame m #[.ref a, .ref b, .int (Int32.ofNat o), .int (Int32.ofNat len), .null] 6)) (T13.setTop (mkF m 54 #[.val (.ref a), .val (.ref b), .val (.int (Int32.ofNat o)), .val (.int (Int32.ofNat len)), .val .null, .val (.ref s.heap.size)] [.ref s.heap.size, .ref a])) := (c12.trans (st13 _ (Steps.refl _))).trans (by
    refine XS.aloadN X13.here hexec rfl (hb hbytes d51) rfl rfl ?_
    refine XS.aload X13.here hexec rfl (hb hbytes d52) rfl rfl ?_
    exact Steps.refl _)
  obtain ⟨T15, X15, p15, bl15, sl15, st15⟩ := X13.finit hexec hown (wk W (.fieldLink "java/lang/String" 9 "java/lang/String" "value" "[B")) (Or.inr ⟨_, (wk W (.laysFinal "java/lang/String" "java/lang/String" "value" "[B"))⟩) (Or.inl ⟨rfl, hnm⟩) f1 (Or.inl rfl) bl13 (t := (.array .byte)) (by decide +kernel) rfl (g := (mkF m 54 #[.val (.ref a), .val (.ref b), .val (.int (Int32.ofNat o)), .val (.int (Int32.ofNat len)), .val .null, .val (.ref s.heap.size)] [.ref s.heap.size, .ref a])) rfl (rest := []) rfl (hb hbytes d54)
  have c16 : Steps p.tables e below (s₁.setTop (entryFrame m #[.ref a, .ref b, .int (Int32.ofNat o), .int (Int32.ofNat len), .null] 6)) (T15.setTop (mkF m 57 #[.val (.ref a), .val (.ref b), .val (.int (Int32.ofNat o)), .val (.int (Int32.ofNat len)), .val .null, .val (.ref s.heap.size)] [])) := c14.trans (st15 _ (Steps.refl _))
  have ap := apart (Or.inr ⟨_, (wk W (.laysFinal "java/lang/String" "java/lang/String" "value" "[B"))⟩) (Or.inr ⟨_, (wk W (.laysFinal "java/lang/String" "java/lang/String" "coder" "B"))⟩) f1 f2 (t₁ := .array .byte) (t₂ := .byte) (by decide +kernel) (by decide +kernel) (by decide)
  have al := X8.warmed.alike.symm.trans X15.warmed.alike
  have n7 : T11.heap[s.heap.size]? = some N := by rw [q11]; exact n1.1
  exact ⟨T15, none, _, _, _, X15, by simp, rfl, by omega, (fun _ => rfl), ⟨rfl, _, N, bl15, ((Same.refl D _).set _ (by simp)).set _ (by simp), sl15, (Cell.slots_setSlot_ne _ ap).trans sl13, n1.keep al (p15.other hne (p13.other hne n7)), n2, by rw [al.findClass]; exact n3, n4, n5, fun y c h1 h2 => p15.other h1 (p13.other h1 (by rw [q11]; exact n6 y c h2)), by rw [p15.2.2, p13.2.2, q11]; exact z8⟩, fun fs hl => c16.trans (X15.returnOut hexec hret (hb hbytes d57) hl)⟩
end New4
namespace New1
def yN : MethodName := ⟨"java/lang/String", "<init>", "([C)V"⟩
abbrev yB : ByteArray := jdk_42_method_3_code
theorem d0 : decode yB 0 = .ok (.aload_n 0, 1) := by decide +kernel
theorem d1 : decode yB 1 = .ok (.aload_n 1, 1) := by decide +kernel
theorem d2 : decode yB 2 = .ok (.iconst 0, 1) := by decide +kernel
theorem d3 : decode yB 3 = .ok (.aload_n 1, 1) := by decide +kernel
theorem d4 : decode yB 4 = .ok (.arraylength, 1) := by decide +kernel
theorem d5 : decode yB 5 = .ok (.aconst_null, 1) := by decide +kernel
theorem d6 : decode yB 6 = .ok (.invokespecial 27, 3) := by decide +kernel
theorem d9 : decode yB 9 = .ok (.return_, 1) := by decide +kernel
def site : List Cond := [New4.tab] ++ initW "java/lang/String" 27 New4.yN
def tab : Cond := tabOf yN yB 2 none site
def P (a : Addr) (D : Cell) (fV fC : Field) (b : Addr) (A : Cell) (z : Int32) (args : Array Value) (s : State) : Prop := args = #[.ref a, .ref b] ∧ Blank "java/lang/String" a D s ∧ Found "java/lang/String" "value" "[B" fV s ∧ Found "java/lang/String" "coder" "B" fC s ∧ Ch b A s ∧ StaticIs s "java/lang/String" "COMPACT_STRINGS" "Z" (.int z) ∧ ¬ z = 0 ∧ 0 < A.slots.size ∧ A.slots.size ≤ 536870912 ∧ ∀ i, i < A.slots.size → ¬ 255 < cv A i
def E (a : Addr) (D : Cell) (fV fC : Field) (A : Cell) (r : Option Value) (s u : State) : Prop := Got a D fV fC A 0 A.slots.size r s u
/-- new String(chars), not empty, no char above 255: a Latin-1 String of their low bytes -/
theorem law (l : Launch) (a : Addr) (D : Cell) (fV fC : Field) (b : Addr) (A : Cell) (z : Int32) : Law l yN 2 1 3 52 yB 2 none site (P a D fV fC b A z) (E a D fV fC A) [⟨a, fC.slot⟩, ⟨a, fV.slot⟩] 1 A.slots.size := by
  refine Law.of_walk (plainFor_of_name (by decide +kernel)) (by decide +kernel) (by decide +kernel) (by decide) (fun _ _ h => by rw [h.1]; rfl) (fun _ U U' hal hh h => ⟨h.1, h.2.1.mv hal hh, h.2.2.1.al hal, h.2.2.2.1.al hal, h.2.2.2.2.1.mv hal hh, h.2.2.2.2.2.1.there hal hh, h.2.2.2.2.2.2⟩) (fun r U U' V V' h1 hal h2 h => Got.mv r U U' V V' h1 hal h2 h) ?_
  intro p e s m args below meth c s₁ X0 hexec hbytes hml hret hlk hnm hown hh0 W hP
  obtain ⟨rfl, hB, f1, f2, hA, s1, hz, l0, l2, hp⟩ := hP
  have c1 : Steps p.tables e below (s₁.setTop (entryFrame m #[.ref a, .ref b] 2)) (s₁.setTop (mkF m 0 #[.val (.ref a), .val (.ref b)] [])) := entry rfl
  have c2 : Steps p.tables e below (s₁.setTop (entryFrame m #[.ref a, .ref b] 2)) (s₁.setTop (mkF m 6 #[.val (.ref a), .val (.ref b)] [.null, .int (Int32.ofNat A.slots.size), .int 0, .ref b, .ref a])) := c1.trans (by
    refine XS.aloadN X0.here hexec rfl (hb hbytes d0) rfl rfl ?_
    refine XS.aloadN X0.here hexec rfl (hb hbytes d1) rfl rfl ?_
    refine iconstV X0.here hexec rfl 0 (hb hbytes d2) (by decide) ?_
    refine XS.aloadN X0.here hexec rfl (hb hbytes d3) rfl rfl ?_
    refine X0.alen hexec (hA.1.mv X0.warmed.alike hh0) rfl rfl (hb hbytes d4) ?_
    refine XS.aconstNull X0.here hexec rfl (hb hbytes d5) ?_
    exact Steps.refl _)
  obtain ⟨v3, T3, X3, E3, g3⟩ := X0.callN hexec (New4.law l a D fV fC b A z 0 A.slots.size) rfl hown (wks W (initW "java/lang/String" 27 New4.yN)) (W New4.tab (by simp only [site, List.mem_cons, List.mem_append, true_or, or_true])) (W := 0) (Nat.le_of_ble_eq_true rfl) (Nat.le_of_ble_eq_true rfl) (Nat.le_refl _) (by show 0 + A.slots.size ≤ A.slots.size; omega) (g := (mkF m 6 #[.val (.ref a), .val (.ref b)] [.null, .int (Int32.ofNat A.slots.size), .int (Int32.ofNat 0), .ref b, .ref a])) rfl (by rw [hml]; rfl) c2 (argsL := [.ref b, .int (Int32.ofNat 0), .int (Int32.ofNat A.slots.size), .null]) (rest := []) rfl rfl (by show 2 * 0 + 0 ≤ _; decide) (hb hbytes d6) (⟨rfl, hB.mv X0.warmed.alike hh0, f1.al X0.warmed.alike, f2.al X0.warmed.alike, hA.mv X0.warmed.alike hh0, s1.there X0.warmed.alike hh0, hz, l0, by omega, l2, fun i hi => by rw [Nat.zero_add]; exact hp i hi⟩)
  have e0 := Got.mv _ s₁ s _ _ hh0.symm (Vm.Alike.refl _) rfl E3
  obtain rfl := e0.1
  have c4 : Steps p.tables e below (s₁.setTop (entryFrame m #[.ref a, .ref b] 2)) (T3.setTop (mkF m 9 #[.val (.ref a), .val (.ref b)] [])) := g3
  exact ⟨T3, none, _, _, _, X3, by simp, rfl, by omega, (fun _ => rfl), e0, fun fs hl => c4.trans (X3.returnOut hexec hret (hb hbytes d9) hl)⟩
theorem pays {l : Launch} {R : Room} {p : Program} {e : Env} {below : List Frame} {s : State} {sargs : Array Value} {len W : Nat} (a : Addr) (D : Cell) (fV fC : Field) (b : Addr) (A : Cell) (z : Int32) (htab : tab.before sargs s = true) (hfr : 4 ≤ R.frames) (hlo : W + 65 ≤ R.locals) :
    Back l R p e below s sargs yN len W (fun A₁ a₁ => A₁.cells + 1 ≤ R.cells ∧ A₁.slots + A.slots.size ≤ R.slots ∧ P a D fV fC b A z a₁ A₁.U) (fun A₁ _ v₁ B₁ => E a D fV fC A v₁ A₁.U B₁.U ∧ B₁.locs = A₁.locs ++ [⟨a, fC.slot⟩, ⟨a, fV.slot⟩] ∧ B₁.cells = A₁.cells + 1 ∧ B₁.slots = A₁.slots + A.slots.size) :=
  (law l a D fV fC b A z).pays htab hfr (by omega)
end New1
end StrChars
namespace StrChars.Road
open Jvm Sem ClassFile Op Lib Jvm.Stand Jvm.Free Jvm.Free.XT
open Jvm.Lib.Cold (StaticIs)
abbrev ST : String := "java/lang/String"
/-- every table word that New1's law asks, flat -/
abbrev words : List Jvm.Cond := [.code New1.yN New1.yB 2 none, .initialized ST, .methodLink ST 27 New4.yN, .instanceMethod New4.yN,
  .code New4.yN New4.yB 6 none, .fieldLink ST 38 ST "COMPACT_STRINGS" "Z", .laysFinal ST ST "value" "[B", .fieldLink ST 9 ST "value" "[B", .laysFinal ST ST "coder" "B", .fieldLink ST 15 ST "coder" "B",
  .methodLink ST 1 Lib.objectInit, .instanceMethod Lib.objectInit, .code Lib.objectInit ⟨#[0xb1]⟩ 1 none, .methodLink ST 177 Cmp3.yN, .static Cmp3.yN, .methodLink ST 47 CodL.yN, .static CodL.yN,
  .code Cmp3.yN Cmp3.yB 6 (some (.array .byte)), .initialized U16, .arrayClass .byte, .methodLink U16 115 Cmp5.yN, .static Cmp5.yN, .code Cmp5.yN Cmp5.yB 7 (some .int), .code CodL.yN CodL.yB 2 (some .byte)]
theorem tab_of {a : Array Value} {s : State} (h : ∀ w ∈ words, w.before a s = true) : New1.tab.before a s = true := by
  have h5 : Cmp5.tab.before a s = true := unparts (wk h (.code Cmp5.yN Cmp5.yB 7 (some .int))) (wks h (.initialized Cmp5.yN.cls :: Cmp5.site))
  have hc : CodL.tab.before a s = true := unparts (wk h (.code CodL.yN CodL.yB 2 (some .byte))) (wks h (.initialized CodL.yN.cls :: CodL.site))
  have q5 : ∀ w ∈ Cmp5.tab :: words, w.before a s = true := fun w hw => (List.mem_cons.mp hw).elim (fun e => e ▸ h5) (h w)
  have h3 : Cmp3.tab.before a s = true := unparts (wk q5 (.code Cmp3.yN Cmp3.yB 6 (some (.array .byte)))) (wks q5 (.initialized Cmp3.yN.cls :: Cmp3.site))
  have q3 : ∀ w ∈ Cmp3.tab :: CodL.tab :: words, w.before a s = true := fun w hw => (List.mem_cons.mp hw).elim (fun e => e ▸ h3) fun hw => (List.mem_cons.mp hw).elim (fun e => e ▸ hc) (h w)
  have h4 : New4.tab.before a s = true := unparts (wk q3 (.code New4.yN New4.yB 6 none)) (wks q3 (.initialized New4.yN.cls :: New4.site))
  have q4 : ∀ w ∈ New4.tab :: words, w.before a s = true := fun w hw => (List.mem_cons.mp hw).elim (fun e => e ▸ h4) (h w)
  exact unparts (wk q4 (.code New1.yN New1.yB 2 none)) (wks q4 (.initialized New1.yN.cls :: New1.site))
/-- the words ride from the start Z to the walk's own state -/
theorem moved {Z s : State} {a0 args : Array Value} (hZ : Z.Warmed39 s.vm) (hw : ∀ d ∈ words, d.before a0 Z = true) : ∀ d ∈ words, d.before args s = true := fun d hd => by
  have q := hw d hd
  have t : ∀ d ∈ words, d = .arrayClass .byte ∨ (d.onTables && d.keepsFace) = true := by decide +kernel
  rcases t d hd with rfl | t
  · exact RoadKit.mvA hZ q
  · exact RoadKit.mv hZ q t
/-- WHAT COMES BACK, over the tables of the start Z: h the heap at the call, h' behind it -/
def Q (Z : State) (x : Addr) (A : Cell) (h : Heap) (v : Option Value) (h' : Heap) (L : List Loc) : Prop := v = none ∧ (∀ y ∈ L, y.base = x) ∧ RoadKit.Keep h h' [x] ∧ h'.size = h.size + 1 ∧ RoadKit.Exa Z h' x ST ∧ RoadKit.Fld Z h' x ST "value" "[B" (.ref h.size) ∧ RoadKit.Fld Z h' x ST "coder" "B" (.int 0) ∧
  (∃ V : Cell, RoadKit.Arr Z h' h.size V .byte ∧ V.vm = .none ∧ Z.vm.findClass "[B" = some V.cls ∧ V.slots.size = A.slots.size ∧ ∀ j, j < A.slots.size → V.slots[j]? = some (.int (lo8 (cv A j)))) ∧
  ∀ (O n d : String) (w : Value), RoadKit.Fld Z h x O n d w → RoadKit.slotOf Z O n d ≠ RoadKit.slotOf Z ST "value" "[B" → RoadKit.slotOf Z O n d ≠ RoadKit.slotOf Z ST "coder" "B" → RoadKit.Fld Z h' x O n d w
/-- **new String(chars) AT A CALL, IN THE ROAD'S FORM**: for specialBack behind newO: x the fresh String, b the char[] with the cell A -/
theorem back {p : Program} {l : Launch} {e : Env} {R : Room} {s : State} {args : Array Value} {below : List Frame} {len W : Nat} {Z : State} {a0 : Array Value} {h : Heap} (hZ : Z.Warmed39 s.vm) (hw : ∀ d ∈ words, d.before a0 Z = true) {kI : Nat} (wi : (Jvm.Cond.instantiable ST kI).before a0 Z = true)
    {x b : Addr} {A : Cell} {z : Int32} {v0 c0 : Value} (E : RoadKit.Exa Z h x ST) (V : RoadKit.Fld Z h x ST "value" "[B" v0) (C : RoadKit.Fld Z h x ST "coder" "B" c0) (K : RoadKit.Arr Z h b A .char) (hty : Typed .char A) (S : RoadKit.Sta Z h ST "COMPACT_STRINGS" "Z" (.int z)) (hz : ¬ z = 0)
    (l0 : 0 < A.slots.size) (l2 : A.slots.size ≤ 536870912) (hp : ∀ i, i < A.slots.size → ¬ 255 < cv A i) (hfr : 4 ≤ R.frames) (hlo : W + 65 ≤ R.locals) :
    Back l R p e below s args New1.yN len W (fun P a => a = #[.ref x, .ref b] ∧ P.U.heap = h ∧ P.cells + 1 ≤ R.cells ∧ P.slots + A.slots.size ≤ R.slots)
      (fun P _ v B => ∃ L, Q Z x A h v B.U.heap L ∧ B.locs = P.locs ++ L ∧ B.cells = P.cells + 1 ∧ B.slots = P.slots + A.slots.size) := by
  intro m meth c P g ig mk a X hg hsize hdg hW hn hp'
  obtain ⟨rfl, rfl, r1, r2⟩ := hp'
  have al : Z.vm.Alike P.U.vm := hZ.alike.trans X.warmed.alike
  obtain ⟨D, cfV, kV, iV, fV, hD, gV, stV, knV, obV, asV, slV⟩ := id V
  obtain ⟨D', cfC, kC, iC, fC, hD', gC, stC, -, -, asC, slC⟩ := id C
  cases hD.symm.trans hD'
  obtain ⟨D2, kD, e1, e2, e3, e4, e5⟩ := id E
  cases hD.symm.trans e1
  obtain ⟨c2, k2, i1, i2, i3, -⟩ := Cond.instantiable_spec wi
  cases e2.symm.trans i1
  cases e3.symm.trans i2
  obtain ⟨kU, u1, u2⟩ := al.2.2 _ _ e3
  have hB : Blank ST x D P.U := ⟨hD, ⟨knV, fun q hq => by rw [hq] at obV; cases obV⟩, by rw [al.findClass]; exact e2, kU, u1, by rw [u2]; exact i3, by rw [u2]; exact e5 i3⟩
  have F1 : Found ST "value" "[B" fV P.U := ⟨SBG.found_only al ⟨cfV, kV, iV, gV⟩, stV⟩
  have F2 : Found ST "coder" "B" fC P.U := ⟨SBG.found_only al ⟨cfC, kC, iC, gC⟩, stC⟩
  have hA : Ch b A P.U := ⟨⟨K.1, State.isArrayOf_alike al K.2.1, K.2.2, by omega⟩, hty⟩
  have hS : StaticIs P.U ST "COMPACT_STRINGS" "Z" (.int z) := by
    obtain ⟨cfS, iS, kS, fS, st, cS, t1, t2, t3, t4, t5, t6, t7⟩ := S
    exact StaticIs.there (s := { Z with heap := P.U.heap }) ⟨cfS, iS, kS, fS, st, cS, t1, t2, t3, t4, t5, (fun q => by rw [q] at t6; cases t6), t7⟩ al rfl
  obtain ⟨v, B, X', ⟨⟨hv, E', V', q1, q2, q3, q4, q5, q6, q7, q8, q9, q10, q11⟩, hl, hc, hs⟩, st⟩ := New1.pays x D fV fC b A z (tab_of (moved hZ hw)) hfr hlo m meth c P g ig mk _ X hg hsize hdg hW hn ⟨r1, r2, rfl, hB, F1, F2, hA, hS, hz, l0, l2, hp⟩
  have al' : Z.vm.Alike B.U.vm := hZ.alike.trans X'.warmed.alike
  have hsz : E'.slots.size = D.slots.size := by
    obtain ⟨-, -, -, kB, w1, w2, w3⟩ := q1
    obtain ⟨kB', y1, y2⟩ := al'.2.2 _ _ e3
    rw [q2.2.1] at w1
    cases w1.symm.trans y1
    rw [w3, e5 i3, y2]
  refine ⟨v, B, X', ⟨_, ⟨hv, ?_, ⟨by omega, fun y cy hy hn' => q10 y cy (by simpa using hn') hy, fun y cy hy => ?_⟩, q11, ⟨E', _, q1.1, by rw [q2.2.1]; exact e2, by rw [q2.2.1]; exact e3, by rw [q2.1]; exact obV, fun _ => by rw [hsz]; exact e5 i3⟩,
    ⟨E', cfV, kV, iV, fV, q1.1, gV, stV, by rw [q2.1]; exact knV, by rw [q2.1]; exact obV, by rw [q2.2.1]; exact asV, q3⟩, ⟨E', cfC, kC, iC, fC, q1.1, gC, stC, by rw [q2.1]; exact knV, by rw [q2.1]; exact obV, by rw [q2.2.1]; exact asC, q4⟩,
    ⟨V', ⟨q5.1, State.isArrayOf_alike al'.symm q5.2.1, q5.2.2.1⟩, q6, by rw [← al'.findClass]; exact q7, q8, fun j hj => by have := q9 j hj; rwa [Nat.zero_add] at this⟩, fun O n d w F n1 n2 => ?_⟩, hl, hc, hs⟩, st⟩
  · intro y hy
    simp only [List.mem_cons, List.not_mem_nil, or_false] at hy
    rcases hy with rfl | rfl <;> rfl
  · by_cases q : y = x
    · subst q
      cases hD.symm.trans hy
      exact ⟨E', q1.1, q2.2.1, q2.1, hsz⟩
    · exact ⟨cy, q10 y cy q hy, rfl, rfl, rfl⟩
  · obtain ⟨D3, cf, k, i, f, g1, g2, g3, g4, g5, g6, g7⟩ := F
    cases hD.symm.trans g1
    simp only [RoadKit.slotOf, g2, gV, gC, Option.map_some, Option.getD_some] at n1 n2
    exact ⟨E', cf, k, i, f, q1.1, g2, g3, by rw [q2.1]; exact g4, by rw [q2.1]; exact g5, by rw [q2.2.1]; exact g6, by rw [q2.2.2 f.slot (by simp [n1, n2])]; exact g7⟩
end StrChars.Road
namespace StrChars.Road
open Jvm Sem ClassFile Op Lib Jvm.Stand Jvm.Free Jvm.Free.XT
/-- WHAT COMES BACK, the byte[] as a list of values -/
def QA (Z : State) (x : Addr) (zn : Int32) (cs : List Int32) (h : Heap) (v : Option Value) (h' : Heap) (L : List Loc) : Prop := v = none ∧ (∀ y ∈ L, y.base = x) ∧ RoadKit.Keep h h' [x] ∧ h'.size = h.size + 1 ∧ RoadKit.Exa Z h' x ST ∧ RoadKit.Fld Z h' x ST "value" "[B" (.ref h.size) ∧ RoadKit.Fld Z h' x ST "coder" "B" (.int 0) ∧
  (∃ kb, Z.vm.findClass "[B" = some kb ∧ RoadKit.Arv Z h' h.size kb .byte zn (cs.map fun c => .int (lo8 c)) (.int 0)) ∧
  ∀ (O n d : String) (w : Value), RoadKit.Fld Z h x O n d w → RoadKit.slotOf Z O n d ≠ RoadKit.slotOf Z ST "value" "[B" → RoadKit.slotOf Z O n d ≠ RoadKit.slotOf Z ST "coder" "B" → RoadKit.Fld Z h' x O n d w
/-- **new String(chars) AT A CALL, THE ARRAYS AS LISTS**: the char[] at b holds cs, not empty, no char above 255 -/
theorem backArv {p : Program} {l : Launch} {e : Env} {R : Room} {s : State} {args : Array Value} {below : List Frame} {len W : Nat} {Z : State} {a0 : Array Value} {h : Heap} (hZ : Z.Warmed39 s.vm) (hw : ∀ d ∈ words, d.before a0 Z = true) {kI : Nat} (wi : (Jvm.Cond.instantiable ST kI).before a0 Z = true)
    {x b : Addr} {k : ClassId} {zn z : Int32} {cs : List Int32} {dv v0 c0 : Value} (E : RoadKit.Exa Z h x ST) (V : RoadKit.Fld Z h x ST "value" "[B" v0) (C : RoadKit.Fld Z h x ST "coder" "B" c0) (K : RoadKit.Arv Z h b k .char zn (cs.map Value.int) dv) (S : RoadKit.Sta Z h ST "COMPACT_STRINGS" "Z" (.int z)) (hz : ¬ z = 0)
    (hlen : zn.toNatClampNeg = cs.length) (h0 : 0 < cs.length) (hbig : cs.length ≤ 536870912) (hall : ∀ c ∈ cs, ¬ 255 < c) (hfr : 4 ≤ R.frames) (hlo : W + 65 ≤ R.locals) :
    Back l R p e below s args New1.yN len W (fun P a => a = #[.ref x, .ref b] ∧ P.U.heap = h ∧ P.cells + 1 ≤ R.cells ∧ P.slots + cs.length ≤ R.slots)
      (fun P _ v B => ∃ L, QA Z x zn cs h v B.U.heap L ∧ B.locs = P.locs ++ L ∧ B.cells = P.cells + 1 ∧ B.slots = P.slots + cs.length) := by
  obtain ⟨A, K1, K2, K3, K4, K5, K6⟩ := K
  have e : A.slots.size = cs.length := K3.trans hlen
  have hat : ∀ (i : Nat) (hi : i < cs.length), A.slots[i]? = some (.int cs[i]) := fun i hi => by rw [K5 i (by omega)]; simp [List.getD_eq_getElem?_getD, hi]
  have hcv : ∀ (i : Nat) (hi : i < cs.length), cv A i = cs[i] := fun i hi => by unfold cv; rw [hat i hi]
  have hty : Typed .char A := fun i v hv => by
    have hi : i < A.slots.size := (Array.getElem?_eq_some_iff.mp hv).1
    have q := K5 i hi
    rw [hv] at q
    rw [Option.some.inj q]
    exact K6 i hi
  refine Back.mono (back hZ hw wi E V C K1 hty S hz (by omega) (by omega) (fun i hi => by rw [hcv i (by omega)]; exact hall _ (List.getElem_mem _)) hfr hlo) (fun P a hp => ⟨hp.1, hp.2.1, hp.2.2.1, by rw [e]; exact hp.2.2.2⟩) (fun P a v B hp hq => ?_)
  obtain ⟨L, ⟨q1, q2, q3, q4, q5, q6, q7, ⟨V', v1, v2, v3, v4, v5⟩, q9⟩, hl, hc, hs⟩ := hq
  refine ⟨L, ⟨q1, q2, q3, q4, q5, q6, q7, ⟨V'.cls, v3, V', v1, rfl, by rw [v4, e, hlen], K4, fun i hi => ?_, fun i hi => ?_⟩, q9⟩, hl, hc, by rw [hs, e]⟩
  · have hi' : i < cs.length := by omega
    rw [v5 i (by omega), hcv i hi']; simp [List.getD_eq_getElem?_getD, hi']
  · have hi' : i < cs.length := by omega
    simp only [List.getD_eq_getElem?_getD, List.getElem?_map, List.getElem?_eq_getElem hi', Option.map_some, Option.getD_some]
    exact fits_lo8 _
end StrChars.Road
namespace StrChars.Road
open Jvm Sem ClassFile Op Lib Jvm.Stand Jvm.Free Jvm.Free.XT
/-- WHAT COMES BACK, in the writer's own shape -/
def QV (Z : State) (x : Addr) (N : Int32) (bs : List Int32) (h : Heap) (n0 : Nat) (v : Option Value) (h' : Heap) (L : List Loc) : Prop := v = none ∧ RoadKit.Fr n0 L ∧ RoadKit.Keep h h' [x] ∧ RoadKit.Exa Z h' x ST ∧ RoadKit.Fld Z h' x ST "coder" "B" (.int 0) ∧
  ∃ (t : Addr) (kb : ClassId), n0 ≤ t ∧ h.size ≤ t ∧ ¬ t = x ∧ RoadKit.Fld Z h' x ST "value" "[B" (.ref t) ∧ RoadKit.Arv Z h' t kb .byte N (bs.map Value.int) (.int 0)
/-- **new String(chars) AT A CALL, FOR THE WRITER**: a char[] of n known ints, each 0 to 255 -/
theorem backV {p : Program} {l : Launch} {e : Env} {R : Room} {s : State} {args : Array Value} {below : List Frame} {len W : Nat} {Z : State} {a0 : Array Value} {h : Heap} (hZ : Z.Warmed39 s.vm) (hw : ∀ d ∈ words, d.before a0 Z = true) {kI : Nat} (wi : (Jvm.Cond.instantiable ST kI).before a0 Z = true)
    {x b : Addr} {kC : ClassId} {cs bs : List Int32} {d v0 c0 : Value} {z N : Int32} {n n0 : Nat} (hx0 : n0 ≤ x) (hh0 : n0 ≤ h.size) (E : RoadKit.Exa Z h x ST) (V : RoadKit.Fld Z h x ST "value" "[B" v0) (C : RoadKit.Fld Z h x ST "coder" "B" c0) (K : RoadKit.Arv Z h b kC .char N (cs.map Value.int) d) (S : RoadKit.Sta Z h ST "COMPACT_STRINGS" "Z" (.int z)) (hz : ¬ z = 0)
    (hn : cs.length = n) (hN : N = Int32.ofNat n) (l0 : 0 < n) (l2 : n ≤ 4000) (hp : ∀ c ∈ cs, ¬ c < 0 ∧ ¬ (255 : Int32) < c) (hb : bs = cs.map (fun c => c.toInt8.toInt32)) (hfr : 4 ≤ R.frames) (hlo : W + 65 ≤ R.locals) :
    Back l R p e below s args (⟨"java/lang/String", "<init>", "([C)V"⟩ : MethodName) len W (fun P a => a = #[.ref x, .ref b] ∧ P.U.heap = h ∧ P.cells + 1 ≤ R.cells ∧ P.slots + n ≤ R.slots)
      (fun P _ v B => ∃ L, QV Z x N bs h n0 v B.U.heap L ∧ B.locs = P.locs ++ L ∧ B.cells = P.cells + 1 ∧ B.slots = P.slots + n) := by
  subst hn hN hb
  refine Back.mono (backArv hZ hw wi E V C K S hz (n32 (by omega)) l0 (by omega) (fun c hc => (hp c hc).2) hfr hlo) (fun P a hp => hp) (fun P a v B hp hq => ?_)
  obtain ⟨L, ⟨q1, q2, q3, q4, q5, q6, q7, ⟨kb, v1, v2⟩, q9⟩, hl, hc, hs⟩ := hq
  exact ⟨L, ⟨q1, fun y hy => by rw [q2 y hy]; exact hx0, q3, q5, q7, h.size, kb, hh0, Nat.le_refl _, Nat.ne_of_gt E.lt, q6, by rw [List.map_map]; exact v2⟩, hl, hc, hs⟩
end StrChars.Road
end Jvm.Pilot.@@N@@
namespace Jvm.Own
open Sem ClassFile Op Lib Jvm.Stand Jvm.Free Jvm.LawKit Jvm.RoadKit
/-- the walk goes on from here and ends in P -/
def Go (p : Program) (e : Env) (below : List Frame) (P : Outcome → State → Prop) (T : State) (g : JFrame) : Prop :=
  ∃ U o, Steps p.tables e below (T.setTop g) U ∧ U.status = .running ∧ Ended U below o ∧ P o U
abbrev PP (s : State) (Q : Option Value → Heap → List Loc → Prop) (K J : Nat) (o : Outcome) (U : State) : Prop := ∃ v L, o = .returned v ∧ Q v U.heap L ∧ FrameEnd s o U L K J
abbrev PS (Z : State) (EL : List (String × Nat)) (s : State) (Q : Option Value → Heap → List Loc → Prop) (K J : Nat) (o : Outcome) (U : State) : Prop := ∃ v L, o = .returned v ∧ Q v U.heap L ∧ CHr Z EL s.vm s.heap U.vm U.heap ∧ ReturnedEndW s o U L K J
abbrev CtP (l : Launch) (y : MethodName) (bytes : ByteArray) (mx : Nat) (ret : Option FieldType) (ws : List Jvm.Cond) (rm : Room) (Z : State) (as' : Array Value) (h0 : Heap) (Q : Option Value → Heap → List Loc → Prop) : Prop :=
  MetFree l y (head1 (Jvm.Cond.code y bytes mx ret :: ws) rm) (fun a U => a = as' ∧ Z.Warmed39 U.vm ∧ U.heap = h0) (fun _ _ _ _ _ => True) (fun _ U o U' => PP U Q rm.cells rm.slots o U')
abbrev CtS (l : Launch) (y : MethodName) (bytes : ByteArray) (mx : Nat) (ret : Option FieldType) (ws : List Jvm.Cond) (rm : Room) (Z : State) (EL : List (String × Nat)) (SL : List Addr) (as' : Array Value) (h0 : Heap) (Q : Option Value → Heap → List Loc → Prop) : Prop :=
  MetFree l y (head1 (Jvm.Cond.code y bytes mx ret :: ws) rm) (fun a U => a = as' ∧ Z.Warmed39 U.vm ∧ U.heap = h0 ∧ CHv Z EL U.vm h0 ∧ ∀ x ∈ SL, Safe Z EL U.vm h0 x) (fun _ _ _ _ _ => True) (fun _ U o U' => PS Z EL U Q rm.cells rm.slots o U')
abbrev PL (s : State) (Q : Option Value → Heap → List Loc → Prop) (K J : Nat) (o : Outcome) (U : State) : Prop := ∃ v L, o = .returned v ∧ Q v U.heap L ∧ ReturnedEndW s o U L K J
abbrev CtL (l : Launch) (y : MethodName) (bytes : ByteArray) (mx : Nat) (ret : Option FieldType) (ws : List Jvm.Cond) (rm : Room) (Z : State) (EL : List (String × Nat)) (as' : Array Value) (h0 : Heap) (Q : Option Value → Heap → List Loc → Prop) : Prop :=
  MetFree l y (head1 (Jvm.Cond.code y bytes mx ret :: ws) rm) (fun a U => a = as' ∧ Z.Warmed39 U.vm ∧ U.heap = h0 ∧ CHv Z EL U.vm h0) (fun _ _ _ _ _ => True) (fun _ U o U' => PL U Q rm.cells rm.slots o U')
abbrev Pays (l : Launch) (R : Room) (p : Program) (e : Env) (below : List Frame) (s : State) (args : Array Value) (y : MethodName) (len W : Nat) (as' : Array Value) (h : Heap) (k j : Nat) (Q : Option Value → Heap → List Loc → Prop) : Prop :=
  Back l R p e below s args y len W (fun A a => a = as' ∧ A.U.heap = h ∧ A.cells + k ≤ R.cells ∧ A.slots + j ≤ R.slots) (fun A _ v B => ∃ L, Q v B.U.heap L ∧ B.locs = A.locs ++ L ∧ B.cells = A.cells + k ∧ B.slots = A.slots + j)
abbrev PaysS (l : Launch) (R : Room) (p : Program) (e : Env) (below : List Frame) (s : State) (vm0 : Vm) (args : Array Value) (y : MethodName) (len W : Nat) (as' : Array Value) (h : Heap) (k j : Nat) (Z : State) (EL : List (String × Nat)) (Q : Option Value → Heap → List Loc → Prop) : Prop :=
  BackS l R p e below (s.setVm vm0) args y len W (fun A a => a = as' ∧ A.U.heap = h ∧ A.cells + k ≤ R.cells ∧ A.slots + j ≤ R.slots) (fun A _ v B => ∃ L, Q v B.U.heap L ∧ B.locs = A.locs ++ L ∧ B.cells = A.cells + k ∧ B.slots = A.slots + j ∧ CHr Z EL vm0 h B.U.vm B.U.heap)
section Own
variable {p : Program} {l : Launch} {e : Env} {R : Room} {s : State} {m : MethodId} {args : Array Value} {below : List Frame} {meth : Method} {c : Code} {T : State} {locs : List Loc} {cells slots : Nat} {P : Outcome → State → Prop} {pc : Nat} {Ls : Array Slot} {st : List Value} {Z : State} {a0 : Array Value} {h : Heap} {EL : List (String × Nat)} {vm0 : Vm} {k0 : Nat} {SL : List Addr} {Q : Option Value → Heap → List Loc → Prop}
theorem Go.of {T' : State} {g g' : JFrame} (h : ∀ t, Steps p.tables e below (T'.setTop g') t → Steps p.tables e below (T.setTop g) t) (k : Go p e below P T' g') : Go p e below P T g := by
  obtain ⟨U, o, h1, h2⟩ := k
  exact ⟨U, o, h _ h1, h2⟩
theorem Go.tr {T' : State} {g g' : JFrame} (h : Steps p.tables e below (T.setTop g) (T'.setTop g')) (k : Go p e below P T' g') : Go p e below P T g := Go.of (fun _ q => h.trans q) k
theorem CtP.walk {y : MethodName} {bytes : ByteArray} {mx : Nat} {ret : Option FieldType} {ws : List Jvm.Cond} {rm : Room} {as' : Array Value} {h0 : Heap} (hpn : plainFor y = true) (hef : ∀ m, entryFrame m as' mx = mkF m 0 Ls [])
    (k : ∀ (p : Program) (e : Env) (s : State) (m : MethodId) (below : List Frame) (meth : Method) (c : Code) (T : State), p.tables.exec = Jvm.exec → c.code = bytes → c.maxLocals = mx → s.vm.findClass y.cls = some m.cls → meth.name = y.name → meth.sig.returnType = ret → meth.locks = false → Z.Warmed39 s.vm →
      Stand p l e rm s m as' below meth c T [] 0 0 → T.heap = h0 → Go p e below (PP s Q rm.cells rm.slots) T (mkF m 0 Ls [])) : CtP l y bytes mx ret ws rm Z as' h0 Q := by
  refine MetFree.of_bodySF hpn hisR ?_
  intro p e s m args below meth c s₁ Bd hml hP hK
  obtain ⟨rfl, hZ, hh⟩ := hP
  obtain ⟨U, o, h1, h2, h3, h4⟩ := k p e s m below meth c s₁ Bd.exec Bd.bytes hml (findClass_of_methodNamed Bd.named) (name_of_methodNamed Bd.named Bd.method).1 Bd.returns Bd.notSynchronized hZ (Stand.of_body Bd) (by rw [← hh, Bd.state]; rfl)
  exact ⟨U, o, castTop (hef m) h1, h2, h3, h4⟩
theorem CtS.walk {y : MethodName} {bytes : ByteArray} {mx : Nat} {ret : Option FieldType} {ws : List Jvm.Cond} {rm : Room} {as' : Array Value} {h0 : Heap} (hpn : plainFor y = true) (hef : ∀ m, entryFrame m as' mx = mkF m 0 Ls [])
    (k : ∀ (p : Program) (e : Env) (s : State) (m : MethodId) (below : List Frame) (meth : Method) (c : Code) (T : State) (vm : Vm) (k0 : Nat), p.tables.exec = Jvm.exec → c.code = bytes → c.maxLocals = mx → vm.findClass y.cls = some m.cls → meth.name = y.name → meth.sig.returnType = ret → meth.locks = false → Z.Warmed39 vm →
      Stand p l e rm (s.setVm vm) m as' below meth c T [] 0 0 → T.heap = h0 → s.Since vm k0 → k0 ≤ h0.size → CHr Z EL s.vm s.heap vm h0 → (∀ x ∈ SL, Safe Z EL vm h0 x) → Go p e below (PS Z EL s Q rm.cells rm.slots) T (mkF m 0 Ls [])) : CtS l y bytes mx ret ws rm Z EL SL as' h0 Q := by
  refine MetFree.of_bodySF hpn hisR ?_
  intro p e s m args below meth c s₁ Bd hml hP hK
  obtain ⟨rfl, hZ, hh, hC, hSL⟩ := hP
  obtain ⟨U, o, h1, h2, h3, h4⟩ := k p e s m below meth c s₁ s.vm h0.size Bd.exec Bd.bytes hml (findClass_of_methodNamed Bd.named) (name_of_methodNamed Bd.named Bd.method).1 Bd.returns Bd.notSynchronized hZ (Stand.of_body Bd) (by rw [← hh, Bd.state]; rfl) ((State.WarmedH.refl s).since _) (Nat.le_refl _) (by rw [hh]; exact CHr.refl hC) hSL
  exact ⟨U, o, castTop (hef m) h1, h2, h3, h4⟩
theorem CtL.walk {y : MethodName} {bytes : ByteArray} {mx : Nat} {ret : Option FieldType} {ws : List Jvm.Cond} {rm : Room} {as' : Array Value} {h0 : Heap} (hpn : plainFor y = true) (hef : ∀ m, entryFrame m as' mx = mkF m 0 Ls [])
    (k : ∀ (p : Program) (e : Env) (s : State) (m : MethodId) (below : List Frame) (meth : Method) (c : Code) (T : State) (vm : Vm) (k0 : Nat), p.tables.exec = Jvm.exec → c.code = bytes → c.maxLocals = mx → vm.findClass y.cls = some m.cls → meth.name = y.name → meth.sig.returnType = ret → meth.locks = false → Z.Warmed39 vm →
      Stand p l e rm (s.setVm vm) m as' below meth c T [] 0 0 → T.heap = h0 → s.Since vm k0 → k0 ≤ h0.size → CHr Z EL s.vm s.heap vm h0 → Go p e below (PL s Q rm.cells rm.slots) T (mkF m 0 Ls [])) : CtL l y bytes mx ret ws rm Z EL as' h0 Q := by
  refine MetFree.of_bodySF hpn hisR ?_
  intro p e s m args below meth c s₁ Bd hml hP hK
  obtain ⟨rfl, hZ, hh, hC⟩ := hP
  obtain ⟨U, o, h1, h2, h3, h4⟩ := k p e s m below meth c s₁ s.vm h0.size Bd.exec Bd.bytes hml (findClass_of_methodNamed Bd.named) (name_of_methodNamed Bd.named Bd.method).1 Bd.returns Bd.notSynchronized hZ (Stand.of_body Bd) (by rw [← hh, Bd.state]; rfl) ((State.WarmedH.refl s).since _) (Nat.le_refl _) (by rw [hh]; exact CHr.refl hC)
  exact ⟨U, o, castTop (hef m) h1, h2, h3, h4⟩
theorem payP {y : MethodName} {bytes : ByteArray} {mx : Nat} {ret : Option FieldType} {rm : Room} {as' : Array Value} {len W : Nat} (hM : CtP l y bytes mx ret [] rm Z as' h Q) (hZ : Z.Warmed39 s.vm) (wc : (Jvm.Cond.code y bytes mx ret).before a0 Z = true) (wz : (Jvm.Cond.initialized y.cls).before a0 Z = true) (hf : rm.frames + 1 ≤ R.frames) (hl : W + (mx + 11) + rm.locals ≤ R.locals) :
    Pays l R p e below s args y len W as' h rm.cells rm.slots Q := backOf hM hZ wc wz hf hl
theorem payS {y : MethodName} {bytes : ByteArray} {mx : Nat} {ret : Option FieldType} {rm : Room} {as' : Array Value} {len W : Nat} (hM : CtS l y bytes mx ret [] rm Z EL SL as' h Q) (hZ : Z.Warmed39 vm0) (wc : (Jvm.Cond.code y bytes mx ret).before a0 Z = true) (wz : (Jvm.Cond.initialized y.cls).before a0 Z = true) (hf : rm.frames + 1 ≤ R.frames) (hl : W + (mx + 11) + rm.locals ≤ R.locals) (hEL : EW Z a0 EL) (H : CHv Z EL vm0 h) (hSL : ∀ x ∈ SL, x < h.size ∧ Safe Z EL vm0 h x) :
    PaysS l R p e below s vm0 args y len W as' h rm.cells rm.slots Z EL Q :=
  BackS.of_freeW (bytes := bytes) (maxL := mx) (ret := ret) (E := fun _ first o t L k n => k = rm.cells ∧ n = rm.slots ∧ (∃ v, o = .returned v ∧ Q v t.heap L) ∧ CHr Z EL first.vm first.heap t.vm t.heap) hM hf hl
    (fun m meth c A a Y hp => have hU : Z.Warmed39 A.U.vm := wtrans (s := s.setVm vm0) hZ Y.warmed
      ⟨by show (Jvm.Cond.and _ .tt).before a A.U = true; rw [Jvm.Cond.before_and, mv hU wc]; rfl, mv hU wc, mv hU wz, hp.2.2.1, hp.2.2.2⟩)
    (fun m meth c A a g mk Y hp => ⟨hp.1, wtrans (s := s.setVm vm0) hZ Y.warmed, hp.2.1, (CHv.at Y hZ hEL H).1, fun x hx => (CHv.at Y hZ hEL H).safe (hSL x hx).1 (hSL x hx).2⟩) (fun _ _ _ _ _ _ _ _ _ => trivial)
    (fun _ _ _ _ ⟨v, L, h1, h2, h3, h4⟩ => ⟨L, _, _, h4, rfl, rfl, ⟨v, h1, h2⟩, h3⟩)
    (fun m meth c A a g mk v t L k n Y hp _ _ ⟨e1, e2, ⟨v', e3, e4⟩, e5⟩ => by
      cases e3; subst e1 e2
      refine ⟨L, e4, rfl, rfl, rfl, (CHv.at Y hZ hEL H).trans ?_⟩
      rw [← hp.2.1]; exact e5)
/-! the ends -/
theorem gRetP {w : Value} {t : FieldType} {i : Instr} {K J : Nat} (X : Stand p l e R s m args below meth c T locs cells slots) (hx : p.tables.exec = Jvm.exec) (hlk : meth.locks = false) (hret : meth.sig.returnType = some t) (hn : narrow t w = w)
    (hi : (i = .ireturn ∧ (t = .int ∨ t = .boolean ∨ t = .byte ∨ t = .char ∨ t = .short) ∧ ∃ z, w = .int z) ∨ (i = .lreturn ∧ t = .long ∧ ∃ z, w = .long z) ∨ (i = .dreturn ∧ t = .double ∧ ∃ z, w = .double z) ∨ (i = .freturn ∧ t = .float ∧ ∃ z, w = .float z) ∨ (i = .areturn ∧ t.isReference = true ∧ w.isRef = true))
    (hd : decode c.code pc = .ok (i, 1)) (eT : T.heap = h) (hK : cells ≤ K) (hJ : slots ≤ J) (hQ : Q (some w) h locs) : Go p e below (PP s Q K J) T (mkF m pc Ls (w :: st)) := by
  obtain ⟨fs, hr, hrun, hended, hW, hsame⟩ := X.leave (v := some w) (fun h => by rw [hret] at h; cases h)
  exact ⟨_, _, retOut X hx hret hn hi hd hr, hrun, hended, _, _, rfl, by show Q (some w) T.heap locs; rw [eT]; exact hQ, ⟨_, rfl⟩, hW, hsame.mono hK hJ⟩
theorem gRetP0 {K J : Nat} (X : Stand p l e R s m args below meth c T locs cells slots) (hx : p.tables.exec = Jvm.exec) (hlk : meth.locks = false) (hret : meth.sig.returnType = none)
    (hd : decode c.code pc = .ok (.return_, 1)) (eT : T.heap = h) (hK : cells ≤ K) (hJ : slots ≤ J) (hQ : Q none h locs) : Go p e below (PP s Q K J) T (mkF m pc Ls []) := by
  obtain ⟨fs, hr, hrun, hended, hW, hsame⟩ := X.leave (v := none) (fun _ => rfl)
  exact ⟨_, _, X.returnOut hx hret hd hr, hrun, hended, _, _, rfl, by show Q none T.heap locs; rw [eT]; exact hQ, ⟨_, rfl⟩, hW, hsame.mono hK hJ⟩
theorem monoW {s t : State} {o : Outcome} {L : List Loc} {k n K J : Nat} (q : ReturnedEndW s o t L k n) (hK : k ≤ K) (hJ : n ≤ J) : ReturnedEndW s o t L K J := ⟨q.1, q.2.1, q.2.2.1, q.2.2.2.mono hK hJ⟩
theorem gRetS {w : Value} {t : FieldType} {i : Instr} {K J : Nat} (X : Stand p l e R (s.setVm vm0) m args below meth c T locs cells slots) (hx : p.tables.exec = Jvm.exec) (hlk : meth.locks = false) (hret : meth.sig.returnType = some t) (hn : narrow t w = w)
    (hi : (i = .ireturn ∧ (t = .int ∨ t = .boolean ∨ t = .byte ∨ t = .char ∨ t = .short) ∧ ∃ z, w = .int z) ∨ (i = .lreturn ∧ t = .long ∧ ∃ z, w = .long z) ∨ (i = .dreturn ∧ t = .double ∧ ∃ z, w = .double z) ∨ (i = .freturn ∧ t = .float ∧ ∃ z, w = .float z) ∨ (i = .areturn ∧ t.isReference = true ∧ w.isRef = true))
    (hd : decode c.code pc = .ok (i, 1)) (eT : T.heap = h) (hS : s.Since vm0 k0) (hk : k0 ≤ h.size) (hZ : Z.Warmed39 vm0) (hEL : EW Z a0 EL) (C : CHr Z EL s.vm s.heap vm0 h) (hK : cells ≤ K) (hJ : slots ≤ J) (hQ : Q (some w) h locs) : Go p e below (PS Z EL s Q K J) T (mkF m pc Ls (w :: st)) := by
  subst eT
  obtain ⟨fs, hr, hrun, hended, hW⟩ := X.leaveW hS hk (v := some w) (fun h => by rw [hret] at h; cases h) hlk
  exact ⟨_, _, retOut X hx hret hn hi hd hr, hrun, hended, _, _, rfl, hQ, C.trans (show CHr Z EL vm0 T.heap T.vm T.heap from CHv.at X hZ hEL C.1), monoW hW hK hJ⟩
theorem gRetS0 {K J : Nat} (X : Stand p l e R (s.setVm vm0) m args below meth c T locs cells slots) (hx : p.tables.exec = Jvm.exec) (hlk : meth.locks = false) (hret : meth.sig.returnType = none)
    (hd : decode c.code pc = .ok (.return_, 1)) (eT : T.heap = h) (hS : s.Since vm0 k0) (hk : k0 ≤ h.size) (hZ : Z.Warmed39 vm0) (hEL : EW Z a0 EL) (C : CHr Z EL s.vm s.heap vm0 h) (hK : cells ≤ K) (hJ : slots ≤ J) (hQ : Q none h locs) : Go p e below (PS Z EL s Q K J) T (mkF m pc Ls []) := by
  subst eT
  obtain ⟨fs, hr, hrun, hended, hW⟩ := X.leaveW hS hk (v := none) (fun _ => rfl) hlk
  exact ⟨_, _, X.returnOut hx hret hd hr, hrun, hended, _, _, rfl, hQ, C.trans (show CHr Z EL vm0 T.heap T.vm T.heap from CHv.at X hZ hEL C.1), monoW hW hK hJ⟩
theorem gRetL {w : Value} {t : FieldType} {i : Instr} {K J : Nat} (X : Stand p l e R (s.setVm vm0) m args below meth c T locs cells slots) (hx : p.tables.exec = Jvm.exec) (hlk : meth.locks = false) (hret : meth.sig.returnType = some t) (hn : narrow t w = w)
    (hi : (i = .ireturn ∧ (t = .int ∨ t = .boolean ∨ t = .byte ∨ t = .char ∨ t = .short) ∧ ∃ z, w = .int z) ∨ (i = .lreturn ∧ t = .long ∧ ∃ z, w = .long z) ∨ (i = .dreturn ∧ t = .double ∧ ∃ z, w = .double z) ∨ (i = .freturn ∧ t = .float ∧ ∃ z, w = .float z) ∨ (i = .areturn ∧ t.isReference = true ∧ w.isRef = true))
    (hd : decode c.code pc = .ok (i, 1)) (eT : T.heap = h) (hS : s.Since vm0 k0) (hk : k0 ≤ h.size) (hK : cells ≤ K) (hJ : slots ≤ J) (hQ : Q (some w) h locs) : Go p e below (PL s Q K J) T (mkF m pc Ls (w :: st)) := by
  subst eT
  obtain ⟨fs, hr, hrun, hended, hW⟩ := X.leaveW hS hk (v := some w) (fun h => by rw [hret] at h; cases h) hlk
  exact ⟨_, _, retOut X hx hret hn hi hd hr, hrun, hended, _, _, rfl, hQ, monoW hW hK hJ⟩
theorem fitsRef {v : Value} (hv : v.isRef = true) (C : String) : fits (.object C) v = true := by rcases ref_cases hv with rfl | ⟨a, rfl⟩ <;> rfl
theorem catRef {v : Value} (hv : v.isRef = true) : v.category = 1 := by rcases ref_cases hv with rfl | ⟨a, rfl⟩ <;> rfl
theorem storeRef {v : Value} {ls : Array Slot} {k : Nat} {o : Slot} {l' : Array Slot} (hv : v.isRef = true) (h1 : ls[k]? = some o) (h2 : One o) (h3 : ls.setIfInBounds k (.val v) = l') : storeLocals ls k v = some l' := h3 ▸ XS.store1 h1 h2 (catRef hv)
/-! single steps -/
theorem gaload (X : Stand p l e R s m args below meth c T locs cells slots) (hx : p.tables.exec = Jvm.exec) {k : Nat} {v : Value} (pc' : Nat) (hd : decode c.code pc = .ok (.aload k, 2)) (hp : pc + 2 = pc') (hl : Ls[k]? = some (.val v)) (hv : v.isRef = true) (r : Go p e below P T (mkF m pc' Ls (v :: st))) : Go p e below P T (mkF m pc Ls (st)) := by
  subst hp; exact Go.of (fun _ q => XS.aload X.here hx rfl hd hl hv q) r
theorem galoadN (X : Stand p l e R s m args below meth c T locs cells slots) (hx : p.tables.exec = Jvm.exec) {k : Fin 4} {v : Value} (pc' : Nat) (hd : decode c.code pc = .ok (.aload_n k, 1)) (hp : pc + 1 = pc') (hl : Ls[k.val]? = some (.val v)) (hv : v.isRef = true) (r : Go p e below P T (mkF m pc' Ls (v :: st))) : Go p e below P T (mkF m pc Ls (st)) := by
  subst hp; exact Go.of (fun _ q => XS.aloadN X.here hx rfl hd hl hv q) r
theorem giload (X : Stand p l e R s m args below meth c T locs cells slots) (hx : p.tables.exec = Jvm.exec) {k : Nat} {v : Int32} (pc' : Nat) (hd : decode c.code pc = .ok (.iload k, 2)) (hp : pc + 2 = pc') (hl : Ls[k]? = some (.val (.int v))) (r : Go p e below P T (mkF m pc' Ls (.int v :: st))) : Go p e below P T (mkF m pc Ls (st)) := by
  subst hp; exact Go.of (fun _ q => XS.iload X.here hx rfl hd hl q) r
theorem giloadN (X : Stand p l e R s m args below meth c T locs cells slots) (hx : p.tables.exec = Jvm.exec) {k : Fin 4} {v : Int32} (pc' : Nat) (hd : decode c.code pc = .ok (.iload_n k, 1)) (hp : pc + 1 = pc') (hl : Ls[k.val]? = some (.val (.int v))) (r : Go p e below P T (mkF m pc' Ls (.int v :: st))) : Go p e below P T (mkF m pc Ls (st)) := by
  subst hp; exact Go.of (fun _ q => XS.iloadN X.here hx rfl hd hl q) r
theorem glload (X : Stand p l e R s m args below meth c T locs cells slots) (hx : p.tables.exec = Jvm.exec) {k : Nat} {v : Int64} (pc' : Nat) (hd : decode c.code pc = .ok (.lload k, 2)) (hp : pc + 2 = pc') (hl : Ls[k]? = some (.val (.long v))) (r : Go p e below P T (mkF m pc' Ls (.long v :: st))) : Go p e below P T (mkF m pc Ls (st)) := by
  subst hp; exact Go.of (fun _ q => XS.lload X.here hx rfl hd hl q) r
theorem glloadN (X : Stand p l e R s m args below meth c T locs cells slots) (hx : p.tables.exec = Jvm.exec) {k : Fin 4} {v : Int64} (pc' : Nat) (hd : decode c.code pc = .ok (.lload_n k, 1)) (hp : pc + 1 = pc') (hl : Ls[k.val]? = some (.val (.long v))) (r : Go p e below P T (mkF m pc' Ls (.long v :: st))) : Go p e below P T (mkF m pc Ls (st)) := by
  subst hp; exact Go.of (fun _ q => XS.lloadN X.here hx rfl hd hl q) r
theorem gistore (X : Stand p l e R s m args below meth c T locs cells slots) (hx : p.tables.exec = Jvm.exec) {k : Nat} {x : Int32} (l' : Array Slot) (pc' : Nat) (hd : decode c.code pc = .ok (.istore k, 2)) (hp : pc + 2 = pc') (hl : storeLocals Ls k (.int x) = some l') (r : Go p e below P T (mkF m pc' l' (st))) : Go p e below P T (mkF m pc Ls (.int x :: st)) := by
  subst hp; exact Go.of (fun _ q => XS.istore X.here hx rfl hd rfl hl q) r
theorem gistoreN (X : Stand p l e R s m args below meth c T locs cells slots) (hx : p.tables.exec = Jvm.exec) {k : Fin 4} {x : Int32} (l' : Array Slot) (pc' : Nat) (hd : decode c.code pc = .ok (.istore_n k, 1)) (hp : pc + 1 = pc') (hl : storeLocals Ls k.val (.int x) = some l') (r : Go p e below P T (mkF m pc' l' (st))) : Go p e below P T (mkF m pc Ls (.int x :: st)) := by
  subst hp; exact Go.of (fun _ q => XS.istoreN X.here hx rfl hd rfl hl q) r
theorem glstore (X : Stand p l e R s m args below meth c T locs cells slots) (hx : p.tables.exec = Jvm.exec) {k : Nat} {x : Int64} (l' : Array Slot) (pc' : Nat) (hd : decode c.code pc = .ok (.lstore k, 2)) (hp : pc + 2 = pc') (hl : storeLocals Ls k (.long x) = some l') (r : Go p e below P T (mkF m pc' l' (st))) : Go p e below P T (mkF m pc Ls (.long x :: st)) := by
  subst hp; exact Go.of (fun _ q => XS.lstore X.here hx rfl hd rfl hl q) r
theorem glstoreN (X : Stand p l e R s m args below meth c T locs cells slots) (hx : p.tables.exec = Jvm.exec) {k : Fin 4} {x : Int64} (l' : Array Slot) (pc' : Nat) (hd : decode c.code pc = .ok (.lstore_n k, 1)) (hp : pc + 1 = pc') (hl : storeLocals Ls k.val (.long x) = some l') (r : Go p e below P T (mkF m pc' l' (st))) : Go p e below P T (mkF m pc Ls (.long x :: st)) := by
  subst hp; exact Go.of (fun _ q => XS.lstoreN X.here hx rfl hd rfl hl q) r
theorem gastore (X : Stand p l e R s m args below meth c T locs cells slots) (hx : p.tables.exec = Jvm.exec) {k : Nat} {x : Value} (l' : Array Slot) (pc' : Nat) (hd : decode c.code pc = .ok (.astore k, 2)) (hp : pc + 2 = pc') (hv : x.isRef = true) (hl : storeLocals Ls k x = some l') (r : Go p e below P T (mkF m pc' l' (st))) : Go p e below P T (mkF m pc Ls (x :: st)) := by
  subst hp; exact Go.of (fun _ q => XS.astore X.here hx rfl hd rfl hv hl q) r
theorem gastoreN (X : Stand p l e R s m args below meth c T locs cells slots) (hx : p.tables.exec = Jvm.exec) {k : Fin 4} {x : Value} (l' : Array Slot) (pc' : Nat) (hd : decode c.code pc = .ok (.astore_n k, 1)) (hp : pc + 1 = pc') (hv : x.isRef = true) (hl : storeLocals Ls k.val x = some l') (r : Go p e below P T (mkF m pc' l' (st))) : Go p e below P T (mkF m pc Ls (x :: st)) := by
  subst hp; exact Go.of (fun _ q => XS.astoreN X.here hx rfl hd rfl hv hl q) r
theorem giconst (X : Stand p l e R s m args below meth c T locs cells slots) (hx : p.tables.exec = Jvm.exec) {i : Int} (v : Int32) (pc' : Nat) (hd : decode c.code pc = .ok (.iconst i, 1)) (hp : pc + 1 = pc') (hv : Int32.ofInt i = v) (r : Go p e below P T (mkF m pc' Ls (.int v :: st))) : Go p e below P T (mkF m pc Ls (st)) := by
  subst hp; exact Go.of (fun _ q => XS.iconst X.here hx rfl hd (by rw [hv]; exact q)) r
theorem gbipush (X : Stand p l e R s m args below meth c T locs cells slots) (hx : p.tables.exec = Jvm.exec) {i : Int} (v : Int32) (pc' : Nat) (hd : decode c.code pc = .ok (.bipush i, 2)) (hp : pc + 2 = pc') (hv : (Int8.ofInt i).toInt32 = v) (r : Go p e below P T (mkF m pc' Ls (.int v :: st))) : Go p e below P T (mkF m pc Ls (st)) := by
  subst hp; exact Go.of (fun _ q => XS.bipush X.here hx rfl hd (by rw [hv]; exact q)) r
theorem gsipush (X : Stand p l e R s m args below meth c T locs cells slots) (hx : p.tables.exec = Jvm.exec) {i : Int} (v : Int32) (pc' : Nat) (hd : decode c.code pc = .ok (.sipush i, 3)) (hp : pc + 3 = pc') (hv : (Int16.ofInt i).toInt32 = v) (r : Go p e below P T (mkF m pc' Ls (.int v :: st))) : Go p e below P T (mkF m pc Ls (st)) := by
  subst hp; exact Go.of (fun _ q => XS.sipush X.here hx rfl hd (by rw [hv]; exact q)) r
theorem glconst (X : Stand p l e R s m args below meth c T locs cells slots) (hx : p.tables.exec = Jvm.exec) {k : Fin 2} (v : Int64) (pc' : Nat) (hd : decode c.code pc = .ok (.lconst k, 1)) (hp : pc + 1 = pc') (hv : Int64.ofNat k = v) (r : Go p e below P T (mkF m pc' Ls (.long v :: st))) : Go p e below P T (mkF m pc Ls (st)) := by
  subst hp; exact Go.of (fun _ q => XS.lconst X.here hx rfl hd (by rw [hv]; exact q)) r
theorem gaconstNull (X : Stand p l e R s m args below meth c T locs cells slots) (hx : p.tables.exec = Jvm.exec) (pc' : Nat) (hd : decode c.code pc = .ok (.aconst_null, 1)) (hp : pc + 1 = pc') (r : Go p e below P T (mkF m pc' Ls (.null :: st))) : Go p e below P T (mkF m pc Ls (st)) := by
  subst hp; exact Go.of (fun _ q => XS.aconstNull X.here hx rfl hd q) r
theorem giadd (X : Stand p l e R s m args below meth c T locs cells slots) (hx : p.tables.exec = Jvm.exec) {x y : Int32} (pc' : Nat) (hd : decode c.code pc = .ok (.iadd, 1)) (hp : pc + 1 = pc') (r : Go p e below P T (mkF m pc' Ls (.int (x + y) :: st))) : Go p e below P T (mkF m pc Ls (.int y :: .int x :: st)) := by
  subst hp; exact Go.of (fun _ q => XS.iadd X.here hx rfl hd rfl q) r
theorem gisub (X : Stand p l e R s m args below meth c T locs cells slots) (hx : p.tables.exec = Jvm.exec) {x y : Int32} (pc' : Nat) (hd : decode c.code pc = .ok (.isub, 1)) (hp : pc + 1 = pc') (r : Go p e below P T (mkF m pc' Ls (.int (x - y) :: st))) : Go p e below P T (mkF m pc Ls (.int y :: .int x :: st)) := by
  subst hp; exact Go.of (fun _ q => XS.isub X.here hx rfl hd rfl q) r
theorem gimul (X : Stand p l e R s m args below meth c T locs cells slots) (hx : p.tables.exec = Jvm.exec) {x y : Int32} (pc' : Nat) (hd : decode c.code pc = .ok (.imul, 1)) (hp : pc + 1 = pc') (r : Go p e below P T (mkF m pc' Ls (.int (x * y) :: st))) : Go p e below P T (mkF m pc Ls (.int y :: .int x :: st)) := by
  subst hp; exact Go.of (fun _ q => XS.imul X.here hx rfl hd rfl q) r
theorem giand (X : Stand p l e R s m args below meth c T locs cells slots) (hx : p.tables.exec = Jvm.exec) {x y : Int32} (pc' : Nat) (hd : decode c.code pc = .ok (.iand, 1)) (hp : pc + 1 = pc') (r : Go p e below P T (mkF m pc' Ls (.int (x &&& y) :: st))) : Go p e below P T (mkF m pc Ls (.int y :: .int x :: st)) := by
  subst hp; exact Go.of (fun _ q => XS.iand X.here hx rfl hd rfl q) r
theorem gior (X : Stand p l e R s m args below meth c T locs cells slots) (hx : p.tables.exec = Jvm.exec) {x y : Int32} (pc' : Nat) (hd : decode c.code pc = .ok (.ior, 1)) (hp : pc + 1 = pc') (r : Go p e below P T (mkF m pc' Ls (.int (x ||| y) :: st))) : Go p e below P T (mkF m pc Ls (.int y :: .int x :: st)) := by
  subst hp; exact Go.of (fun _ q => XS.ior X.here hx rfl hd rfl q) r
theorem gixor (X : Stand p l e R s m args below meth c T locs cells slots) (hx : p.tables.exec = Jvm.exec) {x y : Int32} (pc' : Nat) (hd : decode c.code pc = .ok (.ixor, 1)) (hp : pc + 1 = pc') (r : Go p e below P T (mkF m pc' Ls (.int (x ^^^ y) :: st))) : Go p e below P T (mkF m pc Ls (.int y :: .int x :: st)) := by
  subst hp; exact Go.of (fun _ q => XS.ixor X.here hx rfl hd rfl q) r
theorem gishl (X : Stand p l e R s m args below meth c T locs cells slots) (hx : p.tables.exec = Jvm.exec) {x y : Int32} (pc' : Nat) (hd : decode c.code pc = .ok (.ishl, 1)) (hp : pc + 1 = pc') (r : Go p e below P T (mkF m pc' Ls (.int (x <<< (y &&& 31)) :: st))) : Go p e below P T (mkF m pc Ls (.int y :: .int x :: st)) := by
  subst hp; exact Go.of (fun _ q => XS.ishl X.here hx rfl hd rfl q) r
theorem gishr (X : Stand p l e R s m args below meth c T locs cells slots) (hx : p.tables.exec = Jvm.exec) {x y : Int32} (pc' : Nat) (hd : decode c.code pc = .ok (.ishr, 1)) (hp : pc + 1 = pc') (r : Go p e below P T (mkF m pc' Ls (.int (x >>> (y &&& 31)) :: st))) : Go p e below P T (mkF m pc Ls (.int y :: .int x :: st)) := by
  subst hp; exact Go.of (fun _ q => XS.ishr X.here hx rfl hd rfl q) r
theorem giushr (X : Stand p l e R s m args below meth c T locs cells slots) (hx : p.tables.exec = Jvm.exec) {x y : Int32} (pc' : Nat) (hd : decode c.code pc = .ok (.iushr, 1)) (hp : pc + 1 = pc') (r : Go p e below P T (mkF m pc' Ls (.int ((x.toUInt32 >>> (y &&& 31).toUInt32).toInt32) :: st))) : Go p e below P T (mkF m pc Ls (.int y :: .int x :: st)) := by
  subst hp; exact Go.of (fun _ q => XS.iushr X.here hx rfl hd rfl q) r
theorem gladd (X : Stand p l e R s m args below meth c T locs cells slots) (hx : p.tables.exec = Jvm.exec) {x y : Int64} (pc' : Nat) (hd : decode c.code pc = .ok (.ladd, 1)) (hp : pc + 1 = pc') (r : Go p e below P T (mkF m pc' Ls (.long (x + y) :: st))) : Go p e below P T (mkF m pc Ls (.long y :: .long x :: st)) := by
  subst hp; exact Go.of (fun _ q => XS.ladd X.here hx rfl hd rfl q) r
theorem glsub (X : Stand p l e R s m args below meth c T locs cells slots) (hx : p.tables.exec = Jvm.exec) {x y : Int64} (pc' : Nat) (hd : decode c.code pc = .ok (.lsub, 1)) (hp : pc + 1 = pc') (r : Go p e below P T (mkF m pc' Ls (.long (x - y) :: st))) : Go p e below P T (mkF m pc Ls (.long y :: .long x :: st)) := by
  subst hp; exact Go.of (fun _ q => XS.lsub X.here hx rfl hd rfl q) r
theorem glmul (X : Stand p l e R s m args below meth c T locs cells slots) (hx : p.tables.exec = Jvm.exec) {x y : Int64} (pc' : Nat) (hd : decode c.code pc = .ok (.lmul, 1)) (hp : pc + 1 = pc') (r : Go p e below P T (mkF m pc' Ls (.long (x * y) :: st))) : Go p e below P T (mkF m pc Ls (.long y :: .long x :: st)) := by
  subst hp; exact Go.of (fun _ q => XS.lmul X.here hx rfl hd rfl q) r
theorem gland (X : Stand p l e R s m args below meth c T locs cells slots) (hx : p.tables.exec = Jvm.exec) {x y : Int64} (pc' : Nat) (hd : decode c.code pc = .ok (.land, 1)) (hp : pc + 1 = pc') (r : Go p e below P T (mkF m pc' Ls (.long (x &&& y) :: st))) : Go p e below P T (mkF m pc Ls (.long y :: .long x :: st)) := by
  subst hp; exact Go.of (fun _ q => XS.land X.here hx rfl hd rfl q) r
theorem glor (X : Stand p l e R s m args below meth c T locs cells slots) (hx : p.tables.exec = Jvm.exec) {x y : Int64} (pc' : Nat) (hd : decode c.code pc = .ok (.lor, 1)) (hp : pc + 1 = pc') (r : Go p e below P T (mkF m pc' Ls (.long (x ||| y) :: st))) : Go p e below P T (mkF m pc Ls (.long y :: .long x :: st)) := by
  subst hp; exact Go.of (fun _ q => XS.lor X.here hx rfl hd rfl q) r
theorem glxor (X : Stand p l e R s m args below meth c T locs cells slots) (hx : p.tables.exec = Jvm.exec) {x y : Int64} (pc' : Nat) (hd : decode c.code pc = .ok (.lxor, 1)) (hp : pc + 1 = pc') (r : Go p e below P T (mkF m pc' Ls (.long (x ^^^ y) :: st))) : Go p e below P T (mkF m pc Ls (.long y :: .long x :: st)) := by
  subst hp; exact Go.of (fun _ q => XS.lxor X.here hx rfl hd rfl q) r
theorem gidiv (X : Stand p l e R s m args below meth c T locs cells slots) (hx : p.tables.exec = Jvm.exec) {x y : Int32} (pc' : Nat) (hd : decode c.code pc = .ok (.idiv, 1)) (hp : pc + 1 = pc') (hy : y ≠ 0) (r : Go p e below P T (mkF m pc' Ls (.int (x / y) :: st))) : Go p e below P T (mkF m pc Ls (.int y :: .int x :: st)) := by
  subst hp; exact Go.of (fun _ q => XS.idiv X.here hx rfl hd rfl hy q) r
theorem girem (X : Stand p l e R s m args below meth c T locs cells slots) (hx : p.tables.exec = Jvm.exec) {x y : Int32} (pc' : Nat) (hd : decode c.code pc = .ok (.irem, 1)) (hp : pc + 1 = pc') (hy : y ≠ 0) (r : Go p e below P T (mkF m pc' Ls (.int (x % y) :: st))) : Go p e below P T (mkF m pc Ls (.int y :: .int x :: st)) := by
  subst hp; exact Go.of (fun _ q => iremM X hx rfl hd rfl hy q) r
theorem gineg (X : Stand p l e R s m args below meth c T locs cells slots) (hx : p.tables.exec = Jvm.exec) {x : Int32} (pc' : Nat) (hd : decode c.code pc = .ok (.ineg, 1)) (hp : pc + 1 = pc') (r : Go p e below P T (mkF m pc' Ls (.int (-x) :: st))) : Go p e below P T (mkF m pc Ls (.int x :: st)) := by
  subst hp; exact Go.of (fun _ q => XS.ineg X.here hx rfl hd rfl q) r
theorem gi2b (X : Stand p l e R s m args below meth c T locs cells slots) (hx : p.tables.exec = Jvm.exec) {x : Int32} (pc' : Nat) (hd : decode c.code pc = .ok (.i2b, 1)) (hp : pc + 1 = pc') (r : Go p e below P T (mkF m pc' Ls (.int (x.toInt8.toInt32) :: st))) : Go p e below P T (mkF m pc Ls (.int x :: st)) := by
  subst hp; exact Go.of (fun _ q => XS.i2b X.here hx rfl hd rfl q) r
theorem gi2s (X : Stand p l e R s m args below meth c T locs cells slots) (hx : p.tables.exec = Jvm.exec) {x : Int32} (pc' : Nat) (hd : decode c.code pc = .ok (.i2s, 1)) (hp : pc + 1 = pc') (r : Go p e below P T (mkF m pc' Ls (.int (x.toInt16.toInt32) :: st))) : Go p e below P T (mkF m pc Ls (.int x :: st)) := by
  subst hp; exact Go.of (fun _ q => XS.i2s X.here hx rfl hd rfl q) r
theorem gi2c (X : Stand p l e R s m args below meth c T locs cells slots) (hx : p.tables.exec = Jvm.exec) {x : Int32} (pc' : Nat) (hd : decode c.code pc = .ok (.i2c, 1)) (hp : pc + 1 = pc') (r : Go p e below P T (mkF m pc' Ls (.int (x.toUInt32.toUInt16.toUInt32.toInt32) :: st))) : Go p e below P T (mkF m pc Ls (.int x :: st)) := by
  subst hp; exact Go.of (fun _ q => XS.i2c X.here hx rfl hd rfl q) r
theorem gi2l (X : Stand p l e R s m args below meth c T locs cells slots) (hx : p.tables.exec = Jvm.exec) {x : Int32} (pc' : Nat) (hd : decode c.code pc = .ok (.i2l, 1)) (hp : pc + 1 = pc') (r : Go p e below P T (mkF m pc' Ls (.long x.toInt64 :: st))) : Go p e below P T (mkF m pc Ls (.int x :: st)) := by
  subst hp; exact Go.of (fun _ q => XS.i2l X.here hx rfl hd rfl q) r
theorem gl2i (X : Stand p l e R s m args below meth c T locs cells slots) (hx : p.tables.exec = Jvm.exec) {x : Int64} (pc' : Nat) (hd : decode c.code pc = .ok (.l2i, 1)) (hp : pc + 1 = pc') (r : Go p e below P T (mkF m pc' Ls (.int x.toInt32 :: st))) : Go p e below P T (mkF m pc Ls (.long x :: st)) := by
  subst hp; exact Go.of (fun _ q => XS.l2i X.here hx rfl hd rfl q) r
theorem glneg (X : Stand p l e R s m args below meth c T locs cells slots) (hx : p.tables.exec = Jvm.exec) {x : Int64} (pc' : Nat) (hd : decode c.code pc = .ok (.lneg, 1)) (hp : pc + 1 = pc') (r : Go p e below P T (mkF m pc' Ls (.long (-x) :: st))) : Go p e below P T (mkF m pc Ls (.long x :: st)) := by
  subst hp; exact Go.of (fun _ q => XS.lneg X.here hx rfl hd rfl q) r
theorem glcmp (X : Stand p l e R s m args below meth c T locs cells slots) (hx : p.tables.exec = Jvm.exec) {x y : Int64} (pc' : Nat) (hd : decode c.code pc = .ok (.lcmp, 1)) (hp : pc + 1 = pc') (r : Go p e below P T (mkF m pc' Ls (.int (if x > y then 1 else if x = y then 0 else -1) :: st))) : Go p e below P T (mkF m pc Ls (.long y :: .long x :: st)) := by
  subst hp; exact Go.of (fun _ q => XS.lcmp X.here hx rfl hd rfl q) r
theorem gpop (X : Stand p l e R s m args below meth c T locs cells slots) (hx : p.tables.exec = Jvm.exec) {x : Value} (pc' : Nat) (hd : decode c.code pc = .ok (.pop, 1)) (hp : pc + 1 = pc') (hc : x.category = 1) (r : Go p e below P T (mkF m pc' Ls (st))) : Go p e below P T (mkF m pc Ls (x :: st)) := by
  subst hp; exact Go.of (fun _ q => XS.pop X.here hx rfl hd rfl hc q) r
theorem gdup (X : Stand p l e R s m args below meth c T locs cells slots) (hx : p.tables.exec = Jvm.exec) {x : Value} (pc' : Nat) (hd : decode c.code pc = .ok (.dup, 1)) (hp : pc + 1 = pc') (hc : x.category = 1) (r : Go p e below P T (mkF m pc' Ls (x :: x :: st))) : Go p e below P T (mkF m pc Ls (x :: st)) := by
  subst hp; exact Go.of (fun _ q => XS.dup X.here hx rfl hd rfl hc q) r
theorem gdupX1 (X : Stand p l e R s m args below meth c T locs cells slots) (hx : p.tables.exec = Jvm.exec) {x y : Value} (pc' : Nat) (hd : decode c.code pc = .ok (.dup_x1, 1)) (hp : pc + 1 = pc') (hc : x.category = 1) (hc2 : y.category = 1) (r : Go p e below P T (mkF m pc' Ls (x :: y :: x :: st))) : Go p e below P T (mkF m pc Ls (x :: y :: st)) := by
  subst hp; exact Go.of (fun _ q => XS.dupX1 X.here hx rfl hd rfl hc hc2 q) r
theorem gdup2 (X : Stand p l e R s m args below meth c T locs cells slots) (hx : p.tables.exec = Jvm.exec) {x y : Value} (pc' : Nat) (hd : decode c.code pc = .ok (.dup2, 1)) (hp : pc + 1 = pc') (hc : x.category = 1) (hc2 : y.category = 1) (r : Go p e below P T (mkF m pc' Ls (x :: y :: x :: y :: st))) : Go p e below P T (mkF m pc Ls (x :: y :: st)) := by
  subst hp; exact Go.of (fun _ q => Jvm.Free.XT.dup2 X.here hx rfl hd rfl hc hc2 q) r
theorem gswap (X : Stand p l e R s m args below meth c T locs cells slots) (hx : p.tables.exec = Jvm.exec) {x y : Value} (pc' : Nat) (hd : decode c.code pc = .ok (.swap, 1)) (hp : pc + 1 = pc') (hc : x.category = 1) (hc2 : y.category = 1) (r : Go p e below P T (mkF m pc' Ls (y :: x :: st))) : Go p e below P T (mkF m pc Ls (x :: y :: st)) := by
  subst hp; exact Go.of (fun _ q => XS.swap X.here hx rfl hd rfl hc hc2 q) r
theorem giinc (X : Stand p l e R s m args below meth c T locs cells slots) (hx : p.tables.exec = Jvm.exec) {k : Nat} {cst : Int} {x : Int32} (l' : Array Slot) (pc' : Nat) (hd : decode c.code pc = .ok (.iinc k cst, 3)) (hp : pc + 3 = pc') (hl : Ls[k]? = some (.val (.int x))) (hl' : storeLocals Ls k (.int (x + Int32.ofInt cst)) = some l') (r : Go p e below P T (mkF m pc' l' (st))) : Go p e below P T (mkF m pc Ls (st)) := by
  subst hp; exact Go.of (fun _ q => XS.iinc X.here hx rfl hd hl hl' q) r
theorem ggoto (X : Stand p l e R s m args below meth c T locs cells slots) (hx : p.tables.exec = Jvm.exec) {o : Int} (pc' : Nat) (hd : decode c.code pc = .ok (.goto o, 3)) (ho : 0 ≤ (pc : Int) + o) (hp : ((pc : Int) + o).toNat = pc') (r : Go p e below P T (mkF m pc' Ls (st))) : Go p e below P T (mkF m pc Ls (st)) :=
  Go.of (fun _ q => XS.goto X.here hx rfl rfl hd ho hp q) r
theorem gifYes (X : Stand p l e R s m args below meth c T locs cells slots) (hx : p.tables.exec = Jvm.exec) {o : Int} {cd : ClassFile.Cond} {x : Int32} (pc' : Nat) (hd : decode c.code pc = .ok (.ifCond cd o, 3)) (hc : ifCond.holds cd x = true) (ho : 0 ≤ (pc : Int) + o) (hp : ((pc : Int) + o).toNat = pc') (r : Go p e below P T (mkF m pc' Ls (st))) : Go p e below P T (mkF m pc Ls (.int x :: st)) :=
  Go.of (fun _ q => XS.ifYes X.here hx rfl rfl hd rfl hc ho hp q) r
theorem gifNo (X : Stand p l e R s m args below meth c T locs cells slots) (hx : p.tables.exec = Jvm.exec) {o : Int} {cd : ClassFile.Cond} {x : Int32} (pc' : Nat) (hd : decode c.code pc = .ok (.ifCond cd o, 3)) (hp : pc + 3 = pc') (hc : ifCond.holds cd x = false) (r : Go p e below P T (mkF m pc' Ls (st))) : Go p e below P T (mkF m pc Ls (.int x :: st)) := by
  subst hp; exact Go.of (fun _ q => XS.ifNo X.here hx rfl hd rfl hc q) r
theorem gicmpYes (X : Stand p l e R s m args below meth c T locs cells slots) (hx : p.tables.exec = Jvm.exec) {o : Int} {cd : ClassFile.Cond} {x y : Int32} (pc' : Nat) (hd : decode c.code pc = .ok (.if_icmp cd o, 3)) (hc : if_icmp.holds cd x y = true) (ho : 0 ≤ (pc : Int) + o) (hp : ((pc : Int) + o).toNat = pc') (r : Go p e below P T (mkF m pc' Ls (st))) : Go p e below P T (mkF m pc Ls (.int y :: .int x :: st)) :=
  Go.of (fun _ q => XS.icmpYes X.here hx rfl rfl hd rfl hc ho hp q) r
theorem gicmpNo (X : Stand p l e R s m args below meth c T locs cells slots) (hx : p.tables.exec = Jvm.exec) {o : Int} {cd : ClassFile.Cond} {x y : Int32} (pc' : Nat) (hd : decode c.code pc = .ok (.if_icmp cd o, 3)) (hp : pc + 3 = pc') (hc : if_icmp.holds cd x y = false) (r : Go p e below P T (mkF m pc' Ls (st))) : Go p e below P T (mkF m pc Ls (.int y :: .int x :: st)) := by
  subst hp; exact Go.of (fun _ q => XS.icmpNo X.here hx rfl hd rfl hc q) r
theorem gifnullYes (X : Stand p l e R s m args below meth c T locs cells slots) (hx : p.tables.exec = Jvm.exec) {o : Int} (pc' : Nat) (hd : decode c.code pc = .ok (.ifnull o, 3)) (ho : 0 ≤ (pc : Int) + o) (hp : ((pc : Int) + o).toNat = pc') (r : Go p e below P T (mkF m pc' Ls (st))) : Go p e below P T (mkF m pc Ls (.null :: st)) :=
  Go.of (fun _ q => XS.ifnullYes X.here hx rfl rfl hd rfl ho hp q) r
theorem gifnullNo (X : Stand p l e R s m args below meth c T locs cells slots) (hx : p.tables.exec = Jvm.exec) {o : Int} {b : Addr} (pc' : Nat) (hd : decode c.code pc = .ok (.ifnull o, 3)) (hp : pc + 3 = pc') (r : Go p e below P T (mkF m pc' Ls (st))) : Go p e below P T (mkF m pc Ls (.ref b :: st)) := by
  subst hp; exact Go.of (fun _ q => XS.ifnullNo X.here hx rfl hd rfl q) r
theorem gifnonnullYes (X : Stand p l e R s m args below meth c T locs cells slots) (hx : p.tables.exec = Jvm.exec) {o : Int} {b : Addr} (pc' : Nat) (hd : decode c.code pc = .ok (.ifnonnull o, 3)) (ho : 0 ≤ (pc : Int) + o) (hp : ((pc : Int) + o).toNat = pc') (r : Go p e below P T (mkF m pc' Ls (st))) : Go p e below P T (mkF m pc Ls (.ref b :: st)) :=
  Go.of (fun _ q => XS.ifnonnullYes X.here hx rfl rfl hd rfl ho hp q) r
theorem gifnonnullNo (X : Stand p l e R s m args below meth c T locs cells slots) (hx : p.tables.exec = Jvm.exec) {o : Int} (pc' : Nat) (hd : decode c.code pc = .ok (.ifnonnull o, 3)) (hp : pc + 3 = pc') (r : Go p e below P T (mkF m pc' Ls (st))) : Go p e below P T (mkF m pc Ls (.null :: st)) := by
  subst hp; exact Go.of (fun _ q => XS.ifnonnullNo X.here hx rfl hd rfl q) r
theorem gacmp (X : Stand p l e R s m args below meth c T locs cells slots) (hx : p.tables.exec = Jvm.exec) {o : Int} {cd : ACond} {x y : Value} (same : Bool) (pc' : Nat) (hd : decode c.code pc = .ok (.if_acmp cd o, 3)) (h1 : x.isRef = true) (h2 : y.isRef = true) (hq : decide (x = y) = same) (ho : 0 ≤ (pc : Int) + o) (hp : pc' = if acV cd same = true then ((pc : Int) + o).toNat else pc + 3) (r : Go p e below P T (mkF m pc' Ls st)) : Go p e below P T (mkF m pc Ls (y :: x :: st)) :=
  Go.of (fun _ q => acmp X hx rfl h1 h2 rfl hd rfl hq ho hp q) r
theorem gcheckcastNull (X : Stand p l e R s m args below meth c T locs cells slots) (hx : p.tables.exec = Jvm.exec) {index : Nat} (pc' : Nat) (hd : decode c.code pc = .ok (.checkcast index, 3)) (hp : pc + 3 = pc') (r : Go p e below P T (mkF m pc' Ls (.null :: st))) : Go p e below P T (mkF m pc Ls (.null :: st)) := by
  subst hp; exact Go.of (fun _ q => X.checkcastNull hx (g := mkF m pc Ls (.null :: st)) rfl rfl hd _ q) r
theorem ginstanceofNull (X : Stand p l e R s m args below meth c T locs cells slots) (hx : p.tables.exec = Jvm.exec) {index : Nat} (pc' : Nat) (hd : decode c.code pc = .ok (.instanceof index, 3)) (hp : pc + 3 = pc') (r : Go p e below P T (mkF m pc' Ls (.int 0 :: st))) : Go p e below P T (mkF m pc Ls (.null :: st)) := by
  subst hp; exact Go.of (fun _ q => X.instanceofNull hx (g := mkF m pc Ls (.null :: st)) rfl rfl hd _ q) r
theorem gldcI (X : Stand p l e R s m args below meth c T locs cells slots) (hx : p.tables.exec = Jvm.exec) (hZ : Z.Warmed39 s.vm) {own : String} {index : Nat} {v : Int32} (hown : s.vm.findClass own = some m.cls) (w : (Jvm.Cond.constant own index v).before a0 Z = true) (pc' : Nat) (hd : decode c.code pc = .ok (.ldc index, 2)) (hp : pc + 2 = pc') (r : Go p e below P T (mkF m pc' Ls (.int v :: st))) : Go p e below P T (mkF m pc Ls (st)) := by
  subst hp; exact Go.of (fun _ q => X.ldcInt hx hown (mvT hZ w) (g := mkF m pc Ls st) rfl hd _ q) r
theorem gldcWI (X : Stand p l e R s m args below meth c T locs cells slots) (hx : p.tables.exec = Jvm.exec) (hZ : Z.Warmed39 s.vm) {own : String} {index : Nat} {v : Int32} (hown : s.vm.findClass own = some m.cls) (w : (Jvm.Cond.constant own index v).before a0 Z = true) (pc' : Nat) (hd : decode c.code pc = .ok (.ldc_w index, 3)) (hp : pc + 3 = pc') (r : Go p e below P T (mkF m pc' Ls (.int v :: st))) : Go p e below P T (mkF m pc Ls (st)) := by
  subst hp; exact Go.of (fun _ q => X.ldcwInt hx hown (mvT hZ w) (g := mkF m pc Ls st) rfl hd _ q) r
theorem gldc2J (X : Stand p l e R s m args below meth c T locs cells slots) (hx : p.tables.exec = Jvm.exec) (hZ : Z.Warmed39 s.vm) {own : String} {index : Nat} {v : Int64} (hown : s.vm.findClass own = some m.cls) (w : (Jvm.Cond.constantLong own index v).before a0 Z = true) (pc' : Nat) (hd : decode c.code pc = .ok (.ldc2_w index, 3)) (hp : pc + 3 = pc') (r : Go p e below P T (mkF m pc' Ls (.long v :: st))) : Go p e below P T (mkF m pc Ls (st)) := by
  subst hp; exact Go.of (fun _ q => X.ldc2Long hx hown (mvT hZ w) (g := mkF m pc Ls st) rfl hd _ q) r
theorem garrlen (X : Stand p l e R s m args below meth c T locs cells slots) (hx : p.tables.exec = Jvm.exec) (hZ : Z.Warmed39 s.vm) (eT : T.heap = h) {a : Addr} {k : ClassId} {ty : FieldType} {z : Int32} {vs : List Value} {dv : Value} (A : Arv Z h a k ty z vs dv) (pc' : Nat) (hd : decode c.code pc = .ok (.arraylength, 1)) (hp : pc + 1 = pc') (r : Go p e below P T (mkF m pc' Ls (.int z :: st))) : Go p e below P T (mkF m pc Ls (.ref a :: st)) := by
  subst hp
  obtain ⟨cl, A1, -, S1, N1, -, -⟩ := A
  refine Go.of (fun _ q => X.arraylength hx (by rw [eT]; exact A1.1) (State.isArrayOf_alike hZ.alike A1.2.1) (g := mkF m pc Ls (.ref a :: st)) rfl rfl hd _ (by rw [len_of S1 N1]; exact q)) r
theorem giaload (X : Stand p l e R s m args below meth c T locs cells slots) (hx : p.tables.exec = Jvm.exec) (hZ : Z.Warmed39 s.vm) (eT : T.heap = h) {a : Addr} {k : ClassId} {z j : Int32} {vs : List Value} {dv : Value} (A : Arv Z h a k .int z vs dv) (v : Value) (hj : ¬ j < 0) (hj2 : j < z) (hv : vs.getD j.toNatClampNeg dv = v) (pc' : Nat) (hd : decode c.code pc = .ok (.iaload, 1)) (hp : pc + 1 = pc') (r : Go p e below P T (mkF m pc' Ls (v :: st))) : Go p e below P T (mkF m pc Ls (.int j :: .ref a :: st)) := by
  subst hp
  obtain ⟨cl, A1, -, S1, N1, H1, -⟩ := A
  have hin := inb_of S1 ⟨hj, hj2⟩
  exact Go.of (fun _ q => X.iaload hx (by rw [eT]; exact A1.1) (State.isArrayOf_alike hZ.alike A1.2.1) A1.2.2 hin (H1.at hin hv) (g := mkF m pc Ls (.int j :: .ref a :: st)) rfl rfl hd _ q) r
theorem gcaload (X : Stand p l e R s m args below meth c T locs cells slots) (hx : p.tables.exec = Jvm.exec) (hZ : Z.Warmed39 s.vm) (eT : T.heap = h) {a : Addr} {k : ClassId} {z j : Int32} {vs : List Value} {dv : Value} (A : Arv Z h a k .char z vs dv) (v : Value) (hj : ¬ j < 0) (hj2 : j < z) (hv : vs.getD j.toNatClampNeg dv = v) (pc' : Nat) (hd : decode c.code pc = .ok (.caload, 1)) (hp : pc + 1 = pc') (r : Go p e below P T (mkF m pc' Ls (v :: st))) : Go p e below P T (mkF m pc Ls (.int j :: .ref a :: st)) := by
  subst hp
  obtain ⟨cl, A1, -, S1, N1, H1, -⟩ := A
  have hin := inb_of S1 ⟨hj, hj2⟩
  exact Go.of (fun _ q => X.caload hx (by rw [eT]; exact A1.1) (State.isArrayOf_alike hZ.alike A1.2.1) A1.2.2 hin (H1.at hin hv) (g := mkF m pc Ls (.int j :: .ref a :: st)) rfl rfl hd _ q) r
theorem gbaload (X : Stand p l e R s m args below meth c T locs cells slots) (hx : p.tables.exec = Jvm.exec) (hZ : Z.Warmed39 s.vm) (eT : T.heap = h) {a : Addr} {k : ClassId} {z j : Int32} {vs : List Value} {dv : Value} (A : Arv Z h a k .byte z vs dv) (v : Value) (hj : ¬ j < 0) (hj2 : j < z) (hv : vs.getD j.toNatClampNeg dv = v) (pc' : Nat) (hd : decode c.code pc = .ok (.baload, 1)) (hp : pc + 1 = pc') (r : Go p e below P T (mkF m pc' Ls (v :: st))) : Go p e below P T (mkF m pc Ls (.int j :: .ref a :: st)) := by
  subst hp
  obtain ⟨cl, A1, -, S1, N1, H1, -⟩ := A
  have hin := inb_of S1 ⟨hj, hj2⟩
  exact Go.of (fun _ q => X.baloadBytes hx (by rw [eT]; exact A1.1) (State.isArrayOf_alike hZ.alike A1.2.1) A1.2.2 hin (H1.at hin hv) (g := mkF m pc Ls (.int j :: .ref a :: st)) rfl rfl hd _ q) r
theorem glaload (X : Stand p l e R s m args below meth c T locs cells slots) (hx : p.tables.exec = Jvm.exec) (hZ : Z.Warmed39 s.vm) (eT : T.heap = h) {a : Addr} {k : ClassId} {z j : Int32} {vs : List Value} {dv : Value} (A : Arv Z h a k .long z vs dv) (v : Value) (hj : ¬ j < 0) (hj2 : j < z) (hv : vs.getD j.toNatClampNeg dv = v) (pc' : Nat) (hd : decode c.code pc = .ok (.laload, 1)) (hp : pc + 1 = pc') (r : Go p e below P T (mkF m pc' Ls (v :: st))) : Go p e below P T (mkF m pc Ls (.int j :: .ref a :: st)) := by
  subst hp
  obtain ⟨cl, A1, -, S1, N1, H1, -⟩ := A
  have hin := inb_of S1 ⟨hj, hj2⟩
  exact Go.of (fun _ q => X.laload hx (by rw [eT]; exact A1.1) (State.isArrayOf_alike hZ.alike A1.2.1) A1.2.2 hin (H1.at hin hv) (g := mkF m pc Ls (.int j :: .ref a :: st)) rfl rfl hd _ q) r
theorem gaaload (X : Stand p l e R s m args below meth c T locs cells slots) (hx : p.tables.exec = Jvm.exec) (hZ : Z.Warmed39 s.vm) (eT : T.heap = h) {a : Addr} {k : ClassId} {ty : FieldType} {z j : Int32} {vs : List Value} {dv : Value} (A : Arv Z h a k ty z vs dv) (v : Value) (hj : ¬ j < 0) (hj2 : j < z) (hv : vs.getD j.toNatClampNeg dv = v) (hty : ty.isReference = true) (pc' : Nat) (hd : decode c.code pc = .ok (.aaload, 1)) (hp : pc + 1 = pc') (r : Go p e below P T (mkF m pc' Ls (v :: st))) : Go p e below P T (mkF m pc Ls (.int j :: .ref a :: st)) := by
  subst hp
  obtain ⟨cl, A1, -, S1, N1, H1, -⟩ := A
  have hin := inb_of S1 ⟨hj, hj2⟩
  exact Go.of (fun _ q => X.aaload hx (by rw [eT]; exact A1.1) (State.isArrayOf_alike hZ.alike A1.2.1) hty A1.2.2 hin (H1.at hin hv) (g := mkF m pc Ls (.int j :: .ref a :: st)) rfl rfl hd _ q) r
theorem ggetF (X : Stand p l e R s m args below meth c T locs cells slots) (hx : p.tables.exec = Jvm.exec) (hZ : Z.Warmed39 s.vm) {own R0 O n d host : String} {index : Nat} (hown : s.vm.findClass own = some m.cls) (w : (Jvm.Cond.fieldLink own index R0 n d).before a0 Z = true ∨ (Jvm.Cond.fieldLinkNest own index R0 n d host).before a0 Z = true) (via : Via Z R0 O n d) (eT : T.heap = h) {a : Addr} {v : Value} (F : Fld Z h a O n d v) (pc' : Nat) (hd : decode c.code pc = .ok (.getfield index, 3)) (hp : pc + 3 = pc') (r : ∀ T', Stand p l e R s m args below meth c T' locs cells slots → T'.heap = h → Go p e below P T' (mkF m pc' Ls (v :: st))) : Go p e below P T (mkF m pc Ls (.ref a :: st)) := by
  subst hp
  obtain ⟨T', X', e', stp⟩ := getF X hx hZ hown w via eT F (g := mkF m pc Ls (.ref a :: st)) rfl rfl hd
  exact Go.of stp (r T' X' e')
theorem ggetS (X : Stand p l e R s m args below meth c T locs cells slots) (hx : p.tables.exec = Jvm.exec) (hZ : Z.Warmed39 s.vm) {own R0 O n d host : String} {index : Nat} (hown : s.vm.findClass own = some m.cls) (w : (Jvm.Cond.fieldLink own index R0 n d).before a0 Z = true ∨ (Jvm.Cond.fieldLinkNest own index R0 n d host).before a0 Z = true) (via : Via Z R0 O n d) (eT : T.heap = h) {v : Value} (F : Sta Z h O n d v) (pc' : Nat) (hd : decode c.code pc = .ok (.getstatic index, 3)) (hp : pc + 3 = pc') (r : ∀ T', Stand p l e R s m args below meth c T' locs cells slots → T'.heap = h → Go p e below P T' (mkF m pc' Ls (v :: st))) : Go p e below P T (mkF m pc Ls st) := by
  subst hp
  obtain ⟨T', X', e', stp⟩ := getS2 X hx hZ hown w via eT F (g := mkF m pc Ls st) rfl hd
  exact Go.of stp (r T' X' e')
theorem gputF (X : Stand p l e R s m args below meth c T locs cells slots) (hx : p.tables.exec = Jvm.exec) (hZ : Z.Warmed39 s.vm) {own R0 O n d host : String} {index : Nat} (hown : s.vm.findClass own = some m.cls) (w : (Jvm.Cond.fieldLink own index R0 n d).before a0 Z = true ∨ (Jvm.Cond.fieldLinkNest own index R0 n d host).before a0 Z = true) (via : Via Z R0 O n d) (eT : T.heap = h) {C : String} {kk : Nat} {ty : FieldType} {a : Addr} {v old : Value} (F : Fld Z h a O n d old) (E : Exa Z h a C) (L : (Jvm.Cond.lays C O n d).before a0 Z = true ∨ ((Jvm.Cond.laysFinal C O n d).before a0 Z = true ∧ own = O ∧ meth.name = "<init>")) (wi : (Jvm.Cond.instantiable C kk).before a0 Z = true) (hty : parseFieldDescriptor d = some ty) (hn : narrow ty v = v) (hf : fits ty v = true) {n0 : Nat} (N : Fr n0 locs) (ge : n0 ≤ a) (pc' : Nat) (hd : decode c.code pc = .ok (.putfield index, 3)) (hp : pc + 3 = pc') (r : ∀ T' h' L', Stand p l e R s m args below meth c T' L' cells slots → T'.heap = h' → Fr n0 L' → Wr h h' a (Jvm.RoadKit.slotOf Z O n d) v → Go p e below P T' (mkF m pc' Ls st)) : Go p e below P T (mkF m pc Ls (v :: .ref a :: st)) := by
  subst hp
  obtain ⟨T', h', X', e', W', stp⟩ := putF X hx hZ hown w via eT F E L wi hty hn hf (g := mkF m pc Ls (v :: .ref a :: st)) rfl rfl hd
  exact Go.of stp (r T' h' _ X' e' (Fr.snoc X' N ge) W')
theorem gnewO (X : Stand p l e R s m args below meth c T locs cells slots) (hx : p.tables.exec = Jvm.exec) (hZ : Z.Warmed39 s.vm) {own C : String} {index n : Nat} (hown : s.vm.findClass own = some m.cls) (w : (Jvm.Cond.classLink own index C).before a0 Z = true) (wi : (Jvm.Cond.instantiable C n).before a0 Z = true) (wz : (Jvm.Cond.initialized C).before a0 Z = true) (eT : T.heap = h) (cells' slots' : Nat) (hcl : cells + 1 = cells') (hsl : slots + n = slots') (hc : cells' ≤ R.cells) (hl : slots' ≤ R.slots) (pc' : Nat) (hd : decode c.code pc = .ok (.new index, 3)) (hp : pc + 3 = pc') (r : ∀ T' h' a, Stand p l e R s m args below meth c T' locs cells' slots' → T'.heap = h' → a = h.size → Ext h h' → Exa Z h' a C → (∀ {O nm d : String} {ty : FieldType}, Laid Z a0 C O nm d → parseFieldDescriptor d = some ty → Fld Z h' a O nm d (defaultValue ty)) → Go p e below P T' (mkF m pc' Ls (.ref a :: st))) : Go p e below P T (mkF m pc Ls st) := by
  subst hp hcl hsl
  obtain ⟨T', h', X', e', E', A', D', -, stp⟩ := newO X hx hZ hown w wi wz eT (g := mkF m pc Ls st) rfl hd hc hl
  exact Go.of stp (r T' h' _ X' e' rfl E' A' D')
theorem gnewP (X : Stand p l e R s m args below meth c T locs cells slots) (hx : p.tables.exec = Jvm.exec) (hZ : Z.Warmed39 s.vm) {aty : ArrayType} (w : (Jvm.Cond.arrayClass (newarray.typeOf aty)).before a0 Z = true) (eT : T.heap = h) {n : Int32} (hn : ¬ n < 0) (cap : Nat) (hcap : n.toNatClampNeg ≤ cap) (hb : cap * 8 ≤ 536870912) (cells' slots' : Nat) (hcl : cells + 1 = cells') (hsl : slots + cap = slots') (hc : cells' ≤ R.cells) (hl : slots' ≤ R.slots) (pc' : Nat) (hd : decode c.code pc = .ok (.newarray aty, 2)) (hp : pc + 2 = pc') (r : ∀ T' h' a k, Stand p l e R s m args below meth c T' locs cells' slots' → T'.heap = h' → a = h.size → Ext h h' → Arv Z h' a k (newarray.typeOf aty) n [] (defaultValue (newarray.typeOf aty)) → Go p e below P T' (mkF m pc' Ls (.ref a :: st))) : Go p e below P T (mkF m pc Ls (.int n :: st)) := by
  subst hp hcl hsl
  obtain ⟨T', h', k, X', e', E', A', stp⟩ := newP X hx hZ w eT (g := mkF m pc Ls (.int n :: st)) rfl hd rfl hn hcap hb hc hl
  exact Go.of stp (r T' h' _ k X' e' rfl E' (Arv.new A' hn))
theorem gcastore (X : Stand p l e R s m args below meth c T locs cells slots) (hx : p.tables.exec = Jvm.exec) (hZ : Z.Warmed39 s.vm) (eT : T.heap = h) {a : Addr} {k : ClassId} {z j x : Int32} {vs : List Value} {dv : Value} (A : Arv Z h a k .char z vs dv) (hj : ¬ j < 0) (hj2 : j < z) (i : Nat) (hji : j.toNatClampNeg = i) (hi : i < vs.length) {n0 : Nat} (N : Fr n0 locs) (ge : n0 ≤ a) (pc' : Nat) (hd : decode c.code pc = .ok (.castore, 1)) (hp : pc + 1 = pc') (r : ∀ T' h' L', Stand p l e R s m args below meth c T' L' cells slots → T'.heap = h' → Fr n0 L' → Wr h h' a j.toNatClampNeg (.int (nar .char x)) → Arv Z h' a k .char z (vs.set i (.int (nar .char x))) dv → Go p e below P T' (mkF m pc' Ls st)) : Go p e below P T (mkF m pc Ls (.int x :: .int j :: .ref a :: st)) := by
  subst hp
  obtain ⟨cl, A1, q1, S1, N1, H1, G1⟩ := A
  have hin := inb_of S1 ⟨hj, hj2⟩
  obtain ⟨T', h', X', e', W', stp⟩ := stC X hx hZ eT A1 hin (g := mkF m pc Ls (.int x :: .int j :: .ref a :: st)) rfl rfl hd
  exact Go.of stp (r T' h' _ X' e' (Fr.snoc X' N ge) W' (Arv.set A1 q1 S1 N1 H1 G1 (fits_nar_char x) W' i hji hi))
theorem gbastore (X : Stand p l e R s m args below meth c T locs cells slots) (hx : p.tables.exec = Jvm.exec) (hZ : Z.Warmed39 s.vm) (eT : T.heap = h) {a : Addr} {k : ClassId} {z j x : Int32} {vs : List Value} {dv : Value} (A : Arv Z h a k .byte z vs dv) (hj : ¬ j < 0) (hj2 : j < z) (i : Nat) (hji : j.toNatClampNeg = i) (hi : i < vs.length) {n0 : Nat} (N : Fr n0 locs) (ge : n0 ≤ a) (pc' : Nat) (hd : decode c.code pc = .ok (.bastore, 1)) (hp : pc + 1 = pc') (r : ∀ T' h' L', Stand p l e R s m args below meth c T' L' cells slots → T'.heap = h' → Fr n0 L' → Wr h h' a j.toNatClampNeg (.int (nar .byte x)) → Arv Z h' a k .byte z (vs.set i (.int (nar .byte x))) dv → Go p e below P T' (mkF m pc' Ls st)) : Go p e below P T (mkF m pc Ls (.int x :: .int j :: .ref a :: st)) := by
  subst hp
  obtain ⟨cl, A1, q1, S1, N1, H1, G1⟩ := A
  have hin := inb_of S1 ⟨hj, hj2⟩
  obtain ⟨T', h', X', e', W', stp⟩ := stB X hx hZ eT A1 hin (g := mkF m pc Ls (.int x :: .int j :: .ref a :: st)) rfl rfl hd
  exact Go.of stp (r T' h' _ X' e' (Fr.snoc X' N ge) W' (Arv.set A1 q1 S1 N1 H1 G1 (fits_nar_byte x) W' i hji hi))
theorem giastore (X : Stand p l e R s m args below meth c T locs cells slots) (hx : p.tables.exec = Jvm.exec) (hZ : Z.Warmed39 s.vm) (eT : T.heap = h) {a : Addr} {k : ClassId} {z j x : Int32} {vs : List Value} {dv : Value} (A : Arv Z h a k .int z vs dv) (hj : ¬ j < 0) (hj2 : j < z) (i : Nat) (hji : j.toNatClampNeg = i) (hi : i < vs.length) {n0 : Nat} (N : Fr n0 locs) (ge : n0 ≤ a) (pc' : Nat) (hd : decode c.code pc = .ok (.iastore, 1)) (hp : pc + 1 = pc') (r : ∀ T' h' L', Stand p l e R s m args below meth c T' L' cells slots → T'.heap = h' → Fr n0 L' → Wr h h' a j.toNatClampNeg (.int (x)) → Arv Z h' a k .int z (vs.set i (.int (x))) dv → Go p e below P T' (mkF m pc' Ls st)) : Go p e below P T (mkF m pc Ls (.int x :: .int j :: .ref a :: st)) := by
  subst hp
  obtain ⟨cl, A1, q1, S1, N1, H1, G1⟩ := A
  have hin := inb_of S1 ⟨hj, hj2⟩
  obtain ⟨T', h', X', e', W', stp⟩ := stI X hx hZ eT A1 hin (g := mkF m pc Ls (.int x :: .int j :: .ref a :: st)) rfl rfl hd
  exact Go.of stp (r T' h' _ X' e' (Fr.snoc X' N ge) W' (Arv.set A1 q1 S1 N1 H1 G1 (rfl) W' i hji hi))
theorem ginitO (X : Stand p l e R s m args below meth c T locs cells slots) (hx : p.tables.exec = Jvm.exec) (hZ : Z.Warmed39 s.vm) {own : String} {idx : Nat} (hown : s.vm.findClass own = some m.cls) (w1 : (Jvm.Cond.methodLink own idx Lib.objectInit).before a0 Z = true) (w2 : (Jvm.Cond.instanceMethod Lib.objectInit).before a0 Z = true) (w3 : (Jvm.Cond.code Lib.objectInit ⟨#[0xb1]⟩ 1 none).before a0 Z = true) (eT : T.heap = h) (hsz : Ls.size = c.maxLocals) {a : Addr} (hf : 1 ≤ R.frames) (W : Nat) (hW : (st.map fun v => v.category).sum ≤ W) (hl : W + 12 ≤ R.locals) (pc' : Nat) (hd : decode c.code pc = .ok (.invokespecial idx, 3)) (hp : pc + 3 = pc') (r : ∀ T', Stand p l e R s m args below meth c T' locs cells slots → T'.heap = h → Go p e below P T' (mkF m pc' Ls st)) : Go p e below P T (mkF m pc Ls (.ref a :: st)) := by
  subst hp
  obtain ⟨T', X', e', stp⟩ := initO X hx hZ hown w1 w2 w3 eT (g := mkF m pc Ls (.ref a :: st)) rfl hsz rfl hd hf (W := W) (by show 2 * 0 + _ ≤ _; omega) hl
  exact Go.of stp (r T' X' e')
theorem gcast (X : Stand p l e R s m args below meth c T locs cells slots) (hx : p.tables.exec = Jvm.exec) (hZ : Z.Warmed39 s.vm) {own K : String} {index : Nat} (hown : s.vm.findClass own = some m.cls) (w : (Jvm.Cond.classLink own index K).before a0 Z = true) (eT : T.heap = h) {a : Addr} (F : Ins Z h a K true) (pc' : Nat) (hd : decode c.code pc = .ok (.checkcast index, 3)) (hp : pc + 3 = pc') (r : ∀ T', Stand p l e R s m args below meth c T' locs cells slots → T'.heap = h → Go p e below P T' (mkF m pc' Ls (.ref a :: st))) : Go p e below P T (mkF m pc Ls (.ref a :: st)) := by
  subst hp
  obtain ⟨T', X', e', stp⟩ := castY X hx hZ hown w eT F (g := mkF m pc Ls (.ref a :: st)) rfl rfl hd
  exact Go.of stp (r T' X' e')
theorem ginstY (X : Stand p l e R s m args below meth c T locs cells slots) (hx : p.tables.exec = Jvm.exec) (hZ : Z.Warmed39 s.vm) {own K : String} {index : Nat} (hown : s.vm.findClass own = some m.cls) (w : (Jvm.Cond.classLink own index K).before a0 Z = true) (eT : T.heap = h) {a : Addr} (F : Ins Z h a K true) (pc' : Nat) (hd : decode c.code pc = .ok (.instanceof index, 3)) (hp : pc + 3 = pc') (r : ∀ T', Stand p l e R s m args below meth c T' locs cells slots → T'.heap = h → Go p e below P T' (mkF m pc' Ls (.int 1 :: st))) : Go p e below P T (mkF m pc Ls (.ref a :: st)) := by
  subst hp
  obtain ⟨T', X', e', stp⟩ := instY X hx hZ hown w eT F (g := mkF m pc Ls (.ref a :: st)) rfl rfl hd
  exact Go.of stp (r T' X' e')
theorem gspecial (X : Stand p l e R s m args below meth c T locs cells slots) (hx : p.tables.exec = Jvm.exec) (hZ : Z.Warmed39 s.vm) {own : String} {index : Nat} (hown : s.vm.findClass own = some m.cls) {y : MethodName} (hy1 : y.name = "<init>") (w1 : (Jvm.Cond.methodLink own index y).before a0 Z = true) (w2 : (Jvm.Cond.instanceMethod y).before a0 Z = true) {bytes : ByteArray} {maxL : Nat} (w3 : (Jvm.Cond.code y bytes maxL none).before a0 Z = true) (hy : y.cls ≠ "java/lang/invoke/MethodHandle" ∧ y.cls ≠ "java/lang/invoke/VarHandle") {W k j : Nat} {argsL : List Value} {a : Addr} (hK : Pays l R p e below s args y 3 W (.ref a :: argsL).toArray h k j Q) (eT : T.heap = h) (hsz : Ls.size = c.maxLocals) (hlen : ∀ sig, parseMethodDescriptor y.desc = some sig → argsL.length = sig.parameters.length) {stk : List Value} (hs : stk = argsL.reverse ++ .ref a :: st) (hW : (st.map fun v => v.category).sum ≤ W) (cells' slots' : Nat) (hcl : cells + k = cells') (hsl : slots + j = slots') (hc : cells' ≤ R.cells) (hl : slots' ≤ R.slots) (pc' : Nat) (hd : decode c.code pc = .ok (.invokespecial index, 3)) (hp : pc + 3 = pc') (r : ∀ v T' h' L' Lc, Stand p l e R s m args below meth c T' L' cells' slots' → T'.heap = h' → L' = locs ++ Lc → Q v h' Lc → Go p e below P T' (mkF m pc' Ls (v.toList ++ st))) : Go p e below P T (mkF m pc Ls stk) := by
  subst hp hcl hsl
  obtain ⟨v, vm₁, ⟨T', L', k', n'⟩, -, X', ⟨Lc, hQ, h1, h2, h3⟩, hst⟩ := X.specialBack hx hy1 hown (mvT hZ w1) (mvT hZ w2) (mvT hZ w3) hy hK (g := mkF m pc Ls stk) rfl hsz (Steps.refl _) hlen hs (by show 2 * 0 + _ ≤ _; omega) hd (fun _ _ => ⟨rfl, eT, hc, hl⟩)
  dsimp only at X' hQ h1 h2 h3 hst
  subst h1 h2 h3
  exact Go.tr hst (r v T' _ _ Lc X' rfl rfl hQ)
theorem gvirtual (X : Stand p l e R s m args below meth c T locs cells slots) (hx : p.tables.exec = Jvm.exec) (hZ : Z.Warmed39 s.vm) {own : String} {index : Nat} (hown : s.vm.findClass own = some m.cls) {C : String} {y z : MethodName} (w1 : (Jvm.Cond.methodLink own index y).before a0 Z = true) (w2 : (Jvm.Cond.declares y).before a0 Z = true) (nf : NotFace s y) (w3 : (Jvm.Cond.selects C y z).before a0 Z = true) (w4 : (Jvm.Cond.instanceMethod z).before a0 Z = true) (hy : y.cls ≠ "java/lang/invoke/MethodHandle" ∧ y.cls ≠ "java/lang/invoke/VarHandle") {a : Addr} (E : Exa Z h a C) {W k j : Nat} {argsL : List Value} (hK : Pays l R p e below s args z 3 W (.ref a :: argsL).toArray h k j Q) (eT : T.heap = h) (hsz : Ls.size = c.maxLocals) (hlen : ∀ sig, parseMethodDescriptor y.desc = some sig → argsL.length = sig.parameters.length) {stk : List Value} (hs : stk = argsL.reverse ++ .ref a :: st) (hW : (st.map fun v => v.category).sum ≤ W) (cells' slots' : Nat) (hcl : cells + k = cells') (hsl : slots + j = slots') (hc : cells' ≤ R.cells) (hl : slots' ≤ R.slots) (pc' : Nat) (hd : decode c.code pc = .ok (.invokevirtual index, 3)) (hp : pc + 3 = pc') (r : ∀ v T' h' L' Lc, Stand p l e R s m args below meth c T' L' cells' slots' → T'.heap = h' → L' = locs ++ Lc → Q v h' Lc → Go p e below P T' (mkF m pc' Ls (v.toList ++ st))) : Go p e below P T (mkF m pc Ls stk) := by
  subst hp hcl hsl
  obtain ⟨v, vm₁, ⟨T', L', k', n'⟩, -, X', ⟨Lc, hQ, h1, h2, h3⟩, hst⟩ := X.virtualBack hx hown (mvT hZ w1) (mvT hZ w2) nf (mvT hZ w3) (mvT hZ w4) hy hK (isOf hZ eT E).choose_spec.choose_spec.1 (isOf hZ eT E).choose_spec.choose_spec.2.2 (g := mkF m pc Ls stk) rfl hsz (Steps.refl _) hlen hs (by show 2 * 0 + _ ≤ _; omega) hd (fun _ _ => ⟨rfl, eT, hc, hl⟩)
  dsimp only at X' hQ h1 h2 h3 hst
  subst h1 h2 h3
  exact Go.tr hst (r v T' _ _ Lc X' rfl rfl hQ)
theorem gstatic (X : Stand p l e R s m args below meth c T locs cells slots) (hx : p.tables.exec = Jvm.exec) (hZ : Z.Warmed39 s.vm) {own : String} {index : Nat} (hown : s.vm.findClass own = some m.cls) {y : MethodName} {bytes : ByteArray} {maxL : Nat} {ret : Option FieldType} (w1 : (Jvm.Cond.methodLink own index y).before a0 Z = true) (w2 : (Jvm.Cond.static y).before a0 Z = true) (w3 : (Jvm.Cond.initialized y.cls).before a0 Z = true) (w4 : (Jvm.Cond.code y bytes maxL ret).before a0 Z = true) (hy : y.cls ≠ "java/lang/invoke/MethodHandle" ∧ y.cls ≠ "java/lang/invoke/VarHandle") {W k j : Nat} {argsL : List Value} (hK : Pays l R p e below s args y 3 W argsL.toArray h k j Q) (eT : T.heap = h) (hsz : Ls.size = c.maxLocals) (hlen : ∀ sig, parseMethodDescriptor y.desc = some sig → argsL.length = sig.parameters.length) {stk : List Value} (hs : stk = argsL.reverse ++ st) (hW : (st.map fun v => v.category).sum ≤ W) (cells' slots' : Nat) (hcl : cells + k = cells') (hsl : slots + j = slots') (hc : cells' ≤ R.cells) (hl : slots' ≤ R.slots) (pc' : Nat) (hd : decode c.code pc = .ok (.invokestatic index, 3)) (hp : pc + 3 = pc') (r : ∀ v T' h' L' Lc, Stand p l e R s m args below meth c T' L' cells' slots' → T'.heap = h' → L' = locs ++ Lc → Q v h' Lc → Go p e below P T' (mkF m pc' Ls (v.toList ++ st))) : Go p e below P T (mkF m pc Ls stk) := by
  subst hp hcl hsl
  obtain ⟨v, vm₁, ⟨T', L', k', n'⟩, -, X', ⟨Lc, hQ, h1, h2, h3⟩, hst⟩ := Jvm.LawKit.callS X hx hown (mvT hZ w1) (mvT hZ w2) (mvT hZ w3) (mvT hZ w4) hy hK (g := mkF m pc Ls stk) rfl hsz hlen hs (by show 2 * 0 + _ ≤ _; omega) hd (fun _ _ => ⟨rfl, eT, hc, hl⟩)
  dsimp only at X' hQ h1 h2 h3 hst
  subst h1 h2 h3
  exact Go.of hst (r v T' _ _ Lc X' rfl rfl hQ)
theorem gspecialS (X : Stand p l e R (s.setVm vm0) m args below meth c T locs cells slots) (hx : p.tables.exec = Jvm.exec) (hZ : Z.Warmed39 vm0) {own : String} {index : Nat} (hown : vm0.findClass own = some m.cls) {y : MethodName} (hy1 : y.name = "<init>") (w1 : (Jvm.Cond.methodLink own index y).before a0 Z = true) (w2 : (Jvm.Cond.instanceMethod y).before a0 Z = true) {bytes : ByteArray} {maxL : Nat} (w3 : (Jvm.Cond.code y bytes maxL none).before a0 Z = true) (hy : y.cls ≠ "java/lang/invoke/MethodHandle" ∧ y.cls ≠ "java/lang/invoke/VarHandle") {W k j : Nat} {argsL : List Value} {a : Addr} (hS : s.Since vm0 k0) (hk : k0 ≤ h.size) (hK : PaysS l R p e below s vm0 args y 3 W (.ref a :: argsL).toArray h k j Z EL Q) (eT : T.heap = h) (hsz : Ls.size = c.maxLocals) (hlen : ∀ sig, parseMethodDescriptor y.desc = some sig → argsL.length = sig.parameters.length) {stk : List Value} (hs : stk = argsL.reverse ++ .ref a :: st) (hW : (st.map fun v => v.category).sum ≤ W) (cells' slots' : Nat) (hcl : cells + k = cells') (hsl : slots + j = slots') (hc : cells' ≤ R.cells) (hl : slots' ≤ R.slots) (pc' : Nat) (hd : decode c.code pc = .ok (.invokespecial index, 3)) (hp : pc + 3 = pc') (r : ∀ v T' h' L' Lc vm1 k1, Stand p l e R (s.setVm vm1) m args below meth c T' L' cells' slots' → T'.heap = h' → L' = locs ++ Lc → s.Since vm1 k1 → k1 ≤ h'.size → Z.Warmed39 vm1 → vm1.findClass own = some m.cls → CHr Z EL vm0 h vm1 h' → Q v h' Lc → Go p e below P T' (mkF m pc' Ls (v.toList ++ st))) : Go p e below P T (mkF m pc Ls stk) := by
  subst hp hcl hsl
  subst eT
  obtain ⟨v, vm₁, ⟨T', L', k', n'⟩, -, X', hS', hgr, ⟨Lc, hQ, h1, h2, h3, hC⟩, hst⟩ := X.specialBackS hx hy1 hown (mvT hZ w1) (mvT hZ w2) (mvT hZ w3) hy hK (g := mkF m pc Ls stk) rfl hsz (Steps.refl _) hlen hs (by show 2 * 0 + _ ≤ _; omega) hd (fun _ _ => ⟨rfl, rfl, hc, hl⟩)
  dsimp only at X' hS' hgr hQ h1 h2 h3 hC hst
  subst h1 h2 h3
  obtain ⟨X2, hS2, hZ2, ho2⟩ := rebS (Z := Z) (own := own) hS hk X' hS' hgr hZ hown
  exact Go.tr hst (r v T' _ _ Lc _ _ X2 rfl rfl hS2 (Nat.le_refl _) hZ2 ho2 hC hQ)
theorem gvirtualS (X : Stand p l e R (s.setVm vm0) m args below meth c T locs cells slots) (hx : p.tables.exec = Jvm.exec) (hZ : Z.Warmed39 vm0) {own : String} {index : Nat} (hown : vm0.findClass own = some m.cls) {C : String} {y z : MethodName} (w1 : (Jvm.Cond.methodLink own index y).before a0 Z = true) (w2 : (Jvm.Cond.declares y).before a0 Z = true) (nf : NotFace (s.setVm vm0) y) (w3 : (Jvm.Cond.selects C y z).before a0 Z = true) (w4 : (Jvm.Cond.instanceMethod z).before a0 Z = true) (hy : y.cls ≠ "java/lang/invoke/MethodHandle" ∧ y.cls ≠ "java/lang/invoke/VarHandle") {a : Addr} (E : Exa Z h a C) {W k j : Nat} {argsL : List Value} (hS : s.Since vm0 k0) (hk : k0 ≤ h.size) (hK : PaysS l R p e below s vm0 args z 3 W (.ref a :: argsL).toArray h k j Z EL Q) (eT : T.heap = h) (hsz : Ls.size = c.maxLocals) (hlen : ∀ sig, parseMethodDescriptor y.desc = some sig → argsL.length = sig.parameters.length) {stk : List Value} (hs : stk = argsL.reverse ++ .ref a :: st) (hW : (st.map fun v => v.category).sum ≤ W) (cells' slots' : Nat) (hcl : cells + k = cells') (hsl : slots + j = slots') (hc : cells' ≤ R.cells) (hl : slots' ≤ R.slots) (pc' : Nat) (hd : decode c.code pc = .ok (.invokevirtual index, 3)) (hp : pc + 3 = pc') (r : ∀ v T' h' L' Lc vm1 k1, Stand p l e R (s.setVm vm1) m args below meth c T' L' cells' slots' → T'.heap = h' → L' = locs ++ Lc → s.Since vm1 k1 → k1 ≤ h'.size → Z.Warmed39 vm1 → vm1.findClass own = some m.cls → CHr Z EL vm0 h vm1 h' → Q v h' Lc → Go p e below P T' (mkF m pc' Ls (v.toList ++ st))) : Go p e below P T (mkF m pc Ls stk) := by
  subst hp hcl hsl
  subst eT
  obtain ⟨v, vm₁, ⟨T', L', k', n'⟩, -, X', hS', hgr, ⟨Lc, hQ, h1, h2, h3, hC⟩, hst⟩ := X.virtualBackS hx hown (mvT hZ w1) (mvT hZ w2) nf (mvT hZ w3) (mvT hZ w4) hy hK (isOf hZ rfl E).choose_spec.choose_spec.1 (isOf hZ rfl E).choose_spec.choose_spec.2.2 (g := mkF m pc Ls stk) rfl hsz (Steps.refl _) hlen hs (by show 2 * 0 + _ ≤ _; omega) hd (fun _ _ => ⟨rfl, rfl, hc, hl⟩)
  dsimp only at X' hS' hgr hQ h1 h2 h3 hC hst
  subst h1 h2 h3
  obtain ⟨X2, hS2, hZ2, ho2⟩ := rebS (Z := Z) (own := own) hS hk X' hS' hgr hZ hown
  exact Go.tr hst (r v T' _ _ Lc _ _ X2 rfl rfl hS2 (Nat.le_refl _) hZ2 ho2 hC hQ)
theorem gstaticS (X : Stand p l e R (s.setVm vm0) m args below meth c T locs cells slots) (hx : p.tables.exec = Jvm.exec) (hZ : Z.Warmed39 vm0) {own : String} {index : Nat} (hown : vm0.findClass own = some m.cls) {y : MethodName} {bytes : ByteArray} {maxL : Nat} {ret : Option FieldType} (w1 : (Jvm.Cond.methodLink own index y).before a0 Z = true) (w2 : (Jvm.Cond.static y).before a0 Z = true) (w3 : (Jvm.Cond.initialized y.cls).before a0 Z = true) (w4 : (Jvm.Cond.code y bytes maxL ret).before a0 Z = true) (hy : y.cls ≠ "java/lang/invoke/MethodHandle" ∧ y.cls ≠ "java/lang/invoke/VarHandle") {W k j : Nat} {argsL : List Value} (hS : s.Since vm0 k0) (hk : k0 ≤ h.size) (hK : PaysS l R p e below s vm0 args y 3 W argsL.toArray h k j Z EL Q) (eT : T.heap = h) (hsz : Ls.size = c.maxLocals) (hlen : ∀ sig, parseMethodDescriptor y.desc = some sig → argsL.length = sig.parameters.length) {stk : List Value} (hs : stk = argsL.reverse ++ st) (hW : (st.map fun v => v.category).sum ≤ W) (cells' slots' : Nat) (hcl : cells + k = cells') (hsl : slots + j = slots') (hc : cells' ≤ R.cells) (hl : slots' ≤ R.slots) (pc' : Nat) (hd : decode c.code pc = .ok (.invokestatic index, 3)) (hp : pc + 3 = pc') (r : ∀ v T' h' L' Lc vm1 k1, Stand p l e R (s.setVm vm1) m args below meth c T' L' cells' slots' → T'.heap = h' → L' = locs ++ Lc → s.Since vm1 k1 → k1 ≤ h'.size → Z.Warmed39 vm1 → vm1.findClass own = some m.cls → CHr Z EL vm0 h vm1 h' → Q v h' Lc → Go p e below P T' (mkF m pc' Ls (v.toList ++ st))) : Go p e below P T (mkF m pc Ls stk) := by
  subst hp hcl hsl
  subst eT
  obtain ⟨v, vm₁, ⟨T', L', k', n'⟩, -, X', hS', hgr, ⟨Lc, hQ, h1, h2, h3, hC⟩, hst⟩ := callSS X hx hown (mvT hZ w1) (mvT hZ w2) (mvT hZ w3) (mvT hZ w4) hy hK (g := mkF m pc Ls stk) rfl hsz hlen hs (by show 2 * 0 + _ ≤ _; omega) hd (fun _ _ => ⟨rfl, rfl, hc, hl⟩)
  dsimp only at X' hS' hgr hQ h1 h2 h3 hC hst
  subst h1 h2 h3
  obtain ⟨X2, hS2, hZ2, ho2⟩ := rebS (Z := Z) (own := own) hS hk X' hS' hgr hZ hown
  exact Go.tr hst (r v T' _ _ Lc _ _ X2 rfl rfl hS2 (Nat.le_refl _) hZ2 ho2 hC hQ)
theorem giface (X : Stand p l e R s m args below meth c T locs cells slots) (hx : p.tables.exec = Jvm.exec) (hZ : Z.Warmed39 s.vm) {own : String} {index : Nat} (hown : s.vm.findClass own = some m.cls) {count : Nat} {C : String} {y z : MethodName} (w1 : (Jvm.Cond.methodLink own index y).before a0 Z = true) (w2 : (Jvm.Cond.declares y).before a0 Z = true) (w3 : (Jvm.Cond.interfaceMethod y.cls y.cls y.name y.desc).before args s = true) (w4 : (Jvm.Cond.selects C y z).before a0 Z = true) (w5 : (Jvm.Cond.instanceMethod z).before a0 Z = true) (w6 : (Jvm.Cond.publicMethod z).before a0 Z = true) (w7 : (Jvm.Cond.unhidden C y.name y.desc).before a0 Z = true) (w8 : (Jvm.Cond.castable C y.cls).before a0 Z = true) (hy : y.cls ≠ "java/lang/invoke/MethodHandle" ∧ y.cls ≠ "java/lang/invoke/VarHandle") {a : Addr} (E : Exa Z h a C) {W k j : Nat} {argsL : List Value} (hK : Pays l R p e below s args z 5 W (.ref a :: argsL).toArray h k j Q) (eT : T.heap = h) (hsz : Ls.size = c.maxLocals) (hlen : ∀ sig, parseMethodDescriptor y.desc = some sig → argsL.length = sig.parameters.length) {stk : List Value} (hs : stk = argsL.reverse ++ .ref a :: st) (hW : (st.map fun v => v.category).sum ≤ W) (cells' slots' : Nat) (hcl : cells + k = cells') (hsl : slots + j = slots') (hc : cells' ≤ R.cells) (hl : slots' ≤ R.slots) (pc' : Nat) (hd : decode c.code pc = .ok (.invokeinterface index count, 5)) (hp : pc + 5 = pc') (r : ∀ v T' h' L' Lc, Stand p l e R s m args below meth c T' L' cells' slots' → T'.heap = h' → L' = locs ++ Lc → Q v h' Lc → Go p e below P T' (mkF m pc' Ls (v.toList ++ st))) : Go p e below P T (mkF m pc Ls stk) := by
  subst hp hcl hsl
  obtain ⟨v, vm₁, ⟨T', L', k', n'⟩, -, X', ⟨Lc, hQ, h1, h2, h3⟩, hst⟩ := X.interfaceBack hx hown (mvT hZ w1) (mvT hZ w2) w3 (mvT hZ w4) (mvT hZ w5) (mvT hZ w6) (mvT hZ w7) (mvT hZ w8) hy hK (isOf hZ eT E).choose_spec.choose_spec.1 (isOf hZ eT E).choose_spec.choose_spec.2.1 (isOf hZ eT E).choose_spec.choose_spec.2.2 (g := mkF m pc Ls stk) rfl hsz (Steps.refl _) hlen hs (by show 2 * 0 + _ ≤ _; omega) hd (fun _ _ => ⟨rfl, eT, hc, hl⟩)
  dsimp only at X' hQ h1 h2 h3 hst
  subst h1 h2 h3
  exact Go.tr hst (r v T' _ _ Lc X' rfl rfl hQ)
theorem gpriv (X : Stand p l e R s m args below meth c T locs cells slots) (hx : p.tables.exec = Jvm.exec) (hZ : Z.Warmed39 s.vm) {own : String} {index : Nat} (hown : s.vm.findClass own = some m.cls) {y : MethodName} {bytes : ByteArray} {maxL : Nat} {ret : Option FieldType} (w1 : (Jvm.Cond.methodLink own index y).before a0 Z = true) (w2 : (Jvm.Cond.instanceMethod y).before a0 Z = true) (w3 : (Jvm.Cond.selects y.cls y y).before a0 Z = true) (w4 : (Jvm.Cond.privateMethod y).before a0 Z = true) (w5 : (Jvm.Cond.code y bytes maxL ret).before a0 Z = true) (hy : y.cls ≠ "java/lang/invoke/MethodHandle" ∧ y.cls ≠ "java/lang/invoke/VarHandle") {a : Addr} {C : String} (E : Exa Z h a C) {W k j : Nat} {argsL : List Value} (hK : Pays l R p e below s args y 3 W (.ref a :: argsL).toArray h k j Q) (eT : T.heap = h) (hsz : Ls.size = c.maxLocals) (hlen : ∀ sig, parseMethodDescriptor y.desc = some sig → argsL.length = sig.parameters.length) {stk : List Value} (hs : stk = argsL.reverse ++ .ref a :: st) (hW : (st.map fun v => v.category).sum ≤ W) (cells' slots' : Nat) (hcl : cells + k = cells') (hsl : slots + j = slots') (hc : cells' ≤ R.cells) (hl : slots' ≤ R.slots) (pc' : Nat) (hd : decode c.code pc = .ok (.invokevirtual index, 3)) (hp : pc + 3 = pc') (r : ∀ v T' h' L' Lc, Stand p l e R s m args below meth c T' L' cells' slots' → T'.heap = h' → L' = locs ++ Lc → Q v h' Lc → Go p e below P T' (mkF m pc' Ls (v.toList ++ st))) : Go p e below P T (mkF m pc Ls stk) := by
  subst hp hcl hsl
  obtain ⟨v, vm₁, ⟨T', L', k', n'⟩, -, X', ⟨Lc, hQ, h1, h2, h3⟩, hst⟩ := X.privateBack hx hown (mvT hZ w1) (mvT hZ w2) (mvT hZ w3) (Cond.privateMethod_at (mvP hZ w4 (args := #[]))) (mvT hZ w5) hy hK (g := mkF m pc Ls stk) rfl hsz (Steps.refl _) (by rw [eT]; exact E.cell.choose_spec.1) E.cell.choose_spec.2 hlen hs (by show 2 * 0 + _ ≤ _; omega) hd (fun _ _ => ⟨rfl, eT, hc, hl⟩)
  dsimp only at X' hQ h1 h2 h3 hst
  subst h1 h2 h3
  exact Go.tr hst (r v T' _ _ Lc X' rfl rfl hQ)
theorem gsuper (X : Stand p l e R s m args below meth c T locs cells slots) (hx : p.tables.exec = Jvm.exec) (hZ : Z.Warmed39 s.vm) {own : String} {index : Nat} (hown : s.vm.findClass own = some m.cls) {y : MethodName} {bytes : ByteArray} {maxL : Nat} {ret : Option FieldType} {K : String} (w1 : (Jvm.Cond.methodLink own index y).before a0 Z = true) (w2 : (Jvm.Cond.sameMethod y.cls y.cls y.name y.desc).before a0 Z = true) (w3 : (Jvm.Cond.instanceMethod y).before a0 Z = true) (w4 : (Jvm.Cond.superclass own y.cls).before a0 Z = true) (hy1 : y.name ≠ "<init>") (wc : (Jvm.Cond.code y bytes maxL ret).before a0 Z = true) {a : Addr} (F : Ins Z h a K true) {W k j : Nat} {argsL : List Value} (hK : Pays l R p e below s args y 3 W (.ref a :: argsL).toArray h k j Q) (eT : T.heap = h) (hsz : Ls.size = c.maxLocals) (hlen : ∀ sig, parseMethodDescriptor y.desc = some sig → argsL.length = sig.parameters.length) {stk : List Value} (hs : stk = argsL.reverse ++ .ref a :: st) (hW : (st.map fun v => v.category).sum ≤ W) (cells' slots' : Nat) (hcl : cells + k = cells') (hsl : slots + j = slots') (hc : cells' ≤ R.cells) (hl : slots' ≤ R.slots) (pc' : Nat) (hd : decode c.code pc = .ok (.invokespecial index, 3)) (hp : pc + 3 = pc') (r : ∀ v T' h' L' Lc, Stand p l e R s m args below meth c T' L' cells' slots' → T'.heap = h' → L' = locs ++ Lc → Q v h' Lc → Go p e below P T' (mkF m pc' Ls (v.toList ++ st))) : Go p e below P T (mkF m pc Ls stk) := by
  subst hp hcl hsl
  obtain ⟨v, vm₁, ⟨T', L', k', n'⟩, -, X', ⟨Lc, hQ, h1, h2, h3⟩, hst⟩ := superBack X hx hZ hown w1 w2 w3 w4 hy1 hK eT F (g := mkF m pc Ls stk) rfl hsz wc hlen hs (by show 2 * 0 + _ ≤ _; omega) hd (fun _ _ => ⟨rfl, eT, hc, hl⟩)
  dsimp only at X' hQ h1 h2 h3 hst
  subst h1 h2 h3
  exact Go.tr hst (r v T' _ _ Lc X' rfl rfl hQ)
theorem gldcO (X : Stand p l e R (s.setVm vm0) m args below meth c T locs cells slots) (hx : p.tables.exec = Jvm.exec) (hZ : Z.Warmed39 vm0) {own text : String} {index : Nat} (hown : vm0.findClass own = some m.cls) (w : (Jvm.Cond.stringLink own index text).before a0 Z = true) (wS : ∀ a ∈ Bundle.stringAtoms, a.before a0 Z = true) (eT : T.heap = h) (hS : s.Since vm0 k0) (hk : k0 ≤ h.size) (hEL : EW Z a0 EL) (H : CHv Z EL vm0 h) (n : Nat) (hn : 4 * text.toList.length ≤ n) (hbig : n ≤ 536870912) (cells' slots' : Nat) (hcl : cells + 2 = cells') (hsl : slots + (n + 4) = slots') (hc : cells' ≤ R.cells) (hl : slots' ≤ R.slots) (pc' : Nat) (hd : decode c.code pc = .ok (.ldc index, 2)) (hp : pc + 2 = pc') (r : ∀ a T' h' vm1 k1, Stand p l e R (s.setVm vm1) m args below meth c T' locs cells' slots' → T'.heap = h' → Ext h h' → s.Since vm1 k1 → k1 ≤ h'.size → Z.Warmed39 vm1 → vm1.findClass own = some m.cls → CHr Z EL vm0 h vm1 h' → Lit (s.setVm vm1) own index a → Go p e below P T' (mkF m pc' Ls (.ref a :: st))) : Go p e below P T (mkF m pc Ls st) := by
  subst hp hcl hsl
  obtain ⟨a, T', h', k1, X', e', E', hS', hk', hZ', ho', hC', hL', stp⟩ := ldcOH X hx hZ hown w wS eT hS hk hEL H (g := mkF m pc Ls st) rfl hd hn hbig hc hl
  exact Go.of stp (r a T' h' _ k1 X' e' E' hS' hk' hZ' ho' hC' hL')
theorem gldcV (X : Stand p l e R (s.setVm vm0) m args below meth c T locs cells slots) (hx : p.tables.exec = Jvm.exec) (hZ : Z.Warmed39 vm0) {own text : String} {index : Nat} (hown : vm0.findClass own = some m.cls) (w : (Jvm.Cond.stringLink own index text).before a0 Z = true) (wS : ∀ a ∈ Bundle.stringAtoms, a.before a0 Z = true) (eT : T.heap = h) (hS : s.Since vm0 k0) (hk : k0 ≤ h.size) (hEL : EW Z a0 EL) (hmem : (own, index) ∈ EL) (H : CHv Z EL vm0 h) (vs : List Value) (z : Int32) (ht : (∀ c ∈ text.toList, c.toNat < 256) ∧ text.toList.map (fun c => Value.int (Jvm.Lit.byteI c.toNat.toUInt16)) = vs) (hz : ¬ z < 0) (hzl : z.toNatClampNeg = vs.length) (n : Nat) (hn : 4 * text.toList.length ≤ n) (hbig : n ≤ 536870912) (cells' slots' : Nat) (hcl : cells + 2 = cells') (hsl : slots + (n + 4) = slots') (hc : cells' ≤ R.cells) (hl : slots' ≤ R.slots) (pc' : Nat) (hd : decode c.code pc = .ok (.ldc index, 2)) (hp : pc + 2 = pc') (r : ∀ a T' h' vm1 k1 b kb, Stand p l e R (s.setVm vm1) m args below meth c T' locs cells' slots' → T'.heap = h' → Ext h h' → s.Since vm1 k1 → k1 ≤ h'.size → Z.Warmed39 vm1 → vm1.findClass own = some m.cls → CHr Z EL vm0 h vm1 h' → Lit (s.setVm vm1) own index a → Exa Z h' a "java/lang/String" → Fld Z h' a "java/lang/String" "coder" "B" (.int 0) → Fld Z h' a "java/lang/String" "value" "[B" (.ref b) → Arv Z h' b kb .byte z vs (.int 0) → (∀ x, Safe Z EL vm1 h' x → x ≠ a ∧ x ≠ b) → Go p e below P T' (mkF m pc' Ls (.ref a :: st))) : Go p e below P T (mkF m pc Ls st) := by
  subst hp hcl hsl
  obtain ⟨a, T', h', k1, b, kb, X', e', E', hS', hk', hZ', ho', q1, q2, q3, q4, -, -, hC', hL', hne, stp⟩ := ldcCH X hx hZ hown w wS eT hS hk hEL hmem H ht hz hzl (g := mkF m pc Ls st) rfl hd hn hbig hc hl
  exact Go.of stp (r a T' h' _ k1 b kb X' e' E' hS' hk' hZ' ho' hC' hL' q1 q2 q3 q4 hne)
end Own
end Jvm.Own
namespace Jvm.Pilot.@@N@@
open Jvm Jvm.ClassFile Sem Op Lib Jvm.Free Jvm.Stand Jvm.LawKit Jvm.RoadKit Bundle Jvm.Own Jvm.Pilot.@@N@@.Jvm.D
theorem own_c0 {P : Int32 → Prop} : ∀ c ∈ ([] : List Int32), P c := fun _ z => nomatch z
theorem own_cS {P : Int32 → Prop} {y : Int32} {L : List Int32} (h : P y) (r : ∀ c ∈ L, P c) : ∀ c ∈ y :: L, P c := fun c z => (List.mem_cons.mp z).elim (fun u => u ▸ h) (r c)
theorem own_lo (x : Int32) : ∃ k : Fin 256, x &&& (255 : Int32) = Int32.ofNat k.val := by
  have h : (x &&& 255).toBitVec.toNat < 256 := by
    simp only [Int32.toBitVec_and, BitVec.toNat_and]
    exact Nat.lt_succ_of_le Nat.and_le_right
  refine ⟨⟨_, h⟩, ?_⟩
  apply Int32.toBitVec_inj.mp
  show _ = BitVec.ofNat 32 _
  rw [BitVec.ofNat_toNat]; simp
theorem own_rng (x : Int32) : ¬ (x &&& (255 : Int32)) < 0 ∧ ¬ (255 : Int32) < (x &&& (255 : Int32)) := by
  obtain ⟨k, e⟩ := own_lo x
  rw [e]; clear e; revert k; decide +kernel
theorem own_i2c8 (x : Int32) : (x &&& (255 : Int32)).toUInt32.toUInt16.toUInt32.toInt32 = (x &&& (255 : Int32)) := by
  obtain ⟨k, e⟩ := own_lo x
  rw [e]; clear e; revert k; decide +kernel
theorem own_nar8 (x : Int32) : nar .char (x &&& (255 : Int32)) = (x &&& (255 : Int32)) := own_i2c8 x
theorem own_nar16 (x : Int32) : nar .char (x &&& (255 : Int32)).toUInt32.toUInt16.toUInt32.toInt32 = (x &&& (255 : Int32)) := by rw [own_i2c8]; exact own_i2c8 x
theorem own_narb (x : Int32) : nar .byte x.toInt8.toInt32 = x.toInt8.toInt32 := by show x.toInt8.toInt32.toInt8.toInt32 = _; rw [Int8.toInt8_toInt32]
theorem own_up (cs : List Int32) (h : ∀ c ∈ cs, ¬ c < 0 ∧ ¬ (255 : Int32) < c) : ∀ c ∈ cs, ¬ c < 0 ∧ ¬ (65535 : Int32) < c := fun c hc => ⟨(h c hc).1, fun q => (h c hc).2 (by rw [Int32.lt_iff_toInt_lt] at q ⊢; have e1 : (65535 : Int32).toInt = 65535 := rfl; have e2 : (255 : Int32).toInt = 255 := rfl; omega)⟩
theorem own_wS {a0 : Array Value} {Z : State} (hw : ∀ d ∈ tables_1, d.before a0 Z = true) : ∀ a ∈ Bundle.stringAtoms, a.before a0 Z = true := fun d hd => hw d ((by decide +kernel : ∀ d ∈ Bundle.stringAtoms, d ∈ tables_1) d hd)
theorem own_hws {a0 : Array Value} {Z : State} (hw : ∀ d ∈ tables_1, d.before a0 Z = true) : ∀ d ∈ StrChars.Road.words, d.before a0 Z = true := fun d hd => hw d ((by decide +kernel : ∀ d ∈ StrChars.Road.words, d ∈ tables_1) d hd)
theorem own_w0 {a0 : Array Value} {Z : State} (hw : ∀ d ∈ tables_1, d.before a0 Z = true) : (Jvm.Cond.methodLink "com/example/stallwright/stallwright/api/ApiErrorAtParameterPinLaw" (7 : Nat) ({ cls := "com/example/stallwright/stallwright/api/ApiErrorAtParameterPinLaw", name := "str", desc := "(II)Ljava/lang/String;" } : Jvm.MethodName)).before a0 Z = true := hw _ (List.mem_of_getElem? (i := 0) rfl)
theorem own_w1 {a0 : Array Value} {Z : State} (hw : ∀ d ∈ tables_1, d.before a0 Z = true) : (Jvm.Cond.static ({ cls := "com/example/stallwright/stallwright/api/ApiErrorAtParameterPinLaw", name := "str", desc := "(II)Ljava/lang/String;" } : Jvm.MethodName)).before a0 Z = true := hw _ (List.mem_of_getElem? (i := 1) rfl)
theorem own_w2 {a0 : Array Value} {Z : State} (hw : ∀ d ∈ tables_1, d.before a0 Z = true) : (Jvm.Cond.initialized "com/example/stallwright/stallwright/api/ApiErrorAtParameterPinLaw").before a0 Z = true := hw _ (List.mem_of_getElem? (i := 2) rfl)
theorem own_w3 {a0 : Array Value} {Z : State} (hw : ∀ d ∈ tables_1, d.before a0 Z = true) : (Jvm.Cond.code ({ cls := "com/example/stallwright/stallwright/api/ApiErrorAtParameterPinLaw", name := "str", desc := "(II)Ljava/lang/String;" } : Jvm.MethodName) method_3_code (6 : Nat) (Option.some (Jvm.ClassFile.FieldType.object "java/lang/String"))).before a0 Z = true := hw _ (List.mem_of_getElem? (i := 3) rfl)
theorem own_w4 {a0 : Array Value} {Z : State} (hw : ∀ d ∈ tables_1, d.before a0 Z = true) : (Jvm.Cond.methodLink "com/example/stallwright/stallwright/api/ApiErrorAtParameterPinLaw" (41 : Nat) ({ cls := "java/lang/String", name := "valueOf", desc := "(C)Ljava/lang/String;" } : Jvm.MethodName)).before a0 Z = true := hw _ (List.mem_of_getElem? (i := 4) rfl)
theorem own_w5 {a0 : Array Value} {Z : State} (hw : ∀ d ∈ tables_1, d.before a0 Z = true) : (Jvm.Cond.static ({ cls := "java/lang/String", name := "valueOf", desc := "(C)Ljava/lang/String;" } : Jvm.MethodName)).before a0 Z = true := hw _ (List.mem_of_getElem? (i := 5) rfl)
theorem own_w6 {a0 : Array Value} {Z : State} (hw : ∀ d ∈ tables_1, d.before a0 Z = true) : (Jvm.Cond.initialized "java/lang/String").before a0 Z = true := hw _ (List.mem_of_getElem? (i := 6) rfl)
theorem own_w7 {a0 : Array Value} {Z : State} (hw : ∀ d ∈ tables_1, d.before a0 Z = true) : (Jvm.Cond.code ({ cls := "java/lang/String", name := "valueOf", desc := "(C)Ljava/lang/String;" } : Jvm.MethodName) jdk_42_method_139_code (1 : Nat) (Option.some (Jvm.ClassFile.FieldType.object "java/lang/String"))).before a0 Z = true := hw _ (List.mem_of_getElem? (i := 7) rfl)
theorem own_w8 {a0 : Array Value} {Z : State} (hw : ∀ d ∈ tables_1, d.before a0 Z = true) : (Jvm.Cond.fieldLink "java/lang/String" (38 : Nat) "java/lang/String" "COMPACT_STRINGS" "Z").before a0 Z = true := hw _ (List.mem_of_getElem? (i := 8) rfl)
theorem own_w9 {a0 : Array Value} {Z : State} (hw : ∀ d ∈ tables_1, d.before a0 Z = true) : (Jvm.Cond.methodLink "java/lang/String" (1015 : Nat) ({ cls := "java/lang/StringLatin1", name := "canEncode", desc := "(C)Z" } : Jvm.MethodName)).before a0 Z = true := hw _ (List.mem_of_getElem? (i := 9) rfl)
theorem own_w10 {a0 : Array Value} {Z : State} (hw : ∀ d ∈ tables_1, d.before a0 Z = true) : (Jvm.Cond.static ({ cls := "java/lang/StringLatin1", name := "canEncode", desc := "(C)Z" } : Jvm.MethodName)).before a0 Z = true := hw _ (List.mem_of_getElem? (i := 10) rfl)
theorem own_w11 {a0 : Array Value} {Z : State} (hw : ∀ d ∈ tables_1, d.before a0 Z = true) : (Jvm.Cond.initialized "java/lang/StringLatin1").before a0 Z = true := hw _ (List.mem_of_getElem? (i := 11) rfl)
theorem own_w12 {a0 : Array Value} {Z : State} (hw : ∀ d ∈ tables_1, d.before a0 Z = true) : (Jvm.Cond.code ({ cls := "java/lang/StringLatin1", name := "canEncode", desc := "(C)Z" } : Jvm.MethodName) jdk_43_method_3_code (1 : Nat) (Option.some Jvm.ClassFile.FieldType.boolean)).before a0 Z = true := hw _ (List.mem_of_getElem? (i := 12) rfl)
theorem own_w13 {a0 : Array Value} {Z : State} (hw : ∀ d ∈ tables_1, d.before a0 Z = true) : (Jvm.Cond.classLink "java/lang/String" (10 : Nat) "java/lang/String").before a0 Z = true := hw _ (List.mem_of_getElem? (i := 13) rfl)
theorem own_w14 {a0 : Array Value} {Z : State} (hw : ∀ d ∈ tables_1, d.before a0 Z = true) : (Jvm.Cond.instantiable "java/lang/String" (4 : Nat)).before a0 Z = true := hw _ (List.mem_of_getElem? (i := 14) rfl)
theorem own_w15 {a0 : Array Value} {Z : State} (hw : ∀ d ∈ tables_1, d.before a0 Z = true) : (Jvm.Cond.methodLink "java/lang/String" (1018 : Nat) ({ cls := "java/lang/StringLatin1", name := "toBytes", desc := "(C)[B" } : Jvm.MethodName)).before a0 Z = true := hw _ (List.mem_of_getElem? (i := 15) rfl)
theorem own_w16 {a0 : Array Value} {Z : State} (hw : ∀ d ∈ tables_1, d.before a0 Z = true) : (Jvm.Cond.static ({ cls := "java/lang/StringLatin1", name := "toBytes", desc := "(C)[B" } : Jvm.MethodName)).before a0 Z = true := hw _ (List.mem_of_getElem? (i := 16) rfl)
theorem own_w17 {a0 : Array Value} {Z : State} (hw : ∀ d ∈ tables_1, d.before a0 Z = true) : (Jvm.Cond.code ({ cls := "java/lang/StringLatin1", name := "toBytes", desc := "(C)[B" } : Jvm.MethodName) jdk_43_method_46_code (1 : Nat) (Option.some (Jvm.ClassFile.FieldType.array Jvm.ClassFile.FieldType.byte))).before a0 Z = true := hw _ (List.mem_of_getElem? (i := 17) rfl)
theorem own_w18 {a0 : Array Value} {Z : State} (hw : ∀ d ∈ tables_1, d.before a0 Z = true) : (Jvm.Cond.arrayClass Jvm.ClassFile.FieldType.byte).before a0 Z = true := hw _ (List.mem_of_getElem? (i := 18) rfl)
theorem own_w19 {a0 : Array Value} {Z : State} (hw : ∀ d ∈ tables_1, d.before a0 Z = true) : (Jvm.Cond.methodLink "java/lang/String" (209 : Nat) ({ cls := "java/lang/String", name := "<init>", desc := "([BB)V" } : Jvm.MethodName)).before a0 Z = true := hw _ (List.mem_of_getElem? (i := 19) rfl)
theorem own_w20 {a0 : Array Value} {Z : State} (hw : ∀ d ∈ tables_1, d.before a0 Z = true) : (Jvm.Cond.instanceMethod ({ cls := "java/lang/String", name := "<init>", desc := "([BB)V" } : Jvm.MethodName)).before a0 Z = true := hw _ (List.mem_of_getElem? (i := 20) rfl)
theorem own_w22 {a0 : Array Value} {Z : State} (hw : ∀ d ∈ tables_1, d.before a0 Z = true) : (Jvm.Cond.code ({ cls := "java/lang/String", name := "<init>", desc := "([BB)V" } : Jvm.MethodName) jdk_42_method_151_code (3 : Nat) (Option.none : Option Jvm.ClassFile.FieldType)).before a0 Z = true := hw _ (List.mem_of_getElem? (i := 22) rfl)
theorem own_w23 {a0 : Array Value} {Z : State} (hw : ∀ d ∈ tables_1, d.before a0 Z = true) : (Jvm.Cond.methodLink "java/lang/String" (1 : Nat) ({ cls := "java/lang/Object", name := "<init>", desc := "()V" } : Jvm.MethodName)).before a0 Z = true := hw _ (List.mem_of_getElem? (i := 23) rfl)
theorem own_w24 {a0 : Array Value} {Z : State} (hw : ∀ d ∈ tables_1, d.before a0 Z = true) : (Jvm.Cond.instanceMethod ({ cls := "java/lang/Object", name := "<init>", desc := "()V" } : Jvm.MethodName)).before a0 Z = true := hw _ (List.mem_of_getElem? (i := 24) rfl)
theorem own_w25 {a0 : Array Value} {Z : State} (hw : ∀ d ∈ tables_1, d.before a0 Z = true) : (Jvm.Cond.code ({ cls := "java/lang/Object", name := "<init>", desc := "()V" } : Jvm.MethodName) object_method_1_code (1 : Nat) (Option.none : Option Jvm.ClassFile.FieldType)).before a0 Z = true := hw _ (List.mem_of_getElem? (i := 25) rfl)
theorem own_w26 {a0 : Array Value} {Z : State} (hw : ∀ d ∈ tables_1, d.before a0 Z = true) : (Jvm.Cond.fieldLink "java/lang/String" (9 : Nat) "java/lang/String" "value" "[B").before a0 Z = true := hw _ (List.mem_of_getElem? (i := 26) rfl)
theorem own_w27 {a0 : Array Value} {Z : State} (hw : ∀ d ∈ tables_1, d.before a0 Z = true) : (Jvm.Cond.laysFinal "java/lang/String" "java/lang/String" "value" "[B").before a0 Z = true := hw _ (List.mem_of_getElem? (i := 27) rfl)
theorem own_w28 {a0 : Array Value} {Z : State} (hw : ∀ d ∈ tables_1, d.before a0 Z = true) : (Jvm.Cond.fieldLink "java/lang/String" (15 : Nat) "java/lang/String" "coder" "B").before a0 Z = true := hw _ (List.mem_of_getElem? (i := 28) rfl)
theorem own_w29 {a0 : Array Value} {Z : State} (hw : ∀ d ∈ tables_1, d.before a0 Z = true) : (Jvm.Cond.laysFinal "java/lang/String" "java/lang/String" "coder" "B").before a0 Z = true := hw _ (List.mem_of_getElem? (i := 29) rfl)
theorem own_w30 {a0 : Array Value} {Z : State} (hw : ∀ d ∈ tables_1, d.before a0 Z = true) : (Jvm.Cond.methodLink "com/example/stallwright/stallwright/api/ApiErrorAtParameterPinLaw" (13 : Nat) ({ cls := "com/example/stallwright/stallwright/api/ApiErrorAtParameterPinLaw", name := "failure", desc := "(I)Lcom/example/stallwright/stallwright/api/Failure;" } : Jvm.MethodName)).before a0 Z = true := hw _ (List.mem_of_getElem? (i := 30) rfl)
theorem own_w31 {a0 : Array Value} {Z : State} (hw : ∀ d ∈ tables_1, d.before a0 Z = true) : (Jvm.Cond.static ({ cls := "com/example/stallwright/stallwright/api/ApiErrorAtParameterPinLaw", name := "failure", desc := "(I)Lcom/example/stallwright/stallwright/api/Failure;" } : Jvm.MethodName)).before a0 Z = true := hw _ (List.mem_of_getElem? (i := 31) rfl)
theorem own_w32 {a0 : Array Value} {Z : State} (hw : ∀ d ∈ tables_1, d.before a0 Z = true) : (Jvm.Cond.code ({ cls := "com/example/stallwright/stallwright/api/ApiErrorAtParameterPinLaw", name := "failure", desc := "(I)Lcom/example/stallwright/stallwright/api/Failure;" } : Jvm.MethodName) method_4_code (2 : Nat) (Option.some (Jvm.ClassFile.FieldType.object "com/example/stallwright/stallwright/api/Failure"))).before a0 Z = true := hw _ (List.mem_of_getElem? (i := 32) rfl)
theorem own_w33 {a0 : Array Value} {Z : State} (hw : ∀ d ∈ tables_1, d.before a0 Z = true) : (Jvm.Cond.constant "com/example/stallwright/stallwright/api/ApiErrorAtParameterPinLaw" (45 : Nat) (2147483647 : Int32)).before a0 Z = true := hw _ (List.mem_of_getElem? (i := 33) rfl)
theorem own_w34 {a0 : Array Value} {Z : State} (hw : ∀ d ∈ tables_1, d.before a0 Z = true) : (Jvm.Cond.fieldLink "com/example/stallwright/stallwright/api/ApiErrorAtParameterPinLaw" (46 : Nat) "com/example/stallwright/stallwright/api/Failure" "BAD_REQUEST" "Lcom/example/stallwright/stallwright/api/Failure;").before a0 Z = true := hw _ (List.mem_of_getElem? (i := 34) rfl)
theorem own_w35 {a0 : Array Value} {Z : State} (hw : ∀ d ∈ tables_1, d.before a0 Z = true) : (Jvm.Cond.initialized "com/example/stallwright/stallwright/api/Failure").before a0 Z = true := hw _ (List.mem_of_getElem? (i := 35) rfl)
theorem own_w36 {a0 : Array Value} {Z : State} (hw : ∀ d ∈ tables_1, d.before a0 Z = true) : (Jvm.Cond.laysStatic "com/example/stallwright/stallwright/api/Failure" "BAD_REQUEST" "Lcom/example/stallwright/stallwright/api/Failure;").before a0 Z = true := hw _ (List.mem_of_getElem? (i := 36) rfl)
theorem own_w37 {a0 : Array Value} {Z : State} (hw : ∀ d ∈ tables_1, d.before a0 Z = true) : (Jvm.Cond.methodLink "com/example/stallwright/stallwright/api/ApiErrorAtParameterPinLaw" (17 : Nat) ({ cls := "com/example/stallwright/stallwright/api/ApiError", name := "atParameter", desc := "(Ljava/lang/String;Lcom/example/stallwright/stallwright/api/Failure;Ljava/lang/String;)Lcom/example/stallwright/stallwright/api/ApiError;" } : Jvm.MethodName)).before a0 Z = true := hw _ (List.mem_of_getElem? (i := 37) rfl)
theorem own_w38 {a0 : Array Value} {Z : State} (hw : ∀ d ∈ tables_1, d.before a0 Z = true) : (Jvm.Cond.static ({ cls := "com/example/stallwright/stallwright/api/ApiError", name := "atParameter", desc := "(Ljava/lang/String;Lcom/example/stallwright/stallwright/api/Failure;Ljava/lang/String;)Lcom/example/stallwright/stallwright/api/ApiError;" } : Jvm.MethodName)).before a0 Z = true := hw _ (List.mem_of_getElem? (i := 38) rfl)
theorem own_w39 {a0 : Array Value} {Z : State} (hw : ∀ d ∈ tables_1, d.before a0 Z = true) : (Jvm.Cond.initialized "com/example/stallwright/stallwright/api/ApiError").before a0 Z = true := hw _ (List.mem_of_getElem? (i := 39) rfl)
theorem own_w40 {a0 : Array Value} {Z : State} (hw : ∀ d ∈ tables_1, d.before a0 Z = true) : (Jvm.Cond.code ({ cls := "com/example/stallwright/stallwright/api/ApiError", name := "atParameter", desc := "(Ljava/lang/String;Lcom/example/stallwright/stallwright/api/Failure;Ljava/lang/String;)Lcom/example/stallwright/stallwright/api/ApiError;" } : Jvm.MethodName) prog_1_method_4_code (3 : Nat) (Option.some (Jvm.ClassFile.FieldType.object "com/example/stallwright/stallwright/api/ApiError"))).before a0 Z = true := hw _ (List.mem_of_getElem? (i := 40) rfl)
theorem own_w41 {a0 : Array Value} {Z : State} (hw : ∀ d ∈ tables_1, d.before a0 Z = true) : (Jvm.Cond.classLink "com/example/stallwright/stallwright/api/ApiError" (8 : Nat) "com/example/stallwright/stallwright/api/ApiError").before a0 Z = true := hw _ (List.mem_of_getElem? (i := 41) rfl)
theorem own_w42 {a0 : Array Value} {Z : State} (hw : ∀ d ∈ tables_1, d.before a0 Z = true) : (Jvm.Cond.instantiable "com/example/stallwright/stallwright/api/ApiError" (4 : Nat)).before a0 Z = true := hw _ (List.mem_of_getElem? (i := 42) rfl)
theorem own_w43 {a0 : Array Value} {Z : State} (hw : ∀ d ∈ tables_1, d.before a0 Z = true) : (Jvm.Cond.methodLink "com/example/stallwright/stallwright/api/ApiError" (23 : Nat) ({ cls := "com/example/stallwright/stallwright/api/ApiError", name := "<init>", desc := "(Lcom/example/stallwright/stallwright/api/Failure;Ljava/lang/String;Ljava/lang/String;Ljava/lang/String;)V" } : Jvm.MethodName)).before a0 Z = true := hw _ (List.mem_of_getElem? (i := 43) rfl)
theorem own_w44 {a0 : Array Value} {Z : State} (hw : ∀ d ∈ tables_1, d.before a0 Z = true) : (Jvm.Cond.instanceMethod ({ cls := "com/example/stallwright/stallwright/api/ApiError", name := "<init>", desc := "(Lcom/example/stallwright/stallwright/api/Failure;Ljava/lang/String;Ljava/lang/String;Ljava/lang/String;)V" } : Jvm.MethodName)).before a0 Z = true := hw _ (List.mem_of_getElem? (i := 44) rfl)
theorem own_w45 {a0 : Array Value} {Z : State} (hw : ∀ d ∈ tables_1, d.before a0 Z = true) : (Jvm.Cond.code ({ cls := "com/example/stallwright/stallwright/api/ApiError", name := "<init>", desc := "(Lcom/example/stallwright/stallwright/api/Failure;Ljava/lang/String;Ljava/lang/String;Ljava/lang/String;)V" } : Jvm.MethodName) prog_1_method_2_code (5 : Nat) (Option.none : Option Jvm.ClassFile.FieldType)).before a0 Z = true := hw _ (List.mem_of_getElem? (i := 45) rfl)
theorem own_w46 {a0 : Array Value} {Z : State} (hw : ∀ d ∈ tables_1, d.before a0 Z = true) : (Jvm.Cond.methodLink "com/example/stallwright/stallwright/api/ApiError" (1 : Nat) ({ cls := "java/lang/Record", name := "<init>", desc := "()V" } : Jvm.MethodName)).before a0 Z = true := hw _ (List.mem_of_getElem? (i := 46) rfl)
theorem own_w47 {a0 : Array Value} {Z : State} (hw : ∀ d ∈ tables_1, d.before a0 Z = true) : (Jvm.Cond.instanceMethod ({ cls := "java/lang/Record", name := "<init>", desc := "()V" } : Jvm.MethodName)).before a0 Z = true := hw _ (List.mem_of_getElem? (i := 47) rfl)
theorem own_w49 {a0 : Array Value} {Z : State} (hw : ∀ d ∈ tables_1, d.before a0 Z = true) : (Jvm.Cond.initialized "java/lang/Record").before a0 Z = true := hw _ (List.mem_of_getElem? (i := 49) rfl)
theorem own_w50 {a0 : Array Value} {Z : State} (hw : ∀ d ∈ tables_1, d.before a0 Z = true) : (Jvm.Cond.code ({ cls := "java/lang/Record", name := "<init>", desc := "()V" } : Jvm.MethodName) jdk_30_method_1_code (1 : Nat) (Option.none : Option Jvm.ClassFile.FieldType)).before a0 Z = true := hw _ (List.mem_of_getElem? (i := 50) rfl)
theorem own_w51 {a0 : Array Value} {Z : State} (hw : ∀ d ∈ tables_1, d.before a0 Z = true) : (Jvm.Cond.methodLink "java/lang/Record" (1 : Nat) ({ cls := "java/lang/Object", name := "<init>", desc := "()V" } : Jvm.MethodName)).before a0 Z = true := hw _ (List.mem_of_getElem? (i := 51) rfl)
theorem own_w52 {a0 : Array Value} {Z : State} (hw : ∀ d ∈ tables_1, d.before a0 Z = true) : (Jvm.Cond.fieldLink "com/example/stallwright/stallwright/api/ApiError" (7 : Nat) "com/example/stallwright/stallwright/api/ApiError" "failure" "Lcom/example/stallwright/stallwright/api/Failure;").before a0 Z = true := hw _ (List.mem_of_getElem? (i := 52) rfl)
theorem own_w53 {a0 : Array Value} {Z : State} (hw : ∀ d ∈ tables_1, d.before a0 Z = true) : (Jvm.Cond.laysFinal "com/example/stallwright/stallwright/api/ApiError" "com/example/stallwright/stallwright/api/ApiError" "failure" "Lcom/example/stallwright/stallwright/api/Failure;").before a0 Z = true := hw _ (List.mem_of_getElem? (i := 53) rfl)
theorem own_w54 {a0 : Array Value} {Z : State} (hw : ∀ d ∈ tables_1, d.before a0 Z = true) : (Jvm.Cond.fieldLink "com/example/stallwright/stallwright/api/ApiError" (13 : Nat) "com/example/stallwright/stallwright/api/ApiError" "detail" "Ljava/lang/String;").before a0 Z = true := hw _ (List.mem_of_getElem? (i := 54) rfl)
theorem own_w55 {a0 : Array Value} {Z : State} (hw : ∀ d ∈ tables_1, d.before a0 Z = true) : (Jvm.Cond.laysFinal "com/example/stallwright/stallwright/api/ApiError" "com/example/stallwright/stallwright/api/ApiError" "detail" "Ljava/lang/String;").before a0 Z = true := hw _ (List.mem_of_getElem? (i := 55) rfl)
theorem own_w56 {a0 : Array Value} {Z : State} (hw : ∀ d ∈ tables_1, d.before a0 Z = true) : (Jvm.Cond.fieldLink "com/example/stallwright/stallwright/api/ApiError" (17 : Nat) "com/example/stallwright/stallwright/api/ApiError" "pointer" "Ljava/lang/String;").before a0 Z = true := hw _ (List.mem_of_getElem? (i := 56) rfl)
theorem own_w57 {a0 : Array Value} {Z : State} (hw : ∀ d ∈ tables_1, d.before a0 Z = true) : (Jvm.Cond.laysFinal "com/example/stallwright/stallwright/api/ApiError" "com/example/stallwright/stallwright/api/ApiError" "pointer" "Ljava/lang/String;").before a0 Z = true := hw _ (List.mem_of_getElem? (i := 57) rfl)
theorem own_w58 {a0 : Array Value} {Z : State} (hw : ∀ d ∈ tables_1, d.before a0 Z = true) : (Jvm.Cond.fieldLink "com/example/stallwright/stallwright/api/ApiError" (20 : Nat) "com/example/stallwright/stallwright/api/ApiError" "parameter" "Ljava/lang/String;").before a0 Z = true := hw _ (List.mem_of_getElem? (i := 58) rfl)
theorem own_w59 {a0 : Array Value} {Z : State} (hw : ∀ d ∈ tables_1, d.before a0 Z = true) : (Jvm.Cond.laysFinal "com/example/stallwright/stallwright/api/ApiError" "com/example/stallwright/stallwright/api/ApiError" "parameter" "Ljava/lang/String;").before a0 Z = true := hw _ (List.mem_of_getElem? (i := 59) rfl)
theorem own_w60 {a0 : Array Value} {Z : State} (hw : ∀ d ∈ tables_1, d.before a0 Z = true) : (Jvm.Cond.methodLink "com/example/stallwright/stallwright/api/ApiErrorAtParameterPinLaw" (23 : Nat) ({ cls := "com/example/stallwright/stallwright/api/ApiError", name := "failure", desc := "()Lcom/example/stallwright/stallwright/api/Failure;" } : Jvm.MethodName)).before a0 Z = true := hw _ (List.mem_of_getElem? (i := 60) rfl)
theorem own_w61 {a0 : Array Value} {Z : State} (hw : ∀ d ∈ tables_1, d.before a0 Z = true) : (Jvm.Cond.declares ({ cls := "com/example/stallwright/stallwright/api/ApiError", name := "failure", desc := "()Lcom/example/stallwright/stallwright/api/Failure;" } : Jvm.MethodName)).before a0 Z = true := hw _ (List.mem_of_getElem? (i := 61) rfl)
theorem own_w62 {a0 : Array Value} {Z : State} (hw : ∀ d ∈ tables_1, d.before a0 Z = true) : (Jvm.Cond.instanceMethod ({ cls := "com/example/stallwright/stallwright/api/ApiError", name := "failure", desc := "()Lcom/example/stallwright/stallwright/api/Failure;" } : Jvm.MethodName)).before a0 Z = true := hw _ (List.mem_of_getElem? (i := 62) rfl)
theorem own_w63 {a0 : Array Value} {Z : State} (hw : ∀ d ∈ tables_1, d.before a0 Z = true) : (Jvm.Cond.selects "com/example/stallwright/stallwright/api/ApiError" ({ cls := "com/example/stallwright/stallwright/api/ApiError", name := "failure", desc := "()Lcom/example/stallwright/stallwright/api/Failure;" } : Jvm.MethodName) ({ cls := "com/example/stallwright/stallwright/api/ApiError", name := "failure", desc := "()Lcom/example/stallwright/stallwright/api/Failure;" } : Jvm.MethodName)).before a0 Z = true := hw _ (List.mem_of_getElem? (i := 63) rfl)
theorem own_w64 {a0 : Array Value} {Z : State} (hw : ∀ d ∈ tables_1, d.before a0 Z = true) : (Jvm.Cond.code ({ cls := "com/example/stallwright/stallwright/api/ApiError", name := "failure", desc := "()Lcom/example/stallwright/stallwright/api/Failure;" } : Jvm.MethodName) prog_1_method_8_code (1 : Nat) (Option.some (Jvm.ClassFile.FieldType.object "com/example/stallwright/stallwright/api/Failure"))).before a0 Z = true := hw _ (List.mem_of_getElem? (i := 64) rfl)
theorem own_w65 {a0 : Array Value} {Z : State} (hw : ∀ d ∈ tables_1, d.before a0 Z = true) : (Jvm.Cond.methodLink "com/example/stallwright/stallwright/api/ApiErrorAtParameterPinLaw" (26 : Nat) ({ cls := "com/example/stallwright/stallwright/api/ApiError", name := "detail", desc := "()Ljava/lang/String;" } : Jvm.MethodName)).before a0 Z = true := hw _ (List.mem_of_getElem? (i := 65) rfl)
theorem own_w66 {a0 : Array Value} {Z : State} (hw : ∀ d ∈ tables_1, d.before a0 Z = true) : (Jvm.Cond.declares ({ cls := "com/example/stallwright/stallwright/api/ApiError", name := "detail", desc := "()Ljava/lang/String;" } : Jvm.MethodName)).before a0 Z = true := hw _ (List.mem_of_getElem? (i := 66) rfl)
theorem own_w67 {a0 : Array Value} {Z : State} (hw : ∀ d ∈ tables_1, d.before a0 Z = true) : (Jvm.Cond.instanceMethod ({ cls := "com/example/stallwright/stallwright/api/ApiError", name := "detail", desc := "()Ljava/lang/String;" } : Jvm.MethodName)).before a0 Z = true := hw _ (List.mem_of_getElem? (i := 67) rfl)
theorem own_w68 {a0 : Array Value} {Z : State} (hw : ∀ d ∈ tables_1, d.before a0 Z = true) : (Jvm.Cond.selects "com/example/stallwright/stallwright/api/ApiError" ({ cls := "com/example/stallwright/stallwright/api/ApiError", name := "detail", desc := "()Ljava/lang/String;" } : Jvm.MethodName) ({ cls := "com/example/stallwright/stallwright/api/ApiError", name := "detail", desc := "()Ljava/lang/String;" } : Jvm.MethodName)).before a0 Z = true := hw _ (List.mem_of_getElem? (i := 68) rfl)
theorem own_w69 {a0 : Array Value} {Z : State} (hw : ∀ d ∈ tables_1, d.before a0 Z = true) : (Jvm.Cond.code ({ cls := "com/example/stallwright/stallwright/api/ApiError", name := "detail", desc := "()Ljava/lang/String;" } : Jvm.MethodName) prog_1_method_9_code (1 : Nat) (Option.some (Jvm.ClassFile.FieldType.object "java/lang/String"))).before a0 Z = true := hw _ (List.mem_of_getElem? (i := 69) rfl)
theorem own_w70 {a0 : Array Value} {Z : State} (hw : ∀ d ∈ tables_1, d.before a0 Z = true) : (Jvm.Cond.methodLink "com/example/stallwright/stallwright/api/ApiErrorAtParameterPinLaw" (30 : Nat) ({ cls := "com/example/stallwright/stallwright/api/ApiError", name := "parameter", desc := "()Ljava/lang/String;" } : Jvm.MethodName)).before a0 Z = true := hw _ (List.mem_of_getElem? (i := 70) rfl)
theorem own_w71 {a0 : Array Value} {Z : State} (hw : ∀ d ∈ tables_1, d.before a0 Z = true) : (Jvm.Cond.declares ({ cls := "com/example/stallwright/stallwright/api/ApiError", name := "parameter", desc := "()Ljava/lang/String;" } : Jvm.MethodName)).before a0 Z = true := hw _ (List.mem_of_getElem? (i := 71) rfl)
theorem own_w72 {a0 : Array Value} {Z : State} (hw : ∀ d ∈ tables_1, d.before a0 Z = true) : (Jvm.Cond.instanceMethod ({ cls := "com/example/stallwright/stallwright/api/ApiError", name := "parameter", desc := "()Ljava/lang/String;" } : Jvm.MethodName)).before a0 Z = true := hw _ (List.mem_of_getElem? (i := 72) rfl)
theorem own_w73 {a0 : Array Value} {Z : State} (hw : ∀ d ∈ tables_1, d.before a0 Z = true) : (Jvm.Cond.selects "com/example/stallwright/stallwright/api/ApiError" ({ cls := "com/example/stallwright/stallwright/api/ApiError", name := "parameter", desc := "()Ljava/lang/String;" } : Jvm.MethodName) ({ cls := "com/example/stallwright/stallwright/api/ApiError", name := "parameter", desc := "()Ljava/lang/String;" } : Jvm.MethodName)).before a0 Z = true := hw _ (List.mem_of_getElem? (i := 73) rfl)
theorem own_w74 {a0 : Array Value} {Z : State} (hw : ∀ d ∈ tables_1, d.before a0 Z = true) : (Jvm.Cond.code ({ cls := "com/example/stallwright/stallwright/api/ApiError", name := "parameter", desc := "()Ljava/lang/String;" } : Jvm.MethodName) prog_1_method_11_code (1 : Nat) (Option.some (Jvm.ClassFile.FieldType.object "java/lang/String"))).before a0 Z = true := hw _ (List.mem_of_getElem? (i := 74) rfl)
theorem own_w75 {a0 : Array Value} {Z : State} (hw : ∀ d ∈ tables_1, d.before a0 Z = true) : (Jvm.Cond.methodLink "com/example/stallwright/stallwright/api/ApiErrorAtParameterPinLaw" (33 : Nat) ({ cls := "com/example/stallwright/stallwright/api/ApiError", name := "pointer", desc := "()Ljava/lang/String;" } : Jvm.MethodName)).before a0 Z = true := hw _ (List.mem_of_getElem? (i := 75) rfl)
theorem own_w76 {a0 : Array Value} {Z : State} (hw : ∀ d ∈ tables_1, d.before a0 Z = true) : (Jvm.Cond.declares ({ cls := "com/example/stallwright/stallwright/api/ApiError", name := "pointer", desc := "()Ljava/lang/String;" } : Jvm.MethodName)).before a0 Z = true := hw _ (List.mem_of_getElem? (i := 76) rfl)
theorem own_w77 {a0 : Array Value} {Z : State} (hw : ∀ d ∈ tables_1, d.before a0 Z = true) : (Jvm.Cond.instanceMethod ({ cls := "com/example/stallwright/stallwright/api/ApiError", name := "pointer", desc := "()Ljava/lang/String;" } : Jvm.MethodName)).before a0 Z = true := hw _ (List.mem_of_getElem? (i := 77) rfl)
theorem own_w78 {a0 : Array Value} {Z : State} (hw : ∀ d ∈ tables_1, d.before a0 Z = true) : (Jvm.Cond.selects "com/example/stallwright/stallwright/api/ApiError" ({ cls := "com/example/stallwright/stallwright/api/ApiError", name := "pointer", desc := "()Ljava/lang/String;" } : Jvm.MethodName) ({ cls := "com/example/stallwright/stallwright/api/ApiError", name := "pointer", desc := "()Ljava/lang/String;" } : Jvm.MethodName)).before a0 Z = true := hw _ (List.mem_of_getElem? (i := 78) rfl)
theorem own_w79 {a0 : Array Value} {Z : State} (hw : ∀ d ∈ tables_1, d.before a0 Z = true) : (Jvm.Cond.code ({ cls := "com/example/stallwright/stallwright/api/ApiError", name := "pointer", desc := "()Ljava/lang/String;" } : Jvm.MethodName) prog_1_method_10_code (1 : Nat) (Option.some (Jvm.ClassFile.FieldType.object "java/lang/String"))).before a0 Z = true := hw _ (List.mem_of_getElem? (i := 79) rfl)
theorem own_w80 {a0 : Array Value} {Z : State} (hw : ∀ d ∈ tables_1, d.before a0 Z = true) : (Jvm.Cond.arrayClass Jvm.ClassFile.FieldType.char).before a0 Z = true := hw _ (List.mem_of_getElem? (i := 80) rfl)
theorem own_w81 {a0 : Array Value} {Z : State} (hw : ∀ d ∈ tables_1, d.before a0 Z = true) : (Jvm.Cond.classLink "com/example/stallwright/stallwright/api/ApiErrorAtParameterPinLaw" (36 : Nat) "java/lang/String").before a0 Z = true := hw _ (List.mem_of_getElem? (i := 81) rfl)
theorem own_w82 {a0 : Array Value} {Z : State} (hw : ∀ d ∈ tables_1, d.before a0 Z = true) : (Jvm.Cond.methodLink "com/example/stallwright/stallwright/api/ApiErrorAtParameterPinLaw" (38 : Nat) ({ cls := "java/lang/String", name := "<init>", desc := "([C)V" } : Jvm.MethodName)).before a0 Z = true := hw _ (List.mem_of_getElem? (i := 82) rfl)
theorem own_w83 {a0 : Array Value} {Z : State} (hw : ∀ d ∈ tables_1, d.before a0 Z = true) : (Jvm.Cond.instanceMethod ({ cls := "java/lang/String", name := "<init>", desc := "([C)V" } : Jvm.MethodName)).before a0 Z = true := hw _ (List.mem_of_getElem? (i := 83) rfl)
theorem own_w84 {a0 : Array Value} {Z : State} (hw : ∀ d ∈ tables_1, d.before a0 Z = true) : (Jvm.Cond.code ({ cls := "java/lang/String", name := "<init>", desc := "([C)V" } : Jvm.MethodName) jdk_42_method_3_code (2 : Nat) (Option.none : Option Jvm.ClassFile.FieldType)).before a0 Z = true := hw _ (List.mem_of_getElem? (i := 84) rfl)
theorem own_w85 {a0 : Array Value} {Z : State} (hw : ∀ d ∈ tables_1, d.before a0 Z = true) : (Jvm.Cond.methodLink "java/lang/String" (27 : Nat) ({ cls := "java/lang/String", name := "<init>", desc := "([CIILjava/lang/Void;)V" } : Jvm.MethodName)).before a0 Z = true := hw _ (List.mem_of_getElem? (i := 85) rfl)
theorem own_w86 {a0 : Array Value} {Z : State} (hw : ∀ d ∈ tables_1, d.before a0 Z = true) : (Jvm.Cond.instanceMethod ({ cls := "java/lang/String", name := "<init>", desc := "([CIILjava/lang/Void;)V" } : Jvm.MethodName)).before a0 Z = true := hw _ (List.mem_of_getElem? (i := 86) rfl)
theorem own_w87 {a0 : Array Value} {Z : State} (hw : ∀ d ∈ tables_1, d.before a0 Z = true) : (Jvm.Cond.code ({ cls := "java/lang/String", name := "<init>", desc := "([CIILjava/lang/Void;)V" } : Jvm.MethodName) jdk_42_method_149_code (6 : Nat) (Option.none : Option Jvm.ClassFile.FieldType)).before a0 Z = true := hw _ (List.mem_of_getElem? (i := 87) rfl)
theorem own_w98 {a0 : Array Value} {Z : State} (hw : ∀ d ∈ tables_1, d.before a0 Z = true) : (Jvm.Cond.fieldLink "com/example/stallwright/stallwright/api/ApiErrorAtParameterPinLaw" (70 : Nat) "com/example/stallwright/stallwright/api/Failure" "PAYLOAD_TOO_LARGE" "Lcom/example/stallwright/stallwright/api/Failure;").before a0 Z = true := hw _ (List.mem_of_getElem? (i := 98) rfl)
theorem own_w99 {a0 : Array Value} {Z : State} (hw : ∀ d ∈ tables_1, d.before a0 Z = true) : (Jvm.Cond.laysStatic "com/example/stallwright/stallwright/api/Failure" "PAYLOAD_TOO_LARGE" "Lcom/example/stallwright/stallwright/api/Failure;").before a0 Z = true := hw _ (List.mem_of_getElem? (i := 99) rfl)
theorem own_w100 {a0 : Array Value} {Z : State} (hw : ∀ d ∈ tables_1, d.before a0 Z = true) : (Jvm.Cond.stringLink "java/lang/String" (7 : Nat) "").before a0 Z = true := hw _ (List.mem_of_getElem? (i := 100) rfl)
theorem own_w103 {a0 : Array Value} {Z : State} (hw : ∀ d ∈ tables_1, d.before a0 Z = true) : (Jvm.Cond.fieldLink "com/example/stallwright/stallwright/api/ApiErrorAtParameterPinLaw" (64 : Nat) "com/example/stallwright/stallwright/api/Failure" "NOT_ACCEPTABLE" "Lcom/example/stallwright/stallwright/api/Failure;").before a0 Z = true := hw _ (List.mem_of_getElem? (i := 103) rfl)
theorem own_w104 {a0 : Array Value} {Z : State} (hw : ∀ d ∈ tables_1, d.before a0 Z = true) : (Jvm.Cond.laysStatic "com/example/stallwright/stallwright/api/Failure" "NOT_ACCEPTABLE" "Lcom/example/stallwright/stallwright/api/Failure;").before a0 Z = true := hw _ (List.mem_of_getElem? (i := 104) rfl)
theorem own_w105 {a0 : Array Value} {Z : State} (hw : ∀ d ∈ tables_1, d.before a0 Z = true) : (Jvm.Cond.fieldLink "com/example/stallwright/stallwright/api/ApiErrorAtParameterPinLaw" (76 : Nat) "com/example/stallwright/stallwright/api/Failure" "UNSUPPORTED_MEDIA_TYPE" "Lcom/example/stallwright/stallwright/api/Failure;").before a0 Z = true := hw _ (List.mem_of_getElem? (i := 105) rfl)
theorem own_w106 {a0 : Array Value} {Z : State} (hw : ∀ d ∈ tables_1, d.before a0 Z = true) : (Jvm.Cond.laysStatic "com/example/stallwright/stallwright/api/Failure" "UNSUPPORTED_MEDIA_TYPE" "Lcom/example/stallwright/stallwright/api/Failure;").before a0 Z = true := hw _ (List.mem_of_getElem? (i := 106) rfl)
theorem own_w107 {a0 : Array Value} {Z : State} (hw : ∀ d ∈ tables_1, d.before a0 Z = true) : (Jvm.Cond.fieldLink "com/example/stallwright/stallwright/api/ApiErrorAtParameterPinLaw" (58 : Nat) "com/example/stallwright/stallwright/api/Failure" "NOT_FOUND" "Lcom/example/stallwright/stallwright/api/Failure;").before a0 Z = true := hw _ (List.mem_of_getElem? (i := 107) rfl)
theorem own_w108 {a0 : Array Value} {Z : State} (hw : ∀ d ∈ tables_1, d.before a0 Z = true) : (Jvm.Cond.laysStatic "com/example/stallwright/stallwright/api/Failure" "NOT_FOUND" "Lcom/example/stallwright/stallwright/api/Failure;").before a0 Z = true := hw _ (List.mem_of_getElem? (i := 108) rfl)
theorem own_w109 {a0 : Array Value} {Z : State} (hw : ∀ d ∈ tables_1, d.before a0 Z = true) : (Jvm.Cond.fieldLink "com/example/stallwright/stallwright/api/ApiErrorAtParameterPinLaw" (85 : Nat) "com/example/stallwright/stallwright/api/Failure" "NOT_PRICED" "Lcom/example/stallwright/stallwright/api/Failure;").before a0 Z = true := hw _ (List.mem_of_getElem? (i := 109) rfl)
theorem own_w110 {a0 : Array Value} {Z : State} (hw : ∀ d ∈ tables_1, d.before a0 Z = true) : (Jvm.Cond.laysStatic "com/example/stallwright/stallwright/api/Failure" "NOT_PRICED" "Lcom/example/stallwright/stallwright/api/Failure;").before a0 Z = true := hw _ (List.mem_of_getElem? (i := 110) rfl)
theorem own_w111 {a0 : Array Value} {Z : State} (hw : ∀ d ∈ tables_1, d.before a0 Z = true) : (Jvm.Cond.fieldLink "com/example/stallwright/stallwright/api/ApiErrorAtParameterPinLaw" (52 : Nat) "com/example/stallwright/stallwright/api/Failure" "UNAUTHORIZED" "Lcom/example/stallwright/stallwright/api/Failure;").before a0 Z = true := hw _ (List.mem_of_getElem? (i := 111) rfl)
theorem own_w112 {a0 : Array Value} {Z : State} (hw : ∀ d ∈ tables_1, d.before a0 Z = true) : (Jvm.Cond.laysStatic "com/example/stallwright/stallwright/api/Failure" "UNAUTHORIZED" "Lcom/example/stallwright/stallwright/api/Failure;").before a0 Z = true := hw _ (List.mem_of_getElem? (i := 112) rfl)
theorem own_w113 {a0 : Array Value} {Z : State} (hw : ∀ d ∈ tables_1, d.before a0 Z = true) : (Jvm.Cond.fieldLink "com/example/stallwright/stallwright/api/ApiErrorAtParameterPinLaw" (94 : Nat) "com/example/stallwright/stallwright/api/Failure" "NOT_IMPLEMENTED" "Lcom/example/stallwright/stallwright/api/Failure;").before a0 Z = true := hw _ (List.mem_of_getElem? (i := 113) rfl)
theorem own_w114 {a0 : Array Value} {Z : State} (hw : ∀ d ∈ tables_1, d.before a0 Z = true) : (Jvm.Cond.laysStatic "com/example/stallwright/stallwright/api/Failure" "NOT_IMPLEMENTED" "Lcom/example/stallwright/stallwright/api/Failure;").before a0 Z = true := hw _ (List.mem_of_getElem? (i := 114) rfl)
theorem own_w115 {a0 : Array Value} {Z : State} (hw : ∀ d ∈ tables_1, d.before a0 Z = true) : (Jvm.Cond.fieldLink "com/example/stallwright/stallwright/api/ApiErrorAtParameterPinLaw" (61 : Nat) "com/example/stallwright/stallwright/api/Failure" "METHOD_NOT_ALLOWED" "Lcom/example/stallwright/stallwright/api/Failure;").before a0 Z = true := hw _ (List.mem_of_getElem? (i := 115) rfl)
theorem own_w116 {a0 : Array Value} {Z : State} (hw : ∀ d ∈ tables_1, d.before a0 Z = true) : (Jvm.Cond.laysStatic "com/example/stallwright/stallwright/api/Failure" "METHOD_NOT_ALLOWED" "Lcom/example/stallwright/stallwright/api/Failure;").before a0 Z = true := hw _ (List.mem_of_getElem? (i := 116) rfl)
theorem own_w117 {a0 : Array Value} {Z : State} (hw : ∀ d ∈ tables_1, d.before a0 Z = true) : (Jvm.Cond.fieldLink "com/example/stallwright/stallwright/api/ApiErrorAtParameterPinLaw" (82 : Nat) "com/example/stallwright/stallwright/api/Failure" "TAKEN" "Lcom/example/stallwright/stallwright/api/Failure;").before a0 Z = true := hw _ (List.mem_of_getElem? (i := 117) rfl)
theorem own_w118 {a0 : Array Value} {Z : State} (hw : ∀ d ∈ tables_1, d.before a0 Z = true) : (Jvm.Cond.laysStatic "com/example/stallwright/stallwright/api/Failure" "TAKEN" "Lcom/example/stallwright/stallwright/api/Failure;").before a0 Z = true := hw _ (List.mem_of_getElem? (i := 118) rfl)
theorem own_w119 {a0 : Array Value} {Z : State} (hw : ∀ d ∈ tables_1, d.before a0 Z = true) : (Jvm.Cond.fieldLink "com/example/stallwright/stallwright/api/ApiErrorAtParameterPinLaw" (55 : Nat) "com/example/stallwright/stallwright/api/Failure" "FORBIDDEN" "Lcom/example/stallwright/stallwright/api/Failure;").before a0 Z = true := hw _ (List.mem_of_getElem? (i := 119) rfl)
theorem own_w120 {a0 : Array Value} {Z : State} (hw : ∀ d ∈ tables_1, d.before a0 Z = true) : (Jvm.Cond.laysStatic "com/example/stallwright/stallwright/api/Failure" "FORBIDDEN" "Lcom/example/stallwright/stallwright/api/Failure;").before a0 Z = true := hw _ (List.mem_of_getElem? (i := 120) rfl)
theorem own_w121 {a0 : Array Value} {Z : State} (hw : ∀ d ∈ tables_1, d.before a0 Z = true) : (Jvm.Cond.fieldLink "com/example/stallwright/stallwright/api/ApiErrorAtParameterPinLaw" (91 : Nat) "com/example/stallwright/stallwright/api/Failure" "INTERNAL_ERROR" "Lcom/example/stallwright/stallwright/api/Failure;").before a0 Z = true := hw _ (List.mem_of_getElem? (i := 121) rfl)
theorem own_w122 {a0 : Array Value} {Z : State} (hw : ∀ d ∈ tables_1, d.before a0 Z = true) : (Jvm.Cond.laysStatic "com/example/stallwright/stallwright/api/Failure" "INTERNAL_ERROR" "Lcom/example/stallwright/stallwright/api/Failure;").before a0 Z = true := hw _ (List.mem_of_getElem? (i := 122) rfl)
theorem own_w123 {a0 : Array Value} {Z : State} (hw : ∀ d ∈ tables_1, d.before a0 Z = true) : (Jvm.Cond.fieldLink "com/example/stallwright/stallwright/api/ApiErrorAtParameterPinLaw" (79 : Nat) "com/example/stallwright/stallwright/api/Failure" "INVALID" "Lcom/example/stallwright/stallwright/api/Failure;").before a0 Z = true := hw _ (List.mem_of_getElem? (i := 123) rfl)
theorem own_w124 {a0 : Array Value} {Z : State} (hw : ∀ d ∈ tables_1, d.before a0 Z = true) : (Jvm.Cond.laysStatic "com/example/stallwright/stallwright/api/Failure" "INVALID" "Lcom/example/stallwright/stallwright/api/Failure;").before a0 Z = true := hw _ (List.mem_of_getElem? (i := 124) rfl)
theorem own_w125 {a0 : Array Value} {Z : State} (hw : ∀ d ∈ tables_1, d.before a0 Z = true) : (Jvm.Cond.fieldLink "com/example/stallwright/stallwright/api/ApiErrorAtParameterPinLaw" (97 : Nat) "com/example/stallwright/stallwright/api/Failure" "HTTP_VERSION_NOT_SUPPORTED" "Lcom/example/stallwright/stallwright/api/Failure;").before a0 Z = true := hw _ (List.mem_of_getElem? (i := 125) rfl)
theorem own_w126 {a0 : Array Value} {Z : State} (hw : ∀ d ∈ tables_1, d.before a0 Z = true) : (Jvm.Cond.laysStatic "com/example/stallwright/stallwright/api/Failure" "HTTP_VERSION_NOT_SUPPORTED" "Lcom/example/stallwright/stallwright/api/Failure;").before a0 Z = true := hw _ (List.mem_of_getElem? (i := 126) rfl)
theorem own_w127 {a0 : Array Value} {Z : State} (hw : ∀ d ∈ tables_1, d.before a0 Z = true) : (Jvm.Cond.fieldLink "com/example/stallwright/stallwright/api/ApiErrorAtParameterPinLaw" (73 : Nat) "com/example/stallwright/stallwright/api/Failure" "URI_TOO_LONG" "Lcom/example/stallwright/stallwright/api/Failure;").before a0 Z = true := hw _ (List.mem_of_getElem? (i := 127) rfl)
theorem own_w128 {a0 : Array Value} {Z : State} (hw : ∀ d ∈ tables_1, d.before a0 Z = true) : (Jvm.Cond.laysStatic "com/example/stallwright/stallwright/api/Failure" "URI_TOO_LONG" "Lcom/example/stallwright/stallwright/api/Failure;").before a0 Z = true := hw _ (List.mem_of_getElem? (i := 128) rfl)
theorem own_w129 {a0 : Array Value} {Z : State} (hw : ∀ d ∈ tables_1, d.before a0 Z = true) : (Jvm.Cond.fieldLink "com/example/stallwright/stallwright/api/ApiErrorAtParameterPinLaw" (67 : Nat) "com/example/stallwright/stallwright/api/Failure" "CONFLICT" "Lcom/example/stallwright/stallwright/api/Failure;").before a0 Z = true := hw _ (List.mem_of_getElem? (i := 129) rfl)
theorem own_w130 {a0 : Array Value} {Z : State} (hw : ∀ d ∈ tables_1, d.before a0 Z = true) : (Jvm.Cond.laysStatic "com/example/stallwright/stallwright/api/Failure" "CONFLICT" "Lcom/example/stallwright/stallwright/api/Failure;").before a0 Z = true := hw _ (List.mem_of_getElem? (i := 130) rfl)
theorem own_w131 {a0 : Array Value} {Z : State} (hw : ∀ d ∈ tables_1, d.before a0 Z = true) : (Jvm.Cond.fieldLink "com/example/stallwright/stallwright/api/ApiErrorAtParameterPinLaw" (88 : Nat) "com/example/stallwright/stallwright/api/Failure" "REQUEST_HEADER_FIELDS_TOO_LARGE" "Lcom/example/stallwright/stallwright/api/Failure;").before a0 Z = true := hw _ (List.mem_of_getElem? (i := 131) rfl)
theorem own_w132 {a0 : Array Value} {Z : State} (hw : ∀ d ∈ tables_1, d.before a0 Z = true) : (Jvm.Cond.laysStatic "com/example/stallwright/stallwright/api/Failure" "REQUEST_HEADER_FIELDS_TOO_LARGE" "Lcom/example/stallwright/stallwright/api/Failure;").before a0 Z = true := hw _ (List.mem_of_getElem? (i := 132) rfl)
theorem own_pd0 : parseMethodDescriptor "(C)Z" = some ⟨[.char], some .boolean⟩ := by decide +kernel
theorem own_pd1 : parseMethodDescriptor "(C)[B" = some ⟨[.char], some (.array .byte)⟩ := by decide +kernel
theorem own_pd2 : parseMethodDescriptor "([BB)V" = some ⟨[(.array .byte), .byte], none⟩ := by decide +kernel
theorem own_pd3 : parseMethodDescriptor "([CIILjava/lang/Void;)V" = some ⟨[(.array .char), .int, .int, (.object "java/lang/Void")], none⟩ := by decide +kernel
theorem own_pd4 : parseMethodDescriptor "([C)V" = some ⟨[(.array .char)], none⟩ := by decide +kernel
theorem own_pd5 : parseMethodDescriptor "(C)Ljava/lang/String;" = some ⟨[.char], some (.object "java/lang/String")⟩ := by decide +kernel
theorem own_pd6 : parseMethodDescriptor "()V" = some ⟨[], none⟩ := by decide +kernel
theorem own_pd7 : parseMethodDescriptor "(Lcom/example/stallwright/stallwright/api/Failure;Ljava/lang/String;Ljava/lang/String;Ljava/lang/String;)V" = some ⟨[(.object "com/example/stallwright/stallwright/api/Failure"), (.object "java/lang/String"), (.object "java/lang/String"), (.object "java/lang/String")], none⟩ := by decide +kernel
theorem own_pd8 : parseMethodDescriptor "(II)Ljava/lang/String;" = some ⟨[.int, .int], some (.object "java/lang/String")⟩ := by decide +kernel
theorem own_pd9 : parseMethodDescriptor "(I)Lcom/example/stallwright/stallwright/api/Failure;" = some ⟨[.int], some (.object "com/example/stallwright/stallwright/api/Failure")⟩ := by decide +kernel
theorem own_pd10 : parseMethodDescriptor "(Ljava/lang/String;Lcom/example/stallwright/stallwright/api/Failure;Ljava/lang/String;)Lcom/example/stallwright/stallwright/api/ApiError;" = some ⟨[(.object "java/lang/String"), (.object "com/example/stallwright/stallwright/api/Failure"), (.object "java/lang/String")], some (.object "com/example/stallwright/stallwright/api/ApiError")⟩ := by decide +kernel
theorem own_pd11 : parseMethodDescriptor "()Lcom/example/stallwright/stallwright/api/Failure;" = some ⟨[], some (.object "com/example/stallwright/stallwright/api/Failure")⟩ := by decide +kernel
theorem own_pd12 : parseMethodDescriptor "()Ljava/lang/String;" = some ⟨[], some (.object "java/lang/String")⟩ := by decide +kernel
theorem own_pf0 : parseFieldDescriptor "[B" = some (.array .byte) := by decide +kernel
theorem own_pf1 : parseFieldDescriptor "B" = some .byte := by decide +kernel
theorem own_pf2 : parseFieldDescriptor "Lcom/example/stallwright/stallwright/api/Failure;" = some (.object "com/example/stallwright/stallwright/api/Failure") := by decide +kernel
theorem own_pf3 : parseFieldDescriptor "Ljava/lang/String;" = some (.object "java/lang/String") := by decide +kernel
theorem own_pn0 : plainName "java/lang/StringLatin1" = true := by first | (simp [plainName, overriddenIn]; done) | decide +kernel
theorem own_pn1 : plainFor (⟨"java/lang/String", "<init>", "([BB)V"⟩ : MethodName) = true := by decide +kernel
theorem own_pn2 : plainFor (⟨"java/lang/String", "valueOf", "(C)Ljava/lang/String;"⟩ : MethodName) = true := by decide +kernel
theorem own_pn3 : plainFor (⟨"java/lang/String", "<init>", "([CIILjava/lang/Void;)V"⟩ : MethodName) = true := by decide +kernel
theorem own_pn4 : plainFor (⟨"java/lang/String", "<init>", "([C)V"⟩ : MethodName) = true := by decide +kernel
theorem own_pn5 : plainName "com/example/stallwright/stallwright/api/ApiErrorAtParameterPinLaw" = true := by first | (simp [plainName, overriddenIn]; done) | decide +kernel
theorem own_pn6 : plainName "java/lang/Record" = true := by first | (simp [plainName, overriddenIn]; done) | decide +kernel
theorem own_pn7 : plainName "com/example/stallwright/stallwright/api/ApiError" = true := by first | (simp [plainName, overriddenIn]; done) | decide +kernel
theorem own_d1_0 : decode method_3_code 0 = .ok (.iload_n 0, 1) := by decide +kernel
theorem own_d1_1 : decode method_3_code 1 = .ok (.iconst 3, 1) := by decide +kernel
theorem own_d1_2 : decode method_3_code 2 = .ok (.iand, 1) := by decide +kernel
theorem own_d1_3 : decode method_3_code 3 = .ok (.istore_n 2, 1) := by decide +kernel
theorem own_d1_4 : decode method_3_code 4 = .ok (.iload_n 2, 1) := by decide +kernel
theorem own_d1_5 : decode method_3_code 5 = .ok (.ifCond .ne 5, 3) := by decide +kernel
theorem own_d1_8 : decode method_3_code 8 = .ok (.aconst_null, 1) := by decide +kernel
theorem own_d1_9 : decode method_3_code 9 = .ok (.areturn, 1) := by decide +kernel
theorem own_d1_10 : decode method_3_code 10 = .ok (.iload_n 2, 1) := by decide +kernel
theorem own_d1_11 : decode method_3_code 11 = .ok (.iconst 1, 1) := by decide +kernel
theorem own_d1_12 : decode method_3_code 12 = .ok (.if_icmp .ne 14, 3) := by decide +kernel
theorem own_d1_15 : decode method_3_code 15 = .ok (.new 36, 3) := by decide +kernel
theorem own_d1_18 : decode method_3_code 18 = .ok (.dup, 1) := by decide +kernel
theorem own_d1_19 : decode method_3_code 19 = .ok (.iconst 0, 1) := by decide +kernel
theorem own_d1_20 : decode method_3_code 20 = .ok (.newarray .char, 2) := by decide +kernel
theorem own_d1_22 : decode method_3_code 22 = .ok (.invokespecial 38, 3) := by decide +kernel
theorem own_d1_25 : decode method_3_code 25 = .ok (.areturn, 1) := by decide +kernel
theorem own_d1_26 : decode method_3_code 26 = .ok (.iload_n 1, 1) := by decide +kernel
theorem own_d1_27 : decode method_3_code 27 = .ok (.sipush 255, 3) := by decide +kernel
theorem own_d1_30 : decode method_3_code 30 = .ok (.iand, 1) := by decide +kernel
theorem own_d1_31 : decode method_3_code 31 = .ok (.i2c, 1) := by decide +kernel
theorem own_d1_32 : decode method_3_code 32 = .ok (.istore_n 3, 1) := by decide +kernel
theorem own_d1_33 : decode method_3_code 33 = .ok (.iload_n 1, 1) := by decide +kernel
theorem own_d1_34 : decode method_3_code 34 = .ok (.bipush 8, 2) := by decide +kernel
theorem own_d1_36 : decode method_3_code 36 = .ok (.iushr, 1) := by decide +kernel
theorem own_d1_37 : decode method_3_code 37 = .ok (.sipush 255, 3) := by decide +kernel
theorem own_d1_40 : decode method_3_code 40 = .ok (.iand, 1) := by decide +kernel
theorem own_d1_41 : decode method_3_code 41 = .ok (.i2c, 1) := by decide +kernel
theorem own_d1_42 : decode method_3_code 42 = .ok (.istore 4, 2) := by decide +kernel
theorem own_d1_44 : decode method_3_code 44 = .ok (.iload_n 2, 1) := by decide +kernel
theorem own_d1_45 : decode method_3_code 45 = .ok (.iconst 2, 1) := by decide +kernel
theorem own_d1_46 : decode method_3_code 46 = .ok (.if_icmp .ne 8, 3) := by decide +kernel
theorem own_d1_49 : decode method_3_code 49 = .ok (.iload_n 3, 1) := by decide +kernel
theorem own_d1_50 : decode method_3_code 50 = .ok (.invokestatic 41, 3) := by decide +kernel
theorem own_d1_53 : decode method_3_code 53 = .ok (.areturn, 1) := by decide +kernel
theorem own_d1_54 : decode method_3_code 54 = .ok (.iconst 2, 1) := by decide +kernel
theorem own_d1_55 : decode method_3_code 55 = .ok (.newarray .char, 2) := by decide +kernel
theorem own_d1_57 : decode method_3_code 57 = .ok (.astore 5, 2) := by decide +kernel
theorem own_d1_59 : decode method_3_code 59 = .ok (.aload 5, 2) := by decide +kernel
theorem own_d1_61 : decode method_3_code 61 = .ok (.iconst 0, 1) := by decide +kernel
theorem own_d1_62 : decode method_3_code 62 = .ok (.iload_n 3, 1) := by decide +kernel
theorem own_d1_63 : decode method_3_code 63 = .ok (.castore, 1) := by decide +kernel
theorem own_d1_64 : decode method_3_code 64 = .ok (.aload 5, 2) := by decide +kernel
theorem own_d1_66 : decode method_3_code 66 = .ok (.iconst 1, 1) := by decide +kernel
theorem own_d1_67 : decode method_3_code 67 = .ok (.iload 4, 2) := by decide +kernel
theorem own_d1_69 : decode method_3_code 69 = .ok (.castore, 1) := by decide +kernel
theorem own_d1_70 : decode method_3_code 70 = .ok (.new 36, 3) := by decide +kernel
theorem own_d1_73 : decode method_3_code 73 = .ok (.dup, 1) := by decide +kernel
theorem own_d1_74 : decode method_3_code 74 = .ok (.aload 5, 2) := by decide +kernel
theorem own_d1_76 : decode method_3_code 76 = .ok (.invokespecial 38, 3) := by decide +kernel
theorem own_d1_79 : decode method_3_code 79 = .ok (.areturn, 1) := by decide +kernel
theorem own_d2_0 : decode jdk_42_method_139_code 0 = .ok (.getstatic 38, 3) := by decide +kernel
theorem own_d2_3 : decode jdk_42_method_139_code 3 = .ok (.ifCond .eq 23, 3) := by decide +kernel
theorem own_d2_6 : decode jdk_42_method_139_code 6 = .ok (.iload_n 0, 1) := by decide +kernel
theorem own_d2_7 : decode jdk_42_method_139_code 7 = .ok (.invokestatic 1015, 3) := by decide +kernel
theorem own_d2_10 : decode jdk_42_method_139_code 10 = .ok (.ifCond .eq 16, 3) := by decide +kernel
theorem own_d2_13 : decode jdk_42_method_139_code 13 = .ok (.new 10, 3) := by decide +kernel
theorem own_d2_16 : decode jdk_42_method_139_code 16 = .ok (.dup, 1) := by decide +kernel
theorem own_d2_17 : decode jdk_42_method_139_code 17 = .ok (.iload_n 0, 1) := by decide +kernel
theorem own_d2_18 : decode jdk_42_method_139_code 18 = .ok (.invokestatic 1018, 3) := by decide +kernel
theorem own_d2_21 : decode jdk_42_method_139_code 21 = .ok (.iconst 0, 1) := by decide +kernel
theorem own_d2_22 : decode jdk_42_method_139_code 22 = .ok (.invokespecial 209, 3) := by decide +kernel
theorem own_d2_25 : decode jdk_42_method_139_code 25 = .ok (.areturn, 1) := by decide +kernel
theorem own_d3_0 : decode jdk_43_method_3_code 0 = .ok (.iload_n 0, 1) := by decide +kernel
theorem own_d3_1 : decode jdk_43_method_3_code 1 = .ok (.sipush 255, 3) := by decide +kernel
theorem own_d3_4 : decode jdk_43_method_3_code 4 = .ok (.if_icmp .gt 7, 3) := by decide +kernel
theorem own_d3_7 : decode jdk_43_method_3_code 7 = .ok (.iconst 1, 1) := by decide +kernel
theorem own_d3_8 : decode jdk_43_method_3_code 8 = .ok (.goto 4, 3) := by decide +kernel
theorem own_d3_12 : decode jdk_43_method_3_code 12 = .ok (.ireturn, 1) := by decide +kernel
theorem own_d4_0 : decode jdk_43_method_46_code 0 = .ok (.iconst 1, 1) := by decide +kernel
theorem own_d4_1 : decode jdk_43_method_46_code 1 = .ok (.newarray .byte, 2) := by decide +kernel
theorem own_d4_3 : decode jdk_43_method_46_code 3 = .ok (.dup, 1) := by decide +kernel
theorem own_d4_4 : decode jdk_43_method_46_code 4 = .ok (.iconst 0, 1) := by decide +kernel
theorem own_d4_5 : decode jdk_43_method_46_code 5 = .ok (.iload_n 0, 1) := by decide +kernel
theorem own_d4_6 : decode jdk_43_method_46_code 6 = .ok (.i2b, 1) := by decide +kernel
theorem own_d4_7 : decode jdk_43_method_46_code 7 = .ok (.bastore, 1) := by decide +kernel
theorem own_d4_8 : decode jdk_43_method_46_code 8 = .ok (.areturn, 1) := by decide +kernel
theorem own_d5_0 : decode jdk_42_method_151_code 0 = .ok (.aload_n 0, 1) := by decide +kernel
theorem own_d5_1 : decode jdk_42_method_151_code 1 = .ok (.invokespecial 1, 3) := by decide +kernel
theorem own_d5_4 : decode jdk_42_method_151_code 4 = .ok (.aload_n 0, 1) := by decide +kernel
theorem own_d5_5 : decode jdk_42_method_151_code 5 = .ok (.aload_n 1, 1) := by decide +kernel
theorem own_d5_6 : decode jdk_42_method_151_code 6 = .ok (.putfield 9, 3) := by decide +kernel
theorem own_d5_9 : decode jdk_42_method_151_code 9 = .ok (.aload_n 0, 1) := by decide +kernel
theorem own_d5_10 : decode jdk_42_method_151_code 10 = .ok (.iload_n 2, 1) := by decide +kernel
theorem own_d5_11 : decode jdk_42_method_151_code 11 = .ok (.putfield 15, 3) := by decide +kernel
theorem own_d5_14 : decode jdk_42_method_151_code 14 = .ok (.return_, 1) := by decide +kernel
theorem own_d7_0 : decode method_4_code 0 = .ok (.iload_n 0, 1) := by decide +kernel
theorem own_d7_1 : decode method_4_code 1 = .ok (.ldc 45, 2) := by decide +kernel
theorem own_d7_3 : decode method_4_code 3 = .ok (.iand, 1) := by decide +kernel
theorem own_d7_4 : decode method_4_code 4 = .ok (.bipush 18, 2) := by decide +kernel
theorem own_d7_6 : decode method_4_code 6 = .ok (.irem, 1) := by decide +kernel
theorem own_d7_7 : decode method_4_code 7 = .ok (.istore_n 1, 1) := by decide +kernel
theorem own_d7_8 : decode method_4_code 8 = .ok (.iload_n 1, 1) := by decide +kernel
theorem own_d7_9 : decode method_4_code 9 = .ok (.ifCond .ne 7, 3) := by decide +kernel
theorem own_d7_12 : decode method_4_code 12 = .ok (.getstatic 46, 3) := by decide +kernel
theorem own_d7_15 : decode method_4_code 15 = .ok (.areturn, 1) := by decide +kernel
theorem own_d7_16 : decode method_4_code 16 = .ok (.iload_n 1, 1) := by decide +kernel
theorem own_d7_17 : decode method_4_code 17 = .ok (.iconst 1, 1) := by decide +kernel
theorem own_d7_18 : decode method_4_code 18 = .ok (.if_icmp .ne 7, 3) := by decide +kernel
theorem own_d7_21 : decode method_4_code 21 = .ok (.getstatic 52, 3) := by decide +kernel
theorem own_d7_24 : decode method_4_code 24 = .ok (.areturn, 1) := by decide +kernel
theorem own_d7_25 : decode method_4_code 25 = .ok (.iload_n 1, 1) := by decide +kernel
theorem own_d7_26 : decode method_4_code 26 = .ok (.iconst 2, 1) := by decide +kernel
theorem own_d7_27 : decode method_4_code 27 = .ok (.if_icmp .ne 7, 3) := by decide +kernel
theorem own_d7_30 : decode method_4_code 30 = .ok (.getstatic 55, 3) := by decide +kernel
theorem own_d7_33 : decode method_4_code 33 = .ok (.areturn, 1) := by decide +kernel
theorem own_d7_34 : decode method_4_code 34 = .ok (.iload_n 1, 1) := by decide +kernel
theorem own_d7_35 : decode method_4_code 35 = .ok (.iconst 3, 1) := by decide +kernel
theorem own_d7_36 : decode method_4_code 36 = .ok (.if_icmp .ne 7, 3) := by decide +kernel
theorem own_d7_39 : decode method_4_code 39 = .ok (.getstatic 58, 3) := by decide +kernel
theorem own_d7_42 : decode method_4_code 42 = .ok (.areturn, 1) := by decide +kernel
theorem own_d7_43 : decode method_4_code 43 = .ok (.iload_n 1, 1) := by decide +kernel
theorem own_d7_44 : decode method_4_code 44 = .ok (.iconst 4, 1) := by decide +kernel
theorem own_d7_45 : decode method_4_code 45 = .ok (.if_icmp .ne 7, 3) := by decide +kernel
theorem own_d7_48 : decode method_4_code 48 = .ok (.getstatic 61, 3) := by decide +kernel
theorem own_d7_51 : decode method_4_code 51 = .ok (.areturn, 1) := by decide +kernel
theorem own_d7_52 : decode method_4_code 52 = .ok (.iload_n 1, 1) := by decide +kernel
theorem own_d7_53 : decode method_4_code 53 = .ok (.iconst 5, 1) := by decide +kernel
theorem own_d7_54 : decode method_4_code 54 = .ok (.if_icmp .ne 7, 3) := by decide +kernel
theorem own_d7_57 : decode method_4_code 57 = .ok (.getstatic 64, 3) := by decide +kernel
theorem own_d7_60 : decode method_4_code 60 = .ok (.areturn, 1) := by decide +kernel
theorem own_d7_61 : decode method_4_code 61 = .ok (.iload_n 1, 1) := by decide +kernel
theorem own_d7_62 : decode method_4_code 62 = .ok (.bipush 6, 2) := by decide +kernel
theorem own_d7_64 : decode method_4_code 64 = .ok (.if_icmp .ne 7, 3) := by decide +kernel
theorem own_d7_67 : decode method_4_code 67 = .ok (.getstatic 67, 3) := by decide +kernel
theorem own_d7_70 : decode method_4_code 70 = .ok (.areturn, 1) := by decide +kernel
theorem own_d7_71 : decode method_4_code 71 = .ok (.iload_n 1, 1) := by decide +kernel
theorem own_d7_72 : decode method_4_code 72 = .ok (.bipush 7, 2) := by decide +kernel
theorem own_d7_74 : decode method_4_code 74 = .ok (.if_icmp .ne 7, 3) := by decide +kernel
theorem own_d7_77 : decode method_4_code 77 = .ok (.getstatic 70, 3) := by decide +kernel
theorem own_d7_80 : decode method_4_code 80 = .ok (.areturn, 1) := by decide +kernel
theorem own_d7_81 : decode method_4_code 81 = .ok (.iload_n 1, 1) := by decide +kernel
theorem own_d7_82 : decode method_4_code 82 = .ok (.bipush 8, 2) := by decide +kernel
theorem own_d7_84 : decode method_4_code 84 = .ok (.if_icmp .ne 7, 3) := by decide +kernel
theorem own_d7_87 : decode method_4_code 87 = .ok (.getstatic 73, 3) := by decide +kernel
theorem own_d7_90 : decode method_4_code 90 = .ok (.areturn, 1) := by decide +kernel
theorem own_d7_91 : decode method_4_code 91 = .ok (.iload_n 1, 1) := by decide +kernel
theorem own_d7_92 : decode method_4_code 92 = .ok (.bipush 9, 2) := by decide +kernel
theorem own_d7_94 : decode method_4_code 94 = .ok (.if_icmp .ne 7, 3) := by decide +kernel
theorem own_d7_97 : decode method_4_code 97 = .ok (.getstatic 76, 3) := by decide +kernel
theorem own_d7_100 : decode method_4_code 100 = .ok (.areturn, 1) := by decide +kernel
theorem own_d7_101 : decode method_4_code 101 = .ok (.iload_n 1, 1) := by decide +kernel
theorem own_d7_102 : decode method_4_code 102 = .ok (.bipush 10, 2) := by decide +kernel
theorem own_d7_104 : decode method_4_code 104 = .ok (.if_icmp .ne 7, 3) := by decide +kernel
theorem own_d7_107 : decode method_4_code 107 = .ok (.getstatic 79, 3) := by decide +kernel
theorem own_d7_110 : decode method_4_code 110 = .ok (.areturn, 1) := by decide +kernel
theorem own_d7_111 : decode method_4_code 111 = .ok (.iload_n 1, 1) := by decide +kernel
theorem own_d7_112 : decode method_4_code 112 = .ok (.bipush 11, 2) := by decide +kernel
theorem own_d7_114 : decode method_4_code 114 = .ok (.if_icmp .ne 7, 3) := by decide +kernel
theorem own_d7_117 : decode method_4_code 117 = .ok (.getstatic 82, 3) := by decide +kernel
theorem own_d7_120 : decode method_4_code 120 = .ok (.areturn, 1) := by decide +kernel
theorem own_d7_121 : decode method_4_code 121 = .ok (.iload_n 1, 1) := by decide +kernel
theorem own_d7_122 : decode method_4_code 122 = .ok (.bipush 12, 2) := by decide +kernel
theorem own_d7_124 : decode method_4_code 124 = .ok (.if_icmp .ne 7, 3) := by decide +kernel
theorem own_d7_127 : decode method_4_code 127 = .ok (.getstatic 85, 3) := by decide +kernel
theorem own_d7_130 : decode method_4_code 130 = .ok (.areturn, 1) := by decide +kernel
theorem own_d7_131 : decode method_4_code 131 = .ok (.iload_n 1, 1) := by decide +kernel
theorem own_d7_132 : decode method_4_code 132 = .ok (.bipush 13, 2) := by decide +kernel
theorem own_d7_134 : decode method_4_code 134 = .ok (.if_icmp .ne 7, 3) := by decide +kernel
theorem own_d7_137 : decode method_4_code 137 = .ok (.getstatic 88, 3) := by decide +kernel
theorem own_d7_140 : decode method_4_code 140 = .ok (.areturn, 1) := by decide +kernel
theorem own_d7_141 : decode method_4_code 141 = .ok (.iload_n 1, 1) := by decide +kernel
theorem own_d7_142 : decode method_4_code 142 = .ok (.bipush 14, 2) := by decide +kernel
theorem own_d7_144 : decode method_4_code 144 = .ok (.if_icmp .ne 7, 3) := by decide +kernel
theorem own_d7_147 : decode method_4_code 147 = .ok (.getstatic 91, 3) := by decide +kernel
theorem own_d7_150 : decode method_4_code 150 = .ok (.areturn, 1) := by decide +kernel
theorem own_d7_151 : decode method_4_code 151 = .ok (.iload_n 1, 1) := by decide +kernel
theorem own_d7_152 : decode method_4_code 152 = .ok (.bipush 15, 2) := by decide +kernel
theorem own_d7_154 : decode method_4_code 154 = .ok (.if_icmp .ne 7, 3) := by decide +kernel
theorem own_d7_157 : decode method_4_code 157 = .ok (.getstatic 94, 3) := by decide +kernel
theorem own_d7_160 : decode method_4_code 160 = .ok (.areturn, 1) := by decide +kernel
theorem own_d7_161 : decode method_4_code 161 = .ok (.iload_n 1, 1) := by decide +kernel
theorem own_d7_162 : decode method_4_code 162 = .ok (.bipush 16, 2) := by decide +kernel
theorem own_d7_164 : decode method_4_code 164 = .ok (.if_icmp .ne 7, 3) := by decide +kernel
theorem own_d7_167 : decode method_4_code 167 = .ok (.getstatic 97, 3) := by decide +kernel
theorem own_d7_170 : decode method_4_code 170 = .ok (.areturn, 1) := by decide +kernel
theorem own_d7_171 : decode method_4_code 171 = .ok (.aconst_null, 1) := by decide +kernel
theorem own_d7_172 : decode method_4_code 172 = .ok (.areturn, 1) := by decide +kernel
theorem own_d8_0 : decode prog_1_method_4_code 0 = .ok (.new 8, 3) := by decide +kernel
theorem own_d8_3 : decode prog_1_method_4_code 3 = .ok (.dup, 1) := by decide +kernel
theorem own_d8_4 : decode prog_1_method_4_code 4 = .ok (.aload_n 1, 1) := by decide +kernel
theorem own_d8_5 : decode prog_1_method_4_code 5 = .ok (.aload_n 2, 1) := by decide +kernel
theorem own_d8_6 : decode prog_1_method_4_code 6 = .ok (.aconst_null, 1) := by decide +kernel
theorem own_d8_7 : decode prog_1_method_4_code 7 = .ok (.aload_n 0, 1) := by decide +kernel
theorem own_d8_8 : decode prog_1_method_4_code 8 = .ok (.invokespecial 23, 3) := by decide +kernel
theorem own_d8_11 : decode prog_1_method_4_code 11 = .ok (.areturn, 1) := by decide +kernel
theorem own_d9_0 : decode prog_1_method_2_code 0 = .ok (.aload_n 0, 1) := by decide +kernel
theorem own_d9_1 : decode prog_1_method_2_code 1 = .ok (.invokespecial 1, 3) := by decide +kernel
theorem own_d9_4 : decode prog_1_method_2_code 4 = .ok (.aload_n 0, 1) := by decide +kernel
theorem own_d9_5 : decode prog_1_method_2_code 5 = .ok (.aload_n 1, 1) := by decide +kernel
theorem own_d9_6 : decode prog_1_method_2_code 6 = .ok (.putfield 7, 3) := by decide +kernel
theorem own_d9_9 : decode prog_1_method_2_code 9 = .ok (.aload_n 0, 1) := by decide +kernel
theorem own_d9_10 : decode prog_1_method_2_code 10 = .ok (.aload_n 2, 1) := by decide +kernel
theorem own_d9_11 : decode prog_1_method_2_code 11 = .ok (.putfield 13, 3) := by decide +kernel
theorem own_d9_14 : decode prog_1_method_2_code 14 = .ok (.aload_n 0, 1) := by decide +kernel
theorem own_d9_15 : decode prog_1_method_2_code 15 = .ok (.aload_n 3, 1) := by decide +kernel
theorem own_d9_16 : decode prog_1_method_2_code 16 = .ok (.putfield 17, 3) := by decide +kernel
theorem own_d9_19 : decode prog_1_method_2_code 19 = .ok (.aload_n 0, 1) := by decide +kernel
theorem own_d9_20 : decode prog_1_method_2_code 20 = .ok (.aload 4, 2) := by decide +kernel
theorem own_d9_22 : decode prog_1_method_2_code 22 = .ok (.putfield 20, 3) := by decide +kernel
theorem own_d9_25 : decode prog_1_method_2_code 25 = .ok (.return_, 1) := by decide +kernel
theorem own_d10_0 : decode jdk_30_method_1_code 0 = .ok (.aload_n 0, 1) := by decide +kernel
theorem own_d10_1 : decode jdk_30_method_1_code 1 = .ok (.invokespecial 1, 3) := by decide +kernel
theorem own_d10_4 : decode jdk_30_method_1_code 4 = .ok (.return_, 1) := by decide +kernel
theorem own_d11_0 : decode prog_1_method_8_code 0 = .ok (.aload_n 0, 1) := by decide +kernel
theorem own_d11_1 : decode prog_1_method_8_code 1 = .ok (.getfield 7, 3) := by decide +kernel
theorem own_d11_4 : decode prog_1_method_8_code 4 = .ok (.areturn, 1) := by decide +kernel
theorem own_d12_0 : decode prog_1_method_9_code 0 = .ok (.aload_n 0, 1) := by decide +kernel
theorem own_d12_1 : decode prog_1_method_9_code 1 = .ok (.getfield 13, 3) := by decide +kernel
theorem own_d12_4 : decode prog_1_method_9_code 4 = .ok (.areturn, 1) := by decide +kernel
theorem own_d13_0 : decode prog_1_method_11_code 0 = .ok (.aload_n 0, 1) := by decide +kernel
theorem own_d13_1 : decode prog_1_method_11_code 1 = .ok (.getfield 20, 3) := by decide +kernel
theorem own_d13_4 : decode prog_1_method_11_code 4 = .ok (.areturn, 1) := by decide +kernel
theorem own_d14_0 : decode prog_1_method_10_code 0 = .ok (.aload_n 0, 1) := by decide +kernel
theorem own_d14_1 : decode prog_1_method_10_code 1 = .ok (.getfield 17, 3) := by decide +kernel
theorem own_d14_4 : decode prog_1_method_10_code 4 = .ok (.areturn, 1) := by decide +kernel
theorem own_d15_0 : decode jdk_42_method_3_code 0 = .ok (.aload_n 0, 1) := by decide +kernel
theorem own_d15_1 : decode jdk_42_method_3_code 1 = .ok (.aload_n 1, 1) := by decide +kernel
theorem own_d15_2 : decode jdk_42_method_3_code 2 = .ok (.iconst 0, 1) := by decide +kernel
theorem own_d15_3 : decode jdk_42_method_3_code 3 = .ok (.aload_n 1, 1) := by decide +kernel
theorem own_d15_4 : decode jdk_42_method_3_code 4 = .ok (.arraylength, 1) := by decide +kernel
theorem own_d15_5 : decode jdk_42_method_3_code 5 = .ok (.aconst_null, 1) := by decide +kernel
theorem own_d15_6 : decode jdk_42_method_3_code 6 = .ok (.invokespecial 27, 3) := by decide +kernel
theorem own_d15_9 : decode jdk_42_method_3_code 9 = .ok (.return_, 1) := by decide +kernel
theorem own_d16_0 : decode jdk_42_method_149_code 0 = .ok (.aload_n 0, 1) := by decide +kernel
theorem own_d16_1 : decode jdk_42_method_149_code 1 = .ok (.invokespecial 1, 3) := by decide +kernel
theorem own_d16_4 : decode jdk_42_method_149_code 4 = .ok (.iload_n 3, 1) := by decide +kernel
theorem own_d16_5 : decode jdk_42_method_149_code 5 = .ok (.ifCond .ne 22, 3) := by decide +kernel
theorem own_d16_8 : decode jdk_42_method_149_code 8 = .ok (.aload_n 0, 1) := by decide +kernel
theorem own_d16_9 : decode jdk_42_method_149_code 9 = .ok (.ldc 7, 2) := by decide +kernel
theorem own_d16_11 : decode jdk_42_method_149_code 11 = .ok (.getfield 9, 3) := by decide +kernel
theorem own_d16_14 : decode jdk_42_method_149_code 14 = .ok (.putfield 9, 3) := by decide +kernel
theorem own_d16_17 : decode jdk_42_method_149_code 17 = .ok (.aload_n 0, 1) := by decide +kernel
theorem own_d16_18 : decode jdk_42_method_149_code 18 = .ok (.ldc 7, 2) := by decide +kernel
theorem own_d16_20 : decode jdk_42_method_149_code 20 = .ok (.getfield 15, 3) := by decide +kernel
theorem own_d16_23 : decode jdk_42_method_149_code 23 = .ok (.putfield 15, 3) := by decide +kernel
theorem own_d16_26 : decode jdk_42_method_149_code 26 = .ok (.return_, 1) := by decide +kernel
abbrev own_EL : List (String × Nat) := [("java/lang/String", 7)]
theorem own_EW {a0 : Array Value} {Z : State} (hw : ∀ d ∈ tables_1, d.before a0 Z = true) : EW Z a0 own_EL := (EW.cons (own_w100 hw) (by decide +kernel) EW.nil)
theorem own_mem100 : (("java/lang/String", 7) : String × Nat) ∈ own_EL := List.mem_of_getElem? (i := 0) rfl
def own_FN : List String := ["BAD_REQUEST", "PAYLOAD_TOO_LARGE", "NOT_ACCEPTABLE", "UNSUPPORTED_MEDIA_TYPE", "NOT_FOUND", "NOT_PRICED", "UNAUTHORIZED", "NOT_IMPLEMENTED", "METHOD_NOT_ALLOWED", "TAKEN", "FORBIDDEN", "INTERNAL_ERROR", "INVALID", "HTTP_VERSION_NOT_SUPPORTED", "URI_TOO_LONG", "CONFLICT", "REQUEST_HEADER_FIELDS_TOO_LARGE"]
theorem own_stat {a0 : Array Value} {s : State} (hn : narrow_1.value a0 s none s [] = some true) (hw : ∀ d ∈ tables_1, d.before a0 s = true) : ∀ n ∈ own_FN, ∃ a : Addr, Sta s s.heap "com/example/stallwright/stallwright/api/Failure" n "Lcom/example/stallwright/stallwright/api/Failure;" (.ref a) := by
  have g0 : narrow_1.value a0 s none s [] = some true := hn
  unfold narrow_1 at g0
  obtain ⟨k0, g1⟩ := and_e g0
  obtain ⟨k1, g2⟩ := and_e g1
  obtain ⟨k2, g3⟩ := and_e g2
  obtain ⟨k3, g4⟩ := and_e g3
  obtain ⟨k4, g5⟩ := and_e g4
  obtain ⟨k5, g6⟩ := and_e g5
  obtain ⟨k6, g7⟩ := and_e g6
  obtain ⟨k7, g8⟩ := and_e g7
  obtain ⟨k8, g9⟩ := and_e g8
  obtain ⟨k9, g10⟩ := and_e g9
  obtain ⟨k10, g11⟩ := and_e g10
  obtain ⟨k11, g12⟩ := and_e g11
  obtain ⟨k12, g13⟩ := and_e g12
  obtain ⟨k13, g14⟩ := and_e g13
  obtain ⟨k14, g15⟩ := and_e g14
  obtain ⟨k15, g16⟩ := and_e g15
  have s0 : ∃ a : Addr, Sta s s.heap "com/example/stallwright/stallwright/api/Failure" "BAD_REQUEST" "Lcom/example/stallwright/stallwright/api/Failure;" (.ref a) := by obtain ⟨a, e⟩ := exa_v k0; exact ⟨a, Sta.start e (Or.inr ⟨(own_w35 hw), (own_w36 hw)⟩)⟩
  have s1 : ∃ a : Addr, Sta s s.heap "com/example/stallwright/stallwright/api/Failure" "PAYLOAD_TOO_LARGE" "Lcom/example/stallwright/stallwright/api/Failure;" (.ref a) := by obtain ⟨a, e⟩ := exa_v k1; exact ⟨a, Sta.start e (Or.inr ⟨(own_w35 hw), (own_w99 hw)⟩)⟩
  have s2 : ∃ a : Addr, Sta s s.heap "com/example/stallwright/stallwright/api/Failure" "NOT_ACCEPTABLE" "Lcom/example/stallwright/stallwright/api/Failure;" (.ref a) := by obtain ⟨a, e⟩ := exa_v k2; exact ⟨a, Sta.start e (Or.inr ⟨(own_w35 hw), (own_w104 hw)⟩)⟩
  have s3 : ∃ a : Addr, Sta s s.heap "com/example/stallwright/stallwright/api/Failure" "UNSUPPORTED_MEDIA_TYPE" "Lcom/example/stallwright/stallwright/api/Failure;" (.ref a) := by obtain ⟨a, e⟩ := exa_v k3; exact ⟨a, Sta.start e (Or.inr ⟨(own_w35 hw), (own_w106 hw)⟩)⟩
  have s4 : ∃ a : Addr, Sta s s.heap "com/example/stallwright/stallwright/api/Failure" "NOT_FOUND" "Lcom/example/stallwright/stallwright/api/Failure;" (.ref a) := by obtain ⟨a, e⟩ := exa_v k4; exact ⟨a, Sta.start e (Or.inr ⟨(own_w35 hw), (own_w108 hw)⟩)⟩
  have s5 : ∃ a : Addr, Sta s s.heap "com/example/stallwright/stallwright/api/Failure" "NOT_PRICED" "Lcom/example/stallwright/stallwright/api/Failure;" (.ref a) := by obtain ⟨a, e⟩ := exa_v k5; exact ⟨a, Sta.start e (Or.inr ⟨(own_w35 hw), (own_w110 hw)⟩)⟩
  have s6 : ∃ a : Addr, Sta s s.heap "com/example/stallwright/stallwright/api/Failure" "UNAUTHORIZED" "Lcom/example/stallwright/stallwright/api/Failure;" (.ref a) := by obtain ⟨a, e⟩ := exa_v k6; exact ⟨a, Sta.start e (Or.inr ⟨(own_w35 hw), (own_w112 hw)⟩)⟩
  have s7 : ∃ a : Addr, Sta s s.heap "com/example/stallwright/stallwright/api/Failure" "NOT_IMPLEMENTED" "Lcom/example/stallwright/stallwright/api/Failure;" (.ref a) := by obtain ⟨a, e⟩ := exa_v k7; exact ⟨a, Sta.start e (Or.inr ⟨(own_w35 hw), (own_w114 hw)⟩)⟩
  have s8 : ∃ a : Addr, Sta s s.heap "com/example/stallwright/stallwright/api/Failure" "METHOD_NOT_ALLOWED" "Lcom/example/stallwright/stallwright/api/Failure;" (.ref a) := by obtain ⟨a, e⟩ := exa_v k8; exact ⟨a, Sta.start e (Or.inr ⟨(own_w35 hw), (own_w116 hw)⟩)⟩
  have s9 : ∃ a : Addr, Sta s s.heap "com/example/stallwright/stallwright/api/Failure" "TAKEN" "Lcom/example/stallwright/stallwright/api/Failure;" (.ref a) := by obtain ⟨a, e⟩ := exa_v k9; exact ⟨a, Sta.start e (Or.inr ⟨(own_w35 hw), (own_w118 hw)⟩)⟩
  have s10 : ∃ a : Addr, Sta s s.heap "com/example/stallwright/stallwright/api/Failure" "FORBIDDEN" "Lcom/example/stallwright/stallwright/api/Failure;" (.ref a) := by obtain ⟨a, e⟩ := exa_v k10; exact ⟨a, Sta.start e (Or.inr ⟨(own_w35 hw), (own_w120 hw)⟩)⟩
  have s11 : ∃ a : Addr, Sta s s.heap "com/example/stallwright/stallwright/api/Failure" "INTERNAL_ERROR" "Lcom/example/stallwright/stallwright/api/Failure;" (.ref a) := by obtain ⟨a, e⟩ := exa_v k11; exact ⟨a, Sta.start e (Or.inr ⟨(own_w35 hw), (own_w122 hw)⟩)⟩
  have s12 : ∃ a : Addr, Sta s s.heap "com/example/stallwright/stallwright/api/Failure" "INVALID" "Lcom/example/stallwright/stallwright/api/Failure;" (.ref a) := by obtain ⟨a, e⟩ := exa_v k12; exact ⟨a, Sta.start e (Or.inr ⟨(own_w35 hw), (own_w124 hw)⟩)⟩
  have s13 : ∃ a : Addr, Sta s s.heap "com/example/stallwright/stallwright/api/Failure" "HTTP_VERSION_NOT_SUPPORTED" "Lcom/example/stallwright/stallwright/api/Failure;" (.ref a) := by obtain ⟨a, e⟩ := exa_v k13; exact ⟨a, Sta.start e (Or.inr ⟨(own_w35 hw), (own_w126 hw)⟩)⟩
  have s14 : ∃ a : Addr, Sta s s.heap "com/example/stallwright/stallwright/api/Failure" "URI_TOO_LONG" "Lcom/example/stallwright/stallwright/api/Failure;" (.ref a) := by obtain ⟨a, e⟩ := exa_v k14; exact ⟨a, Sta.start e (Or.inr ⟨(own_w35 hw), (own_w128 hw)⟩)⟩
  have s15 : ∃ a : Addr, Sta s s.heap "com/example/stallwright/stallwright/api/Failure" "CONFLICT" "Lcom/example/stallwright/stallwright/api/Failure;" (.ref a) := by obtain ⟨a, e⟩ := exa_v k15; exact ⟨a, Sta.start e (Or.inr ⟨(own_w35 hw), (own_w130 hw)⟩)⟩
  have s16 : ∃ a : Addr, Sta s s.heap "com/example/stallwright/stallwright/api/Failure" "REQUEST_HEADER_FIELDS_TOO_LARGE" "Lcom/example/stallwright/stallwright/api/Failure;" (.ref a) := by obtain ⟨a, e⟩ := exa_v g16; exact ⟨a, Sta.start e (Or.inr ⟨(own_w35 hw), (own_w132 hw)⟩)⟩
  intro n hn2
  simp only [own_FN, List.mem_cons, List.not_mem_nil, or_false] at hn2
  rcases hn2 with rfl | rfl | rfl | rfl | rfl | rfl | rfl | rfl | rfl | rfl | rfl | rfl | rfl | rfl | rfl | rfl | rfl
  · exact s0
  · exact s1
  · exact s2
  · exact s3
  · exact s4
  · exact s5
  · exact s6
  · exact s7
  · exact s8
  · exact s9
  · exact s10
  · exact s11
  · exact s12
  · exact s13
  · exact s14
  · exact s15
  · exact s16
set_option maxRecDepth 65536 in
set_option maxHeartbeats 40000000 in
theorem rm3 (l : Launch) (Z : State) (a0 : Array Value) (hw : ∀ d ∈ tables_1, d.before a0 Z = true) (c : Int32) (h0 : Heap) (n0 : Nat) (Z0 : n0 ≤ h0.size) (hc : ¬ (255 : Int32) < c) :
    CtP l (⟨"java/lang/StringLatin1", "canEncode", "(C)Z"⟩ : MethodName) jdk_43_method_3_code 1 (some .boolean) [] ({ frames := 0, cells := 0, slots := 0, locals := 0 } : Room) Z #[(.int c)] h0 (fun v h L => v = some (.int (1 : Int32)) ∧ Fr n0 L ∧ h = h0) := by
  refine CtP.walk (Ls := #[.val (.int c)]) (plainFor_of_name own_pn0) (fun m => by first | (simp [entryFrame, mkF, argsToLocals, Value.category]; done) | rfl) ?_
  intro p e s m below meth cc_ T hx hby hml hown hnm hret hlk hZ X eT
  have N := Fr.nil n0
  have sz_h : h0.size ≤ h0.size := Nat.le_refl _
  refine giloadN (v := c) X hx 1 (hb hby own_d3_0) rfl rfl ?_
  refine gsipush X hx (255 : Int32) 4 (hb hby own_d3_1) rfl rfl ?_
  refine gicmpNo X hx 7 (hb hby own_d3_4) rfl (flt hc).2.2.1 ?_
  refine giconst X hx (1 : Int32) 8 (hb hby own_d3_7) rfl rfl ?_
  refine ggoto X hx 12 (hb hby own_d3_8) (by decide) (by decide) ?_
  exact gRetP X hx hlk hret rfl (Or.inl ⟨rfl, by simp, _, rfl⟩) (hb hby own_d3_12) eT (by decide) (by decide) ⟨rfl, N, rfl⟩
set_option maxRecDepth 65536 in
set_option maxHeartbeats 40000000 in
theorem rm4 (l : Launch) (Z : State) (a0 : Array Value) (hw : ∀ d ∈ tables_1, d.before a0 Z = true) (c : Int32) (h0 : Heap) (n0 : Nat) (Z0 : n0 ≤ h0.size) :
    CtP l (⟨"java/lang/StringLatin1", "toBytes", "(C)[B"⟩ : MethodName) jdk_43_method_46_code 1 (some (.array .byte)) [] ({ frames := 0, cells := 1, slots := 1, locals := 0 } : Room) Z #[(.int c)] h0 (fun v h L => ∃ (t : Addr), ∃ (kb : ClassId), v = some (.ref t) ∧ Fr n0 L ∧ Keep h0 h [] ∧ h0.size ≤ t ∧ Arv Z h t kb .byte (1 : Int32) [(.int (c.toInt8.toInt32))] (.int 0)) := by
  refine CtP.walk (Ls := #[.val (.int c)]) (plainFor_of_name own_pn0) (fun m => by first | (simp [entryFrame, mkF, argsToLocals, Value.category]; done) | rfl) ?_
  intro p e s m below meth cc_ T hx hby hml hown hnm hret hlk hZ X eT
  have N := Fr.nil n0
  have K0 := Keep.refl h0 []
  have sz_h : h0.size ≤ h0.size := Nat.le_refl _
  refine giconst X hx (1 : Int32) 1 (hb hby own_d4_0) rfl rfl ?_
  refine gnewP (aty := .byte) X hx hZ (own_w18 hw) eT (n := (1 : Int32)) (by decide) 1 (by decide) (by decide) 1 1 rfl rfl (by decide) (by decide) 3 (hb hby own_d4_1) rfl ?_
  clear X eT; clear T; intro T h1 b2 kc5 X eT ga E3 V4
  have le_a := Nat.le_of_eq ga.symm
  have sz_b2 : h0.size ≤ b2 := Nat.le_trans sz_h le_a
  have ge_b2 : n0 ≤ b2 := Nat.le_trans Z0 sz_b2
  clear le_a ga
  replace K0 := K0.ext E3
  replace sz_h : h0.size ≤ h1.size := Nat.le_trans sz_h E3.1
  replace V4 : Arv Z h1 b2 kc5 .byte (1 : Int32) [(.int (0 : Int32))] (.int 0) := V4.pad (pad_rep [] _ 1)
  refine gdup X hx 4 (hb hby own_d4_3) rfl rfl ?_
  refine giconst X hx (0 : Int32) 5 (hb hby own_d4_4) rfl rfl ?_
  refine giloadN (v := c) X hx 6 (hb hby own_d4_5) rfl rfl ?_
  refine gi2b X hx 7 (hb hby own_d4_6) rfl ?_
  refine gbastore X hx hZ eT V4 (by decide) (by decide) 0 rfl (Nat.le_of_ble_eq_true rfl) N ge_b2 8 (hb hby own_d4_7) rfl ?_
  clear X eT N; clear T; intro T h7 L X eT N W6 V8
  replace K0 := K0.wr W6 (Or.inr sz_b2)
  replace sz_h : h0.size ≤ h7.size := by rw [Wr.size W6]; exact sz_h
  replace V8 : Arv Z h7 b2 kc5 .byte (1 : Int32) [(.int (c.toInt8.toInt32))] (.int 0) := by have z := V8; rw [own_narb] at z; exact z
  exact gRetP X hx hlk hret rfl (Or.inr (Or.inr (Or.inr (Or.inr ⟨rfl, rfl, rfl⟩)))) (hb hby own_d4_8) eT (by decide) (by decide) ⟨b2, kc5, rfl, N, K0, sz_b2, V8⟩
set_option maxRecDepth 65536 in
set_option maxHeartbeats 40000000 in
theorem rm5 (l : Launch) (Z : State) (a0 : Array Value) (hw : ∀ d ∈ tables_1, d.before a0 Z = true) (x : Addr) (t : Addr) (v0 : Value) (c0 : Value) (h0 : Heap) (n0 : Nat) (Z0 : n0 ≤ h0.size) (ge_x : n0 ≤ x) (P0_Exa : Exa Z h0 x "java/lang/String") (P1_Fld : Fld Z h0 x "java/lang/String" "value" "[B" v0) (P2_Fld : Fld Z h0 x "java/lang/String" "coder" "B" c0) :
    CtP l (⟨"java/lang/String", "<init>", "([BB)V"⟩ : MethodName) jdk_42_method_151_code 3 none [] ({ frames := 1, cells := 0, slots := 0, locals := 12 } : Room) Z #[(.ref x), (.ref t), (.int (0 : Int32))] h0 (fun v h L => v = none ∧ Fr n0 L ∧ Keep h0 h [x] ∧ Fld Z h x "java/lang/String" "value" "[B" (.ref t) ∧ Fld Z h x "java/lang/String" "coder" "B" (.int 0)) := by
  refine CtP.walk (Ls := #[.val (.ref x), .val (.ref t), .val (.int (0 : Int32))]) own_pn1 (fun m => by first | (simp [entryFrame, mkF, argsToLocals, Value.category]; done) | rfl) ?_
  intro p e s m below meth cc_ T hx hby hml hown hnm hret hlk hZ X eT
  have N := Fr.nil n0
  have K0 := Keep.refl h0 [x]
  have sz_h : h0.size ≤ h0.size := Nat.le_refl _
  refine galoadN (v := (.ref x)) X hx 1 (hb hby own_d5_0) rfl rfl rfl ?_
  refine ginitO X hx hZ hown (own_w23 hw) (own_w24 hw) (own_w25 hw) eT (by rw [hml]; rfl) (by decide) 0 (Nat.le_of_eq rfl) (by decide) 4 (hb hby own_d5_1) rfl ?_
  clear X eT; clear T; intro T X eT
  refine galoadN (v := (.ref x)) X hx 5 (hb hby own_d5_4) rfl rfl rfl ?_
  refine galoadN (v := (.ref t)) X hx 6 (hb hby own_d5_5) rfl rfl rfl ?_
  refine gputF X hx hZ (host := "") hown (Or.inl (own_w26 hw)) Via.refl eT P1_Fld P0_Exa (Or.inr ⟨(own_w27 hw), rfl, hnm⟩) (own_w14 hw) (ty := (.array .byte)) own_pf0 rfl rfl N ge_x 9 (hb hby own_d5_6) rfl ?_
  clear X eT N; clear T; intro T h1 L X eT N W2
  replace P0_Exa := P0_Exa.wr W2
  replace P1_Fld := P1_Fld.same W2
  replace P2_Fld := P2_Fld.other W2 (Or.inr (slot_ne (Or.inr (own_w29 hw)) (Or.inr (own_w27 hw)) (by decide) own_pf1 own_pf0))
  replace K0 := K0.wr W2 (Or.inl (List.mem_of_getElem? (i := 0) rfl))
  replace sz_h : h0.size ≤ h1.size := by rw [Wr.size W2]; exact sz_h
  refine galoadN (v := (.ref x)) X hx 10 (hb hby own_d5_9) rfl rfl rfl ?_
  refine giloadN (v := (0 : Int32)) X hx 11 (hb hby own_d5_10) rfl rfl ?_
  refine gputF X hx hZ (host := "") hown (Or.inl (own_w28 hw)) Via.refl eT P2_Fld P0_Exa (Or.inr ⟨(own_w29 hw), rfl, hnm⟩) (own_w14 hw) (ty := .byte) own_pf1 rfl rfl N ge_x 14 (hb hby own_d5_11) rfl ?_
  clear X eT N; clear T; intro T h3 L X eT N W4
  replace P0_Exa := P0_Exa.wr W4
  replace P1_Fld := P1_Fld.other W4 (Or.inr (slot_ne (Or.inr (own_w27 hw)) (Or.inr (own_w29 hw)) (by decide) own_pf0 own_pf1))
  replace P2_Fld := P2_Fld.same W4
  replace K0 := K0.wr W4 (Or.inl (List.mem_of_getElem? (i := 0) rfl))
  replace sz_h : h0.size ≤ h3.size := by rw [Wr.size W4]; exact sz_h
  exact gRetP0 X hx hlk hret (hb hby own_d5_14) eT (by decide) (by decide) ⟨rfl, N, K0, P1_Fld, P2_Fld⟩
set_option maxRecDepth 65536 in
set_option maxHeartbeats 40000000 in
theorem rm2 (l : Launch) (Z : State) (a0 : Array Value) (hw : ∀ d ∈ tables_1, d.before a0 Z = true) (c : Int32) (G1 : Int32) (h0 : Heap) (n0 : Nat) (Z0 : n0 ≤ h0.size) (P0_Old : Old Z n0 h0) (hc : ¬ (255 : Int32) < c) (O2 : Sta Z Z.heap "java/lang/String" "COMPACT_STRINGS" "Z" (.int G1)) (P5 : ¬ G1 = (0 : Int32)) :
    CtP l (⟨"java/lang/String", "valueOf", "(C)Ljava/lang/String;"⟩ : MethodName) jdk_42_method_139_code 1 (some (.object "java/lang/String")) [] ({ frames := 2, cells := 2, slots := 5, locals := 27 } : Room) Z #[(.int c)] h0 (fun v h L => ∃ (x : Addr), ∃ (t : Addr), ∃ (kb : ClassId), v = some (.ref x) ∧ Fr n0 L ∧ Keep h0 h [] ∧ h0.size ≤ x ∧ h0.size ≤ t ∧ Exa Z h x "java/lang/String" ∧ Fld Z h x "java/lang/String" "coder" "B" (.int 0) ∧ Fld Z h x "java/lang/String" "value" "[B" (.ref t) ∧ Arv Z h t kb .byte (1 : Int32) [(.int (c.toInt8.toInt32))] (.int 0) ∧ x ≠ t) := by
  refine CtP.walk (Ls := #[.val (.int c)]) own_pn2 (fun m => by first | (simp [entryFrame, mkF, argsToLocals, Value.category]; done) | rfl) ?_
  intro p e s m below meth cc_ T hx hby hml hown hnm hret hlk hZ X eT
  have N := Fr.nil n0
  have K0 := Keep.refl h0 []
  have sz_h : h0.size ≤ h0.size := Nat.le_refl _
  refine ggetS X hx hZ (host := "") hown (Or.inl (own_w8 hw)) Via.refl eT (O2.ext P0_Old.2) 3 (hb hby own_d2_0) rfl ?_
  clear X eT; clear T; intro T X eT
  refine gifNo X hx 6 (hb hby own_d2_3) rfl ((if0 _ _).trans (feq P5).1) ?_
  refine giloadN (v := c) X hx 7 (hb hby own_d2_6) rfl rfl ?_
  refine gstatic (y := (⟨"java/lang/StringLatin1", "canEncode", "(C)Z"⟩ : MethodName)) (argsL := [(.int c)]) (st := []) X hx hZ hown (own_w9 hw) (own_w10 hw) (own_w11 hw) (own_w12 hw) (by decide) (payP (W := 0) (rm3 l Z a0 hw (c) h0 n0 (Nat.le_trans Z0 sz_h) (hc)) hZ (own_w12 hw) (own_w11 hw) (by decide) (by decide)) eT (by rw [hml]; rfl) (lenOf own_pd0 rfl) rfl (Nat.le_of_eq rfl) 0 0 rfl rfl (by decide) (by decide) 10 (hb hby own_d2_7) rfl ?_
  clear X eT; clear T; intro v T h1 L2 Lc X eT hL hQ2
  obtain ⟨rfl, Nq, hh⟩ := hQ2
  replace N : Fr n0 L2 := by rw [hL]; exact Fr.app N Nq
  clear Nq hL
  replace hh := hh.symm; subst hh
  show Go p e below _ T (mkF m 10 #[.val (.int c)] [(.int (1 : Int32))])
  refine gifNo X hx 13 (hb hby own_d2_10) rfl (by decide) ?_
  refine gnewO X hx hZ hown (own_w13 hw) (own_w14 hw) (own_w6 hw) eT 1 4 rfl rfl (by decide) (by decide) 16 (hb hby own_d2_13) rfl ?_
  clear X eT; clear T; intro T h5 b6 X eT ga E7 A8 D9
  have le_a := Nat.le_of_eq ga.symm
  have sz_b6 : h0.size ≤ b6 := Nat.le_trans sz_h le_a
  have ge_b6 : n0 ≤ b6 := Nat.le_trans Z0 sz_b6
  clear le_a ga
  replace P0_Old := P0_Old.ext E7
  replace K0 := K0.ext E7
  replace sz_h : h0.size ≤ h5.size := Nat.le_trans sz_h E7.1
  have F_value_b6 : Fld Z h5 b6 "java/lang/String" "value" "[B" .null := D9 (Or.inr (own_w27 hw)) (ty := (.array .byte)) own_pf0
  have F_coder_b6 : Fld Z h5 b6 "java/lang/String" "coder" "B" (.int (0 : Int32)) := D9 (Or.inr (own_w29 hw)) (ty := .byte) own_pf1
  clear D9
  refine gdup X hx 17 (hb hby own_d2_16) rfl rfl ?_
  refine giloadN (v := c) X hx 18 (hb hby own_d2_17) rfl rfl ?_
  refine gstatic (y := (⟨"java/lang/StringLatin1", "toBytes", "(C)[B"⟩ : MethodName)) (argsL := [(.int c)]) (st := [(.ref b6), (.ref b6)]) X hx hZ hown (own_w15 hw) (own_w16 hw) (own_w11 hw) (own_w17 hw) (by decide) (payP (W := 2) (rm4 l Z a0 hw (c) h5 n0 (Nat.le_trans Z0 sz_h)) hZ (own_w17 hw) (own_w11 hw) (by decide) (by decide)) eT (by rw [hml]; rfl) (lenOf own_pd1 rfl) rfl (Nat.le_of_eq rfl) 2 5 rfl rfl (by decide) (by decide) 21 (hb hby own_d2_18) rfl ?_
  clear X eT; clear T; intro v T h10 L2 Lc X eT hL hQ11
  obtain ⟨t_12, kb_13, rfl, Nq, K14, zz_t_12, G16⟩ := hQ11
  replace N : Fr n0 L2 := by rw [hL]; exact Fr.app N Nq
  clear Nq hL
  have ne_b6_t_12 : b6 ≠ t_12 := Nat.ne_of_lt (Nat.lt_of_lt_of_le A8.lt zz_t_12)
  have ne_t_12_b6 : t_12 ≠ b6 := Ne.symm ne_b6_t_12
  have sz_t_12 : h0.size ≤ t_12 := Nat.le_trans sz_h zz_t_12
  have ge_t_12 : n0 ≤ t_12 := Nat.le_trans Z0 sz_t_12
  replace P0_Old := P0_Old.keep K14 all0
  replace A8 := A8.keep K14
  replace F_value_b6 := F_value_b6.keep K14 nin0
  replace F_coder_b6 := F_coder_b6.keep K14 nin0
  replace K0 := K0.trans K14 all0
  replace sz_h : h0.size ≤ h10.size := Nat.le_trans sz_h K14.1
  show Go p e below _ T (mkF m 21 #[.val (.int c)] [(.ref t_12), (.ref b6), (.ref b6)])
  refine giconst X hx (0 : Int32) 22 (hb hby own_d2_21) rfl rfl ?_
  refine gspecial (y := (⟨"java/lang/String", "<init>", "([BB)V"⟩ : MethodName)) (a := b6) (argsL := [(.ref t_12), (.int (0 : Int32))]) (st := [(.ref b6)]) X hx hZ hown rfl (own_w19 hw) (own_w20 hw) (own_w22 hw) (by decide) (payP (W := 1) (rm5 l Z a0 hw (b6) (t_12) (.null) ((.int (0 : Int32))) h10 n0 (Nat.le_trans Z0 sz_h) ge_b6 A8 F_value_b6 F_coder_b6) hZ (own_w22 hw) (own_w6 hw) (by decide) (by decide)) eT (by rw [hml]; rfl) (lenOf own_pd2 rfl) rfl (Nat.le_of_eq rfl) 2 5 rfl rfl (by decide) (by decide) 25 (hb hby own_d2_22) rfl ?_
  clear X eT; clear T; intro v T h17 L2 Lc X eT hL hQ18
  obtain ⟨rfl, Nq, K19, G21, G22⟩ := hQ18
  replace N : Fr n0 L2 := by rw [hL]; exact Fr.app N Nq
  clear Nq hL
  replace P0_Old := P0_Old.keep K19 (allS ge_b6 all0)
  replace A8 := A8.keep K19
  replace G16 := G16.keep K19 (ninS ne_t_12_b6 nin0)
  replace K0 := K0.trans K19 (allS (Or.inr sz_b6) all0)
  replace sz_h : h0.size ≤ h17.size := Nat.le_trans sz_h K19.1
  show Go p e below _ T (mkF m 25 #[.val (.int c)] [(.ref b6)])
  exact gRetP X hx hlk hret rfl (Or.inr (Or.inr (Or.inr (Or.inr ⟨rfl, rfl, rfl⟩)))) (hb hby own_d2_25) eT (by decide) (by decide) ⟨b6, t_12, kb_13, rfl, N, K0, sz_b6, sz_t_12, A8, G22, G21, G16, ne_b6_t_12⟩
set_option maxRecDepth 65536 in
set_option maxHeartbeats 40000000 in
theorem rmE4 (l : Launch) (Z : State) (a0 : Array Value) (hw : ∀ d ∈ tables_1, d.before a0 Z = true) (x : Addr) (b : Addr) (v0 : Value) (c0 : Value) (h0 : Heap) (n0 : Nat) (Z0 : n0 ≤ h0.size) (ge_x : n0 ≤ x) (P0_Exa : Exa Z h0 x "java/lang/String") (P1_Fld : Fld Z h0 x "java/lang/String" "value" "[B" v0) (P2_Fld : Fld Z h0 x "java/lang/String" "coder" "B" c0) :
    CtS l (⟨"java/lang/String", "<init>", "([CIILjava/lang/Void;)V"⟩ : MethodName) jdk_42_method_149_code 6 none [] ({ frames := 1, cells := 4, slots := 8, locals := 12 } : Room) Z own_EL [x] #[(.ref x), (.ref b), (.int (0 : Int32)), (.int (0 : Int32)), .null] h0 (fun v h L => ∃ (t : Addr), ∃ (kb : ClassId), v = none ∧ Fr n0 L ∧ Keep h0 h [x] ∧ Fld Z h x "java/lang/String" "value" "[B" (.ref t) ∧ Fld Z h x "java/lang/String" "coder" "B" (.int 0) ∧ Arv Z h t kb .byte (0 : Int32) [] (.int 0)) := by
  refine CtS.walk (Ls := #[.val (.ref x), .val (.ref b), .val (.int (0 : Int32)), .val (.int (0 : Int32)), .val .null, .unset]) own_pn3 (fun m => by first | (simp [entryFrame, mkF, argsToLocals, Value.category]; done) | rfl) ?_
  intro p e s m below meth cc_ T vm k0 hx hby hml hown hnm hret hlk hZ X eT hS hk C hSL
  have P3_Safe := hSL x (List.mem_of_getElem? (i := 0) rfl)
  have N := Fr.nil n0
  have K0 := Keep.refl h0 [x]
  have sz_h : h0.size ≤ h0.size := Nat.le_refl _
  refine galoadN (v := (.ref x)) X hx 1 (hb hby own_d16_0) rfl rfl rfl ?_
  refine ginitO X hx hZ hown (own_w23 hw) (own_w24 hw) (own_w25 hw) eT (by rw [hml]; rfl) (by decide) 0 (Nat.le_of_eq rfl) (by decide) 4 (hb hby own_d16_1) rfl ?_
  clear X eT; clear T; intro T X eT
  refine giloadN (v := (0 : Int32)) X hx 5 (hb hby own_d16_4) rfl rfl ?_
  refine gifNo X hx 8 (hb hby own_d16_5) rfl (by decide) ?_
  refine galoadN (v := (.ref x)) X hx 9 (hb hby own_d16_8) rfl rfl rfl ?_
  have lt_x := P0_Exa.lt
  refine gldcV X hx hZ hown (own_w100 hw) (own_wS hw) eT hS hk (own_EW hw) own_mem100 C.1 [] (0 : Int32) (by decide +kernel) (by decide) rfl 0 (by decide) (by decide) 2 4 rfl rfl (by decide) (by decide) 11 (hb hby own_d16_9) rfl ?_
  clear X eT hS hk hZ hown; clear T k0; intro c2 T h1 vm k0 t10 kb11 X eT E3 hS hk hZ hown CR4 Li5 A6 F7 F8 V9 ns12
  replace P0_Exa := P0_Exa.ext E3
  replace P1_Fld := P1_Fld.ext E3
  replace P2_Fld := P2_Fld.ext E3
  replace P3_Safe := CHr.safe CR4 lt_x P3_Safe
  replace K0 := K0.ext E3
  replace C := C.trans CR4
  replace sz_h : h0.size ≤ h1.size := Nat.le_trans sz_h E3.1
  have ne_x_c2 := (ns12 _ P3_Safe).1
  have ne_c2_x := Ne.symm ne_x_c2
  have ne_x_t10 := (ns12 _ P3_Safe).2
  have ne_t10_x := Ne.symm ne_x_t10
  show Go p e below _ T (mkF m 11 #[.val (.ref x), .val (.ref b), .val (.int (0 : Int32)), .val (.int (0 : Int32)), .val .null, .unset] [(.ref c2), (.ref x)])
  refine ggetF X hx hZ (host := "") hown (Or.inl (own_w26 hw)) Via.refl eT F8 14 (hb hby own_d16_11) rfl ?_
  clear X eT; clear T; intro T X eT
  refine gputF X hx hZ (host := "") hown (Or.inl (own_w26 hw)) Via.refl eT P1_Fld P0_Exa (Or.inr ⟨(own_w27 hw), rfl, hnm⟩) (own_w14 hw) (ty := (.array .byte)) own_pf0 rfl rfl N ge_x 17 (hb hby own_d16_14) rfl ?_
  clear X eT N; clear T; intro T h13 L X eT N W14
  have sfw := P3_Safe
  replace P0_Exa := P0_Exa.wr W14
  replace P1_Fld := P1_Fld.same W14
  replace P2_Fld := P2_Fld.other W14 (Or.inr (slot_ne (Or.inr (own_w29 hw)) (Or.inr (own_w27 hw)) (by decide) own_pf1 own_pf0))
  replace P3_Safe := Safe.wr W14 sfw C.1 P3_Safe
  replace A6 := A6.wr W14
  replace F7 := F7.other W14 (Or.inl ne_c2_x)
  replace F8 := F8.other W14 (Or.inl ne_c2_x)
  replace V9 := V9.other W14 ne_t10_x
  replace K0 := K0.wr W14 (Or.inl (List.mem_of_getElem? (i := 0) rfl))
  replace C := C.trans (CHr.wr W14 sfw C.1)
  replace hk : k0 ≤ h13.size := by rw [Wr.size W14]; exact hk
  replace sz_h : h0.size ≤ h13.size := by rw [Wr.size W14]; exact sz_h
  refine galoadN (v := (.ref x)) X hx 18 (hb hby own_d16_17) rfl rfl rfl ?_
  have lt_x := P0_Exa.lt
  refine gldcV X hx hZ hown (own_w100 hw) (own_wS hw) eT hS hk (own_EW hw) own_mem100 C.1 [] (0 : Int32) (by decide +kernel) (by decide) rfl 0 (by decide) (by decide) 4 8 rfl rfl (by decide) (by decide) 20 (hb hby own_d16_18) rfl ?_
  clear X eT hS hk hZ hown; clear T k0; intro c16 T h15 vm k0 t24 kb25 X eT E17 hS hk hZ hown CR18 Li19 A20 F21 F22 V23 ns26
  replace P0_Exa := P0_Exa.ext E17
  replace P1_Fld := P1_Fld.ext E17
  replace P2_Fld := P2_Fld.ext E17
  replace P3_Safe := CHr.safe CR18 lt_x P3_Safe
  replace A6 := A6.ext E17
  replace F7 := F7.ext E17
  replace F8 := F8.ext E17
  replace V9 := V9.ext E17
  replace K0 := K0.ext E17
  replace C := C.trans CR18
  replace sz_h : h0.size ≤ h15.size := Nat.le_trans sz_h E17.1
  have ne_x_c16 := (ns26 _ P3_Safe).1
  have ne_c16_x := Ne.symm ne_x_c16
  have ne_x_t24 := (ns26 _ P3_Safe).2
  have ne_t24_x := Ne.symm ne_x_t24
  show Go p e below _ T (mkF m 20 #[.val (.ref x), .val (.ref b), .val (.int (0 : Int32)), .val (.int (0 : Int32)), .val .null, .unset] [(.ref c16), (.ref x)])
  refine ggetF X hx hZ (host := "") hown (Or.inl (own_w28 hw)) Via.refl eT F21 23 (hb hby own_d16_20) rfl ?_
  clear X eT; clear T; intro T X eT
  refine gputF X hx hZ (host := "") hown (Or.inl (own_w28 hw)) Via.refl eT P2_Fld P0_Exa (Or.inr ⟨(own_w29 hw), rfl, hnm⟩) (own_w14 hw) (ty := .byte) own_pf1 rfl rfl N ge_x 26 (hb hby own_d16_23) rfl ?_
  clear X eT N; clear T; intro T h27 L X eT N W28
  have sfw := P3_Safe
  replace P0_Exa := P0_Exa.wr W28
  replace P1_Fld := P1_Fld.other W28 (Or.inr (slot_ne (Or.inr (own_w27 hw)) (Or.inr (own_w29 hw)) (by decide) own_pf0 own_pf1))
  replace P2_Fld := P2_Fld.same W28
  replace P3_Safe := Safe.wr W28 sfw C.1 P3_Safe
  replace A6 := A6.wr W28
  replace F7 := F7.other W28 (Or.inl ne_c2_x)
  replace F8 := F8.other W28 (Or.inl ne_c2_x)
  replace V9 := V9.other W28 ne_t10_x
  replace A20 := A20.wr W28
  replace F21 := F21.other W28 (Or.inl ne_c16_x)
  replace F22 := F22.other W28 (Or.inl ne_c16_x)
  replace V23 := V23.other W28 ne_t24_x
  replace K0 := K0.wr W28 (Or.inl (List.mem_of_getElem? (i := 0) rfl))
  replace C := C.trans (CHr.wr W28 sfw C.1)
  replace hk : k0 ≤ h27.size := by rw [Wr.size W28]; exact hk
  replace sz_h : h0.size ≤ h27.size := by rw [Wr.size W28]; exact sz_h
  exact gRetS0 X hx hlk hret (hb hby own_d16_26) eT hS hk hZ (own_EW hw) C (by decide) (by decide) ⟨t10, kb11, rfl, N, K0, P1_Fld, P2_Fld, V9⟩
set_option maxRecDepth 65536 in
set_option maxHeartbeats 40000000 in
theorem rmE1 (l : Launch) (Z : State) (a0 : Array Value) (hw : ∀ d ∈ tables_1, d.before a0 Z = true) (x : Addr) (b : Addr) (v0 : Value) (c0 : Value) (kc : ClassId) (h0 : Heap) (n0 : Nat) (Z0 : n0 ≤ h0.size) (ge_x : n0 ≤ x) (P0_Exa : Exa Z h0 x "java/lang/String") (P1_Fld : Fld Z h0 x "java/lang/String" "value" "[B" v0) (P2_Fld : Fld Z h0 x "java/lang/String" "coder" "B" c0) (P4_Arv : Arv Z h0 b kc .char (0 : Int32) [] (.int 0)) :
    CtS l (⟨"java/lang/String", "<init>", "([C)V"⟩ : MethodName) jdk_42_method_3_code 2 none [] ({ frames := 2, cells := 4, slots := 8, locals := 29 } : Room) Z own_EL [x] #[(.ref x), (.ref b)] h0 (fun v h L => ∃ (t : Addr), ∃ (kb : ClassId), v = none ∧ Fr n0 L ∧ Keep h0 h [x] ∧ Fld Z h x "java/lang/String" "value" "[B" (.ref t) ∧ Fld Z h x "java/lang/String" "coder" "B" (.int 0) ∧ Arv Z h t kb .byte (0 : Int32) [] (.int 0)) := by
  refine CtS.walk (Ls := #[.val (.ref x), .val (.ref b)]) own_pn4 (fun m => by first | (simp [entryFrame, mkF, argsToLocals, Value.category]; done) | rfl) ?_
  intro p e s m below meth cc_ T vm k0 hx hby hml hown hnm hret hlk hZ X eT hS hk C hSL
  have P3_Safe := hSL x (List.mem_of_getElem? (i := 0) rfl)
  have N := Fr.nil n0
  have K0 := Keep.refl h0 [x]
  have sz_h : h0.size ≤ h0.size := Nat.le_refl _
  refine galoadN (v := (.ref x)) X hx 1 (hb hby own_d15_0) rfl rfl rfl ?_
  refine galoadN (v := (.ref b)) X hx 2 (hb hby own_d15_1) rfl rfl rfl ?_
  refine giconst X hx (0 : Int32) 3 (hb hby own_d15_2) rfl rfl ?_
  refine galoadN (v := (.ref b)) X hx 4 (hb hby own_d15_3) rfl rfl rfl ?_
  refine garrlen X hx hZ eT P4_Arv 5 (hb hby own_d15_4) rfl ?_
  refine gaconstNull X hx 6 (hb hby own_d15_5) rfl ?_
  refine gspecialS (y := (⟨"java/lang/String", "<init>", "([CIILjava/lang/Void;)V"⟩ : MethodName)) (a := x) (argsL := [(.ref b), (.int (0 : Int32)), (.int (0 : Int32)), .null]) (st := []) X hx hZ hown rfl (own_w85 hw) (own_w86 hw) (own_w87 hw) (by decide) hS hk (payS (W := 0) (rmE4 l Z a0 hw (x) (b) (v0) (c0) h0 n0 (Nat.le_trans Z0 sz_h) ge_x P0_Exa P1_Fld P2_Fld) hZ (own_w87 hw) (own_w6 hw) (by decide) (by decide) (own_EW hw) C.1 (allS ⟨P0_Exa.lt, P3_Safe⟩ all0)) eT (by rw [hml]; rfl) (lenOf own_pd3 rfl) rfl (Nat.le_of_eq rfl) 4 8 rfl rfl (by decide) (by decide) 9 (hb hby own_d15_6) rfl ?_
  have lt_x := P0_Exa.lt
  clear X eT hS hk hZ hown; clear T k0; intro v T h1 L2 Lc vm k0 X eT hL hS hk hZ hown CR6 hQ2
  obtain ⟨t_3, kb_4, rfl, Nq, K5, G7, G8, G9⟩ := hQ2
  replace N : Fr n0 L2 := by rw [hL]; exact Fr.app N Nq
  clear Nq hL
  have ne_b_x : b ≠ x := Ne.symm (Exa.neArv P0_Exa P4_Arv (own_w14 hw))
  replace P0_Exa := P0_Exa.keep K5
  replace P3_Safe := CHr.safe CR6 lt_x P3_Safe
  replace P4_Arv := P4_Arv.keep K5 (ninS ne_b_x nin0)
  replace K0 := K0.trans K5 (allS (Or.inl (List.mem_of_getElem? (i := 0) rfl)) all0)
  replace C := C.trans CR6
  replace sz_h : h0.size ≤ h1.size := Nat.le_trans sz_h K5.1
  show Go p e below _ T (mkF m 9 #[.val (.ref x), .val (.ref b)] [])
  exact gRetS0 X hx hlk hret (hb hby own_d15_9) eT hS hk hZ (own_EW hw) C (by decide) (by decide) ⟨t_3, kb_4, rfl, N, K0, G7, G8, G9⟩
set_option maxRecDepth 65536 in
set_option maxHeartbeats 40000000 in
theorem rm1 (l : Launch) (Z : State) (a0 : Array Value) (hw : ∀ d ∈ tables_1, d.before a0 Z = true) (sh : Int32) (ch : Int32) (G1 : Int32) (h0 : Heap) (n0 : Nat) (Z0 : n0 ≤ h0.size) (P0_Old : Old Z n0 h0) (O2 : Sta Z Z.heap "java/lang/String" "COMPACT_STRINGS" "Z" (.int G1)) (P5 : ¬ G1 = (0 : Int32)) :
    CtS l (⟨"com/example/stallwright/stallwright/api/ApiErrorAtParameterPinLaw", "str", "(II)Ljava/lang/String;"⟩ : MethodName) method_3_code 6 (some (.object "java/lang/String")) [] ({ frames := 4, cells := 6, slots := 12, locals := 66 } : Room) Z own_EL [] #[(.int sh), (.int ch)] h0 (fun v h L => ∃ (u : Value), v = some u ∧ Fr n0 L ∧ Keep h0 h [] ∧ u.isRef = true) := by
  refine CtS.walk (Ls := #[.val (.int sh), .val (.int ch), .unset, .unset, .unset, .unset]) (plainFor_of_name own_pn5) (fun m => by first | (simp [entryFrame, mkF, argsToLocals, Value.category]; done) | rfl) ?_
  intro p e s m below meth cc_ T vm k0 hx hby hml hown hnm hret hlk hZ X eT hS hk C hSL
  have N := Fr.nil n0
  have K0 := Keep.refl h0 []
  have sz_h : h0.size ≤ h0.size := Nat.le_refl _
  refine giloadN (v := sh) X hx 1 (hb hby own_d1_0) rfl rfl ?_
  refine giconst X hx (3 : Int32) 2 (hb hby own_d1_1) rfl rfl ?_
  refine giand X hx 3 (hb hby own_d1_2) rfl ?_
  refine gistoreN X hx #[.val (.int sh), .val (.int ch), .val (.int (sh &&& (3 : Int32))), .unset, .unset, .unset] 4 (hb hby own_d1_3) rfl rfl ?_
  refine giloadN (v := (sh &&& (3 : Int32))) X hx 5 (hb hby own_d1_4) rfl rfl ?_
  rcases Decidable.em ((sh &&& (3 : Int32)) = (0 : Int32)) with hc5 | hc5
  · refine gifNo X hx 8 (hb hby own_d1_5) rfl ((if0 _ _).trans (teq hc5).2) ?_
    refine gaconstNull X hx 9 (hb hby own_d1_8) rfl ?_
    exact gRetS X hx hlk hret rfl (Or.inr (Or.inr (Or.inr (Or.inr ⟨rfl, rfl, rfl⟩)))) (hb hby own_d1_9) eT hS hk hZ (own_EW hw) C (by decide) (by decide) ⟨.null, rfl, N, K0, rfl⟩
  · refine gifYes X hx 10 (hb hby own_d1_5) ((if0 _ _).trans (feq hc5).2) (by decide) (by decide) ?_
    refine giloadN (v := (sh &&& (3 : Int32))) X hx 11 (hb hby own_d1_10) rfl rfl ?_
    refine giconst X hx (1 : Int32) 12 (hb hby own_d1_11) rfl rfl ?_
    rcases Decidable.em ((sh &&& (3 : Int32)) = (1 : Int32)) with hc12 | hc12
    · refine gicmpNo X hx 15 (hb hby own_d1_12) rfl (teq hc12).2 ?_
      refine gnewO X hx hZ hown (own_w81 hw) (own_w14 hw) (own_w6 hw) eT 1 4 rfl rfl (by decide) (by decide) 18 (hb hby own_d1_15) rfl ?_
      clear X eT; clear T; intro T h1 b2 X eT ga E3 A4 D5
      have le_a := Nat.le_of_eq ga.symm
      have sz_b2 : h0.size ≤ b2 := Nat.le_trans sz_h le_a
      have ge_b2 : n0 ≤ b2 := Nat.le_trans Z0 sz_b2
      have Sf_b2 := Safe.ext E3 C.1 (Safe.new le_a)
      clear le_a ga
      replace P0_Old := P0_Old.ext E3
      replace K0 := K0.ext E3
      replace C := C.trans (CHr.ext E3 C.1)
      replace hk := Nat.le_trans hk E3.1
      replace sz_h : h0.size ≤ h1.size := Nat.le_trans sz_h E3.1
      have F_value_b2 : Fld Z h1 b2 "java/lang/String" "value" "[B" .null := D5 (Or.inr (own_w27 hw)) (ty := (.array .byte)) own_pf0
      have F_coder_b2 : Fld Z h1 b2 "java/lang/String" "coder" "B" (.int (0 : Int32)) := D5 (Or.inr (own_w29 hw)) (ty := .byte) own_pf1
      clear D5
      refine gdup X hx 19 (hb hby own_d1_18) rfl rfl ?_
      refine giconst X hx (0 : Int32) 20 (hb hby own_d1_19) rfl rfl ?_
      refine gnewP (aty := .char) X hx hZ (own_w80 hw) eT (n := (0 : Int32)) (by decide) 0 (by decide) (by decide) 2 4 rfl rfl (by decide) (by decide) 22 (hb hby own_d1_20) rfl ?_
      clear X eT; clear T; intro T h6 b7 kc10 X eT ga E8 V9
      have le_a := Nat.le_of_eq ga.symm
      have ne_b2_b7 : b2 ≠ b7 := Nat.ne_of_lt (Nat.lt_of_lt_of_le A4.lt le_a)
      have ne_b7_b2 : b7 ≠ b2 := Ne.symm ne_b2_b7
      have sz_b7 : h0.size ≤ b7 := Nat.le_trans sz_h le_a
      have ge_b7 : n0 ≤ b7 := Nat.le_trans Z0 sz_b7
      clear le_a ga
      replace P0_Old := P0_Old.ext E8
      replace A4 := A4.ext E8
      replace Sf_b2 := Safe.ext E8 C.1 Sf_b2
      replace F_value_b2 := F_value_b2.ext E8
      replace F_coder_b2 := F_coder_b2.ext E8
      replace K0 := K0.ext E8
      replace C := C.trans (CHr.ext E8 C.1)
      replace hk := Nat.le_trans hk E8.1
      replace sz_h : h0.size ≤ h6.size := Nat.le_trans sz_h E8.1
      replace V9 : Arv Z h6 b7 kc10 .char (0 : Int32) [] (.int 0) := V9.pad (pad_rep [] _ 0)
      refine gspecialS (y := (⟨"java/lang/String", "<init>", "([C)V"⟩ : MethodName)) (a := b2) (argsL := [(.ref b7)]) (st := [(.ref b2)]) X hx hZ hown rfl (own_w82 hw) (own_w83 hw) (own_w84 hw) (by decide) hS hk (payS (W := 1) (rmE1 l Z a0 hw (b2) (b7) (.null) ((.int (0 : Int32))) (kc10) h6 n0 (Nat.le_trans Z0 sz_h) ge_b2 A4 F_value_b2 F_coder_b2 V9) hZ (own_w84 hw) (own_w6 hw) (by decide) (by decide) (own_EW hw) C.1 (allS ⟨A4.lt, Sf_b2⟩ all0)) eT (by rw [hml]; rfl) (lenOf own_pd4 rfl) rfl (Nat.le_of_eq rfl) 6 12 rfl rfl (by decide) (by decide) 25 (hb hby own_d1_22) rfl ?_
      have lt_b2 := A4.lt
      clear X eT hS hk hZ hown; clear T k0; intro v T h11 L2 Lc vm k0 X eT hL hS hk hZ hown CR16 hQ12
      obtain ⟨t_13, kb_14, rfl, Nq, K15, G17, G18, G19⟩ := hQ12
      replace N : Fr n0 L2 := by rw [hL]; exact Fr.app N Nq
      clear Nq hL
      replace P0_Old := P0_Old.keep K15 (allS ge_b2 all0)
      replace A4 := A4.keep K15
      replace Sf_b2 := CHr.safe CR16 lt_b2 Sf_b2
      replace V9 := V9.keep K15 (ninS ne_b7_b2 nin0)
      replace K0 := K0.trans K15 (allS (Or.inr sz_b2) all0)
      replace C := C.trans CR16
      replace sz_h : h0.size ≤ h11.size := Nat.le_trans sz_h K15.1
      show Go p e below _ T (mkF m 25 #[.val (.int sh), .val (.int ch), .val (.int (sh &&& (3 : Int32))), .unset, .unset, .unset] [(.ref b2)])
      exact gRetS X hx hlk hret rfl (Or.inr (Or.inr (Or.inr (Or.inr ⟨rfl, rfl, rfl⟩)))) (hb hby own_d1_25) eT hS hk hZ (own_EW hw) C (by decide) (by decide) ⟨(.ref b2), rfl, N, K0, rfl⟩
    · refine gicmpYes X hx 26 (hb hby own_d1_12) (feq hc12).2 (by decide) (by decide) ?_
      refine giloadN (v := ch) X hx 27 (hb hby own_d1_26) rfl rfl ?_
      refine gsipush X hx (255 : Int32) 30 (hb hby own_d1_27) rfl rfl ?_
      refine giand X hx 31 (hb hby own_d1_30) rfl ?_
      refine gi2c X hx 32 (hb hby own_d1_31) rfl ?_
      rw [own_i2c8]
      refine gistoreN X hx #[.val (.int sh), .val (.int ch), .val (.int (sh &&& (3 : Int32))), .val (.int (ch &&& (255 : Int32))), .unset, .unset] 33 (hb hby own_d1_32) rfl rfl ?_
      refine giloadN (v := ch) X hx 34 (hb hby own_d1_33) rfl rfl ?_
      refine gbipush X hx (8 : Int32) 36 (hb hby own_d1_34) rfl rfl ?_
      refine giushr X hx 37 (hb hby own_d1_36) rfl ?_
      refine gsipush X hx (255 : Int32) 40 (hb hby own_d1_37) rfl rfl ?_
      refine giand X hx 41 (hb hby own_d1_40) rfl ?_
      refine gi2c X hx 42 (hb hby own_d1_41) rfl ?_
      rw [own_i2c8]
      refine gistore X hx #[.val (.int sh), .val (.int ch), .val (.int (sh &&& (3 : Int32))), .val (.int (ch &&& (255 : Int32))), .val (.int (((ch.toUInt32 >>> ((8 : Int32) &&& 31).toUInt32).toInt32) &&& (255 : Int32))), .unset] 44 (hb hby own_d1_42) rfl rfl ?_
      refine giloadN (v := (sh &&& (3 : Int32))) X hx 45 (hb hby own_d1_44) rfl rfl ?_
      refine giconst X hx (2 : Int32) 46 (hb hby own_d1_45) rfl rfl ?_
      rcases Decidable.em ((sh &&& (3 : Int32)) = (2 : Int32)) with hc46 | hc46
      · refine gicmpNo X hx 49 (hb hby own_d1_46) rfl (teq hc46).2 ?_
        refine giloadN (v := (ch &&& (255 : Int32))) X hx 50 (hb hby own_d1_49) rfl rfl ?_
        refine gstatic (y := (⟨"java/lang/String", "valueOf", "(C)Ljava/lang/String;"⟩ : MethodName)) (argsL := [(.int (ch &&& (255 : Int32)))]) (st := []) X hx hZ hown (own_w4 hw) (own_w5 hw) (own_w6 hw) (own_w7 hw) (by decide) (payP (W := 0) (rm2 l Z a0 hw ((ch &&& (255 : Int32))) _ h0 n0 (Nat.le_trans Z0 sz_h) P0_Old ((own_rng _).2) (O2) (P5)) hZ (own_w7 hw) (own_w6 hw) (by decide) (by decide)) eT (by rw [hml]; rfl) (lenOf own_pd5 rfl) rfl (Nat.le_of_eq rfl) 2 5 rfl rfl (by decide) (by decide) 53 (hb hby own_d1_50) rfl ?_
        clear X eT; clear T; intro v T h20 L2 Lc X eT hL hQ21
        obtain ⟨x_22, t_23, kb_24, rfl, Nq, K25, zz_x_22, zz_t_23, G27, G28, G29, G30, pp31⟩ := hQ21
        replace N : Fr n0 L2 := by rw [hL]; exact Fr.app N Nq
        clear Nq hL
        have sz_x_22 : h0.size ≤ x_22 := Nat.le_trans sz_h zz_x_22
        have ge_x_22 : n0 ≤ x_22 := Nat.le_trans Z0 sz_x_22
        have sz_t_23 : h0.size ≤ t_23 := Nat.le_trans sz_h zz_t_23
        have ge_t_23 : n0 ≤ t_23 := Nat.le_trans Z0 sz_t_23
        replace P0_Old := P0_Old.keep K25 all0
        replace K0 := K0.trans K25 all0
        replace C := C.trans (CHr.keep K25 sf0 C.1)
        replace hk := Nat.le_trans hk K25.1
        replace sz_h : h0.size ≤ h20.size := Nat.le_trans sz_h K25.1
        show Go p e below _ T (mkF m 53 #[.val (.int sh), .val (.int ch), .val (.int (sh &&& (3 : Int32))), .val (.int (ch &&& (255 : Int32))), .val (.int (((ch.toUInt32 >>> ((8 : Int32) &&& 31).toUInt32).toInt32) &&& (255 : Int32))), .unset] [(.ref x_22)])
        exact gRetS X hx hlk hret rfl (Or.inr (Or.inr (Or.inr (Or.inr ⟨rfl, rfl, rfl⟩)))) (hb hby own_d1_53) eT hS hk hZ (own_EW hw) C (by decide) (by decide) ⟨(.ref x_22), rfl, N, K0, rfl⟩
      · refine gicmpYes X hx 54 (hb hby own_d1_46) (feq hc46).2 (by decide) (by decide) ?_
        refine giconst X hx (2 : Int32) 55 (hb hby own_d1_54) rfl rfl ?_
        refine gnewP (aty := .char) X hx hZ (own_w80 hw) eT (n := (2 : Int32)) (by decide) 2 (by decide) (by decide) 1 2 rfl rfl (by decide) (by decide) 57 (hb hby own_d1_55) rfl ?_
        clear X eT; clear T; intro T h32 b33 kc36 X eT ga E34 V35
        have le_a := Nat.le_of_eq ga.symm
        have sz_b33 : h0.size ≤ b33 := Nat.le_trans sz_h le_a
        have ge_b33 : n0 ≤ b33 := Nat.le_trans Z0 sz_b33
        clear le_a ga
        replace P0_Old := P0_Old.ext E34
        replace K0 := K0.ext E34
        replace C := C.trans (CHr.ext E34 C.1)
        replace hk := Nat.le_trans hk E34.1
        replace sz_h : h0.size ≤ h32.size := Nat.le_trans sz_h E34.1
        replace V35 : Arv Z h32 b33 kc36 .char (2 : Int32) [(.int (0 : Int32)), (.int (0 : Int32))] (.int 0) := V35.pad (pad_rep [] _ 2)
        refine gastore X hx #[.val (.int sh), .val (.int ch), .val (.int (sh &&& (3 : Int32))), .val (.int (ch &&& (255 : Int32))), .val (.int (((ch.toUInt32 >>> ((8 : Int32) &&& 31).toUInt32).toInt32) &&& (255 : Int32))), .val (.ref b33)] 59 (hb hby own_d1_57) rfl rfl rfl ?_
        refine gaload (v := (.ref b33)) X hx 61 (hb hby own_d1_59) rfl rfl rfl ?_
        refine giconst X hx (0 : Int32) 62 (hb hby own_d1_61) rfl rfl ?_
        refine giloadN (v := (ch &&& (255 : Int32))) X hx 63 (hb hby own_d1_62) rfl rfl ?_
        refine gcastore X hx hZ eT V35 (by decide) (by decide) 0 rfl (Nat.le_of_ble_eq_true rfl) N ge_b33 64 (hb hby own_d1_63) rfl ?_
        clear X eT N; clear T; intro T h38 L X eT N W37 V39
        have sfw := (Safe.arv (EL := own_EL) (vm := vm) hZ.alike V35 (fun z => by cases z))
        replace P0_Old := P0_Old.wr W37 ge_b33
        replace K0 := K0.wr W37 (Or.inr sz_b33)
        replace C := C.trans (CHr.wr W37 sfw C.1)
        replace hk : k0 ≤ h38.size := by rw [Wr.size W37]; exact hk
        replace sz_h : h0.size ≤ h38.size := by rw [Wr.size W37]; exact sz_h
        replace V39 : Arv Z h38 b33 kc36 .char (2 : Int32) [(.int (ch &&& (255 : Int32))), (.int (0 : Int32))] (.int 0) := by have z := V39; rw [own_nar8] at z; exact z
        refine gaload (v := (.ref b33)) X hx 66 (hb hby own_d1_64) rfl rfl rfl ?_
        refine giconst X hx (1 : Int32) 67 (hb hby own_d1_66) rfl rfl ?_
        refine giload (v := (((ch.toUInt32 >>> ((8 : Int32) &&& 31).toUInt32).toInt32) &&& (255 : Int32))) X hx 69 (hb hby own_d1_67) rfl rfl ?_
        refine gcastore X hx hZ eT V39 (by decide) (by decide) 1 rfl (Nat.le_of_ble_eq_true rfl) N ge_b33 70 (hb hby own_d1_69) rfl ?_
        clear X eT N; clear T; intro T h41 L X eT N W40 V42
        have sfw := (Safe.arv (EL := own_EL) (vm := vm) hZ.alike V39 (fun z => by cases z))
        replace P0_Old := P0_Old.wr W40 ge_b33
        replace K0 := K0.wr W40 (Or.inr sz_b33)
        replace C := C.trans (CHr.wr W40 sfw C.1)
        replace hk : k0 ≤ h41.size := by rw [Wr.size W40]; exact hk
        replace sz_h : h0.size ≤ h41.size := by rw [Wr.size W40]; exact sz_h
        replace V42 : Arv Z h41 b33 kc36 .char (2 : Int32) [(.int (ch &&& (255 : Int32))), (.int (((ch.toUInt32 >>> ((8 : Int32) &&& 31).toUInt32).toInt32) &&& (255 : Int32)))] (.int 0) := by have z := V42; rw [own_nar8] at z; exact z
        refine gnewO X hx hZ hown (own_w81 hw) (own_w14 hw) (own_w6 hw) eT 2 6 rfl rfl (by decide) (by decide) 73 (hb hby own_d1_70) rfl ?_
        clear X eT; clear T; intro T h43 b44 X eT ga E45 A46 D47
        have le_a := Nat.le_of_eq ga.symm
        have ne_b33_b44 : b33 ≠ b44 := Nat.ne_of_lt (Nat.lt_of_lt_of_le V42.lt le_a)
        have ne_b44_b33 : b44 ≠ b33 := Ne.symm ne_b33_b44
        have sz_b44 : h0.size ≤ b44 := Nat.le_trans sz_h le_a
        have ge_b44 : n0 ≤ b44 := Nat.le_trans Z0 sz_b44
        have Sf_b44 := Safe.ext E45 C.1 (Safe.new le_a)
        clear le_a ga
        replace P0_Old := P0_Old.ext E45
        replace V42 := V42.ext E45
        replace K0 := K0.ext E45
        replace C := C.trans (CHr.ext E45 C.1)
        replace hk := Nat.le_trans hk E45.1
        replace sz_h : h0.size ≤ h43.size := Nat.le_trans sz_h E45.1
        have F_value_b44 : Fld Z h43 b44 "java/lang/String" "value" "[B" .null := D47 (Or.inr (own_w27 hw)) (ty := (.array .byte)) own_pf0
        have F_coder_b44 : Fld Z h43 b44 "java/lang/String" "coder" "B" (.int (0 : Int32)) := D47 (Or.inr (own_w29 hw)) (ty := .byte) own_pf1
        clear D47
        refine gdup X hx 74 (hb hby own_d1_73) rfl rfl ?_
        refine gaload (v := (.ref b33)) X hx 76 (hb hby own_d1_74) rfl rfl rfl ?_
        refine gspecial (y := (⟨"java/lang/String", "<init>", "([C)V"⟩ : MethodName)) (a := b44) (argsL := [(.ref b33)]) (st := [(.ref b44)]) X hx hZ hown rfl (own_w82 hw) (own_w83 hw) (own_w84 hw) (by decide) (StrChars.Road.backV (W := 1) hZ (own_hws hw) (kI := 4) (own_w14 hw) (cs := ([(ch &&& (255 : Int32)), (((ch.toUInt32 >>> ((8 : Int32) &&& 31).toUInt32).toInt32) &&& (255 : Int32))] : List Int32)) (bs := ([(ch &&& (255 : Int32)), (((ch.toUInt32 >>> ((8 : Int32) &&& 31).toUInt32).toInt32) &&& (255 : Int32))] : List Int32).map (fun c => c.toInt8.toInt32)) (n := 2) (n0 := n0) ge_b44 (Nat.le_trans Z0 sz_h) A46 F_value_b44 F_coder_b44 V42 (O2.ext P0_Old.2) P5 rfl rfl (by decide) (by decide) (own_cS (own_rng _) (own_cS (own_rng _) own_c0)) rfl (by decide) (by decide)) eT (by rw [hml]; rfl) (lenOf own_pd4 rfl) rfl (Nat.le_of_eq rfl) 3 8 rfl rfl (by decide) (by decide) 79 (hb hby own_d1_76) rfl ?_
        clear X eT; clear T; intro v T h48 L2 Lc X eT hL hQ49
        obtain ⟨rfl, Nq, K50, E53, F54, t51, kb52, -, zz_t51, ntx57, F55, V56⟩ := hQ49
        replace N : Fr n0 L2 := by rw [hL]; exact Fr.app N Nq
        clear Nq hL
        have ne_b33_t51 : b33 ≠ t51 := Nat.ne_of_lt (Nat.lt_of_lt_of_le V42.lt zz_t51)
        have ne_t51_b33 : t51 ≠ b33 := Ne.symm ne_b33_t51
        have ne_b44_t51 : b44 ≠ t51 := Nat.ne_of_lt (Nat.lt_of_lt_of_le A46.lt zz_t51)
        have ne_t51_b44 : t51 ≠ b44 := Ne.symm ne_b44_t51
        have sz_t51 : h0.size ≤ t51 := Nat.le_trans sz_h zz_t51
        have ge_t51 : n0 ≤ t51 := Nat.le_trans Z0 sz_t51
        have sfs := (sfS Sf_b44 sf0)
        replace P0_Old := P0_Old.keep K50 (allS ge_b44 all0)
        replace V42 := V42.keep K50 (ninS ne_b33_b44 nin0)
        replace A46 := A46.keep K50
        replace Sf_b44 := Safe.keep K50 sfs C.1 Sf_b44
        replace K0 := K0.trans K50 (allS (Or.inr sz_b44) all0)
        replace C := C.trans (CHr.keep K50 sfs C.1)
        replace hk := Nat.le_trans hk K50.1
        replace sz_h : h0.size ≤ h48.size := Nat.le_trans sz_h K50.1
        show Go p e below _ T (mkF m 79 #[.val (.int sh), .val (.int ch), .val (.int (sh &&& (3 : Int32))), .val (.int (ch &&& (255 : Int32))), .val (.int (((ch.toUInt32 >>> ((8 : Int32) &&& 31).toUInt32).toInt32) &&& (255 : Int32))), .val (.ref b33)] [(.ref b44)])
        exact gRetS X hx hlk hret rfl (Or.inr (Or.inr (Or.inr (Or.inr ⟨rfl, rfl, rfl⟩)))) (hb hby own_d1_79) eT hS hk hZ (own_EW hw) C (by decide) (by decide) ⟨(.ref b44), rfl, N, K0, rfl⟩
set_option maxRecDepth 65536 in
set_option maxHeartbeats 40000000 in
theorem rm7 (l : Launch) (Z : State) (a0 : Array Value) (hw : ∀ d ∈ tables_1, d.before a0 Z = true) (k : Int32) (h0 : Heap) (n0 : Nat) (Z0 : n0 ≤ h0.size) (P0_Old : Old Z n0 h0) (SF : ∀ n ∈ own_FN, ∃ a : Addr, Sta Z Z.heap "com/example/stallwright/stallwright/api/Failure" n "Lcom/example/stallwright/stallwright/api/Failure;" (.ref a)) :
    CtP l (⟨"com/example/stallwright/stallwright/api/ApiErrorAtParameterPinLaw", "failure", "(I)Lcom/example/stallwright/stallwright/api/Failure;"⟩ : MethodName) method_4_code 2 (some (.object "com/example/stallwright/stallwright/api/Failure")) [] ({ frames := 0, cells := 0, slots := 0, locals := 0 } : Room) Z #[(.int k)] h0 (fun v h L => ∃ (u : Value), v = some u ∧ Fr n0 L ∧ h = h0 ∧ u.isRef = true) := by
  refine CtP.walk (Ls := #[.val (.int k), .unset]) (plainFor_of_name own_pn5) (fun m => by first | (simp [entryFrame, mkF, argsToLocals, Value.category]; done) | rfl) ?_
  intro p e s m below meth cc_ T hx hby hml hown hnm hret hlk hZ X eT
  have N := Fr.nil n0
  have sz_h : h0.size ≤ h0.size := Nat.le_refl _
  refine giloadN (v := k) X hx 1 (hb hby own_d7_0) rfl rfl ?_
  refine gldcI X hx hZ hown (own_w33 hw) 3 (hb hby own_d7_1) rfl ?_
  refine giand X hx 4 (hb hby own_d7_3) rfl ?_
  refine gbipush X hx (18 : Int32) 6 (hb hby own_d7_4) rfl rfl ?_
  refine girem X hx 7 (hb hby own_d7_6) rfl (by decide) ?_
  refine gistoreN X hx #[.val (.int k), .val (.int ((k &&& (2147483647 : Int32)) % (18 : Int32)))] 8 (hb hby own_d7_7) rfl rfl ?_
  refine giloadN (v := ((k &&& (2147483647 : Int32)) % (18 : Int32))) X hx 9 (hb hby own_d7_8) rfl rfl ?_
  rcases Decidable.em (((k &&& (2147483647 : Int32)) % (18 : Int32)) = (0 : Int32)) with hc9 | hc9
  · refine gifNo X hx 12 (hb hby own_d7_9) rfl ((if0 _ _).trans (teq hc9).2) ?_
    obtain ⟨f, Sf⟩ := SF "BAD_REQUEST" (List.mem_of_getElem? (i := 0) rfl)
    refine ggetS X hx hZ (host := "") hown (Or.inl (own_w34 hw)) Via.refl eT (Sf.ext P0_Old.2) 15 (hb hby own_d7_12) rfl ?_
    clear X eT; clear T; intro T X eT
    exact gRetP X hx hlk hret rfl (Or.inr (Or.inr (Or.inr (Or.inr ⟨rfl, rfl, rfl⟩)))) (hb hby own_d7_15) eT (by decide) (by decide) ⟨(.ref f), rfl, N, rfl, rfl⟩
  · refine gifYes X hx 16 (hb hby own_d7_9) ((if0 _ _).trans (feq hc9).2) (by decide) (by decide) ?_
    refine giloadN (v := ((k &&& (2147483647 : Int32)) % (18 : Int32))) X hx 17 (hb hby own_d7_16) rfl rfl ?_
    refine giconst X hx (1 : Int32) 18 (hb hby own_d7_17) rfl rfl ?_
    rcases Decidable.em (((k &&& (2147483647 : Int32)) % (18 : Int32)) = (1 : Int32)) with hc18 | hc18
    · refine gicmpNo X hx 21 (hb hby own_d7_18) rfl (teq hc18).2 ?_
      obtain ⟨f, Sf⟩ := SF "UNAUTHORIZED" (List.mem_of_getElem? (i := 6) rfl)
      refine ggetS X hx hZ (host := "") hown (Or.inl (own_w111 hw)) Via.refl eT (Sf.ext P0_Old.2) 24 (hb hby own_d7_21) rfl ?_
      clear X eT; clear T; intro T X eT
      exact gRetP X hx hlk hret rfl (Or.inr (Or.inr (Or.inr (Or.inr ⟨rfl, rfl, rfl⟩)))) (hb hby own_d7_24) eT (by decide) (by decide) ⟨(.ref f), rfl, N, rfl, rfl⟩
    · refine gicmpYes X hx 25 (hb hby own_d7_18) (feq hc18).2 (by decide) (by decide) ?_
      refine giloadN (v := ((k &&& (2147483647 : Int32)) % (18 : Int32))) X hx 26 (hb hby own_d7_25) rfl rfl ?_
      refine giconst X hx (2 : Int32) 27 (hb hby own_d7_26) rfl rfl ?_
      rcases Decidable.em (((k &&& (2147483647 : Int32)) % (18 : Int32)) = (2 : Int32)) with hc27 | hc27
      · refine gicmpNo X hx 30 (hb hby own_d7_27) rfl (teq hc27).2 ?_
        obtain ⟨f, Sf⟩ := SF "FORBIDDEN" (List.mem_of_getElem? (i := 10) rfl)
        refine ggetS X hx hZ (host := "") hown (Or.inl (own_w119 hw)) Via.refl eT (Sf.ext P0_Old.2) 33 (hb hby own_d7_30) rfl ?_
        clear X eT; clear T; intro T X eT
        exact gRetP X hx hlk hret rfl (Or.inr (Or.inr (Or.inr (Or.inr ⟨rfl, rfl, rfl⟩)))) (hb hby own_d7_33) eT (by decide) (by decide) ⟨(.ref f), rfl, N, rfl, rfl⟩
      · refine gicmpYes X hx 34 (hb hby own_d7_27) (feq hc27).2 (by decide) (by decide) ?_
        refine giloadN (v := ((k &&& (2147483647 : Int32)) % (18 : Int32))) X hx 35 (hb hby own_d7_34) rfl rfl ?_
        refine giconst X hx (3 : Int32) 36 (hb hby own_d7_35) rfl rfl ?_
        rcases Decidable.em (((k &&& (2147483647 : Int32)) % (18 : Int32)) = (3 : Int32)) with hc36 | hc36
        · refine gicmpNo X hx 39 (hb hby own_d7_36) rfl (teq hc36).2 ?_
          obtain ⟨f, Sf⟩ := SF "NOT_FOUND" (List.mem_of_getElem? (i := 4) rfl)
          refine ggetS X hx hZ (host := "") hown (Or.inl (own_w107 hw)) Via.refl eT (Sf.ext P0_Old.2) 42 (hb hby own_d7_39) rfl ?_
          clear X eT; clear T; intro T X eT
          exact gRetP X hx hlk hret rfl (Or.inr (Or.inr (Or.inr (Or.inr ⟨rfl, rfl, rfl⟩)))) (hb hby own_d7_42) eT (by decide) (by decide) ⟨(.ref f), rfl, N, rfl, rfl⟩
        · refine gicmpYes X hx 43 (hb hby own_d7_36) (feq hc36).2 (by decide) (by decide) ?_
          refine giloadN (v := ((k &&& (2147483647 : Int32)) % (18 : Int32))) X hx 44 (hb hby own_d7_43) rfl rfl ?_
          refine giconst X hx (4 : Int32) 45 (hb hby own_d7_44) rfl rfl ?_
          rcases Decidable.em (((k &&& (2147483647 : Int32)) % (18 : Int32)) = (4 : Int32)) with hc45 | hc45
          · refine gicmpNo X hx 48 (hb hby own_d7_45) rfl (teq hc45).2 ?_
            obtain ⟨f, Sf⟩ := SF "METHOD_NOT_ALLOWED" (List.mem_of_getElem? (i := 8) rfl)
            refine ggetS X hx hZ (host := "") hown (Or.inl (own_w115 hw)) Via.refl eT (Sf.ext P0_Old.2) 51 (hb hby own_d7_48) rfl ?_
            clear X eT; clear T; intro T X eT
            exact gRetP X hx hlk hret rfl (Or.inr (Or.inr (Or.inr (Or.inr ⟨rfl, rfl, rfl⟩)))) (hb hby own_d7_51) eT (by decide) (by decide) ⟨(.ref f), rfl, N, rfl, rfl⟩
          · refine gicmpYes X hx 52 (hb hby own_d7_45) (feq hc45).2 (by decide) (by decide) ?_
            refine giloadN (v := ((k &&& (2147483647 : Int32)) % (18 : Int32))) X hx 53 (hb hby own_d7_52) rfl rfl ?_
            refine giconst X hx (5 : Int32) 54 (hb hby own_d7_53) rfl rfl ?_
            rcases Decidable.em (((k &&& (2147483647 : Int32)) % (18 : Int32)) = (5 : Int32)) with hc54 | hc54
            · refine gicmpNo X hx 57 (hb hby own_d7_54) rfl (teq hc54).2 ?_
              obtain ⟨f, Sf⟩ := SF "NOT_ACCEPTABLE" (List.mem_of_getElem? (i := 2) rfl)
              refine ggetS X hx hZ (host := "") hown (Or.inl (own_w103 hw)) Via.refl eT (Sf.ext P0_Old.2) 60 (hb hby own_d7_57) rfl ?_
              clear X eT; clear T; intro T X eT
              exact gRetP X hx hlk hret rfl (Or.inr (Or.inr (Or.inr (Or.inr ⟨rfl, rfl, rfl⟩)))) (hb hby own_d7_60) eT (by decide) (by decide) ⟨(.ref f), rfl, N, rfl, rfl⟩
            · refine gicmpYes X hx 61 (hb hby own_d7_54) (feq hc54).2 (by decide) (by decide) ?_
              refine giloadN (v := ((k &&& (2147483647 : Int32)) % (18 : Int32))) X hx 62 (hb hby own_d7_61) rfl rfl ?_
              refine gbipush X hx (6 : Int32) 64 (hb hby own_d7_62) rfl rfl ?_
              rcases Decidable.em (((k &&& (2147483647 : Int32)) % (18 : Int32)) = (6 : Int32)) with hc64 | hc64
              · refine gicmpNo X hx 67 (hb hby own_d7_64) rfl (teq hc64).2 ?_
                obtain ⟨f, Sf⟩ := SF "CONFLICT" (List.mem_of_getElem? (i := 15) rfl)
                refine ggetS X hx hZ (host := "") hown (Or.inl (own_w129 hw)) Via.refl eT (Sf.ext P0_Old.2) 70 (hb hby own_d7_67) rfl ?_
                clear X eT; clear T; intro T X eT
                exact gRetP X hx hlk hret rfl (Or.inr (Or.inr (Or.inr (Or.inr ⟨rfl, rfl, rfl⟩)))) (hb hby own_d7_70) eT (by decide) (by decide) ⟨(.ref f), rfl, N, rfl, rfl⟩
              · refine gicmpYes X hx 71 (hb hby own_d7_64) (feq hc64).2 (by decide) (by decide) ?_
                refine giloadN (v := ((k &&& (2147483647 : Int32)) % (18 : Int32))) X hx 72 (hb hby own_d7_71) rfl rfl ?_
                refine gbipush X hx (7 : Int32) 74 (hb hby own_d7_72) rfl rfl ?_
                rcases Decidable.em (((k &&& (2147483647 : Int32)) % (18 : Int32)) = (7 : Int32)) with hc74 | hc74
                · refine gicmpNo X hx 77 (hb hby own_d7_74) rfl (teq hc74).2 ?_
                  obtain ⟨f, Sf⟩ := SF "PAYLOAD_TOO_LARGE" (List.mem_of_getElem? (i := 1) rfl)
                  refine ggetS X hx hZ (host := "") hown (Or.inl (own_w98 hw)) Via.refl eT (Sf.ext P0_Old.2) 80 (hb hby own_d7_77) rfl ?_
                  clear X eT; clear T; intro T X eT
                  exact gRetP X hx hlk hret rfl (Or.inr (Or.inr (Or.inr (Or.inr ⟨rfl, rfl, rfl⟩)))) (hb hby own_d7_80) eT (by decide) (by decide) ⟨(.ref f), rfl, N, rfl, rfl⟩
                · refine gicmpYes X hx 81 (hb hby own_d7_74) (feq hc74).2 (by decide) (by decide) ?_
                  refine giloadN (v := ((k &&& (2147483647 : Int32)) % (18 : Int32))) X hx 82 (hb hby own_d7_81) rfl rfl ?_
                  refine gbipush X hx (8 : Int32) 84 (hb hby own_d7_82) rfl rfl ?_
                  rcases Decidable.em (((k &&& (2147483647 : Int32)) % (18 : Int32)) = (8 : Int32)) with hc84 | hc84
                  · refine gicmpNo X hx 87 (hb hby own_d7_84) rfl (teq hc84).2 ?_
                    obtain ⟨f, Sf⟩ := SF "URI_TOO_LONG" (List.mem_of_getElem? (i := 14) rfl)
                    refine ggetS X hx hZ (host := "") hown (Or.inl (own_w127 hw)) Via.refl eT (Sf.ext P0_Old.2) 90 (hb hby own_d7_87) rfl ?_
                    clear X eT; clear T; intro T X eT
                    exact gRetP X hx hlk hret rfl (Or.inr (Or.inr (Or.inr (Or.inr ⟨rfl, rfl, rfl⟩)))) (hb hby own_d7_90) eT (by decide) (by decide) ⟨(.ref f), rfl, N, rfl, rfl⟩
                  · refine gicmpYes X hx 91 (hb hby own_d7_84) (feq hc84).2 (by decide) (by decide) ?_
                    refine giloadN (v := ((k &&& (2147483647 : Int32)) % (18 : Int32))) X hx 92 (hb hby own_d7_91) rfl rfl ?_
                    refine gbipush X hx (9 : Int32) 94 (hb hby own_d7_92) rfl rfl ?_
                    rcases Decidable.em (((k &&& (2147483647 : Int32)) % (18 : Int32)) = (9 : Int32)) with hc94 | hc94
                    · refine gicmpNo X hx 97 (hb hby own_d7_94) rfl (teq hc94).2 ?_
                      obtain ⟨f, Sf⟩ := SF "UNSUPPORTED_MEDIA_TYPE" (List.mem_of_getElem? (i := 3) rfl)
                      refine ggetS X hx hZ (host := "") hown (Or.inl (own_w105 hw)) Via.refl eT (Sf.ext P0_Old.2) 100 (hb hby own_d7_97) rfl ?_
                      clear X eT; clear T; intro T X eT
                      exact gRetP X hx hlk hret rfl (Or.inr (Or.inr (Or.inr (Or.inr ⟨rfl, rfl, rfl⟩)))) (hb hby own_d7_100) eT (by decide) (by decide) ⟨(.ref f), rfl, N, rfl, rfl⟩
                    · refine gicmpYes X hx 101 (hb hby own_d7_94) (feq hc94).2 (by decide) (by decide) ?_
                      refine giloadN (v := ((k &&& (2147483647 : Int32)) % (18 : Int32))) X hx 102 (hb hby own_d7_101) rfl rfl ?_
                      refine gbipush X hx (10 : Int32) 104 (hb hby own_d7_102) rfl rfl ?_
                      rcases Decidable.em (((k &&& (2147483647 : Int32)) % (18 : Int32)) = (10 : Int32)) with hc104 | hc104
                      · refine gicmpNo X hx 107 (hb hby own_d7_104) rfl (teq hc104).2 ?_
                        obtain ⟨f, Sf⟩ := SF "INVALID" (List.mem_of_getElem? (i := 12) rfl)
                        refine ggetS X hx hZ (host := "") hown (Or.inl (own_w123 hw)) Via.refl eT (Sf.ext P0_Old.2) 110 (hb hby own_d7_107) rfl ?_
                        clear X eT; clear T; intro T X eT
                        exact gRetP X hx hlk hret rfl (Or.inr (Or.inr (Or.inr (Or.inr ⟨rfl, rfl, rfl⟩)))) (hb hby own_d7_110) eT (by decide) (by decide) ⟨(.ref f), rfl, N, rfl, rfl⟩
                      · refine gicmpYes X hx 111 (hb hby own_d7_104) (feq hc104).2 (by decide) (by decide) ?_
                        refine giloadN (v := ((k &&& (2147483647 : Int32)) % (18 : Int32))) X hx 112 (hb hby own_d7_111) rfl rfl ?_
                        refine gbipush X hx (11 : Int32) 114 (hb hby own_d7_112) rfl rfl ?_
                        rcases Decidable.em (((k &&& (2147483647 : Int32)) % (18 : Int32)) = (11 : Int32)) with hc114 | hc114
                        · refine gicmpNo X hx 117 (hb hby own_d7_114) rfl (teq hc114).2 ?_
                          obtain ⟨f, Sf⟩ := SF "TAKEN" (List.mem_of_getElem? (i := 9) rfl)
                          refine ggetS X hx hZ (host := "") hown (Or.inl (own_w117 hw)) Via.refl eT (Sf.ext P0_Old.2) 120 (hb hby own_d7_117) rfl ?_
                          clear X eT; clear T; intro T X eT
                          exact gRetP X hx hlk hret rfl (Or.inr (Or.inr (Or.inr (Or.inr ⟨rfl, rfl, rfl⟩)))) (hb hby own_d7_120) eT (by decide) (by decide) ⟨(.ref f), rfl, N, rfl, rfl⟩
                        · refine gicmpYes X hx 121 (hb hby own_d7_114) (feq hc114).2 (by decide) (by decide) ?_
                          refine giloadN (v := ((k &&& (2147483647 : Int32)) % (18 : Int32))) X hx 122 (hb hby own_d7_121) rfl rfl ?_
                          refine gbipush X hx (12 : Int32) 124 (hb hby own_d7_122) rfl rfl ?_
                          rcases Decidable.em (((k &&& (2147483647 : Int32)) % (18 : Int32)) = (12 : Int32)) with hc124 | hc124
                          · refine gicmpNo X hx 127 (hb hby own_d7_124) rfl (teq hc124).2 ?_
                            obtain ⟨f, Sf⟩ := SF "NOT_PRICED" (List.mem_of_getElem? (i := 5) rfl)
                            refine ggetS X hx hZ (host := "") hown (Or.inl (own_w109 hw)) Via.refl eT (Sf.ext P0_Old.2) 130 (hb hby own_d7_127) rfl ?_
                            clear X eT; clear T; intro T X eT
                            exact gRetP X hx hlk hret rfl (Or.inr (Or.inr (Or.inr (Or.inr ⟨rfl, rfl, rfl⟩)))) (hb hby own_d7_130) eT (by decide) (by decide) ⟨(.ref f), rfl, N, rfl, rfl⟩
                          · refine gicmpYes X hx 131 (hb hby own_d7_124) (feq hc124).2 (by decide) (by decide) ?_
                            refine giloadN (v := ((k &&& (2147483647 : Int32)) % (18 : Int32))) X hx 132 (hb hby own_d7_131) rfl rfl ?_
                            refine gbipush X hx (13 : Int32) 134 (hb hby own_d7_132) rfl rfl ?_
                            rcases Decidable.em (((k &&& (2147483647 : Int32)) % (18 : Int32)) = (13 : Int32)) with hc134 | hc134
                            · refine gicmpNo X hx 137 (hb hby own_d7_134) rfl (teq hc134).2 ?_
                              obtain ⟨f, Sf⟩ := SF "REQUEST_HEADER_FIELDS_TOO_LARGE" (List.mem_of_getElem? (i := 16) rfl)
                              refine ggetS X hx hZ (host := "") hown (Or.inl (own_w131 hw)) Via.refl eT (Sf.ext P0_Old.2) 140 (hb hby own_d7_137) rfl ?_
                              clear X eT; clear T; intro T X eT
                              exact gRetP X hx hlk hret rfl (Or.inr (Or.inr (Or.inr (Or.inr ⟨rfl, rfl, rfl⟩)))) (hb hby own_d7_140) eT (by decide) (by decide) ⟨(.ref f), rfl, N, rfl, rfl⟩
                            · refine gicmpYes X hx 141 (hb hby own_d7_134) (feq hc134).2 (by decide) (by decide) ?_
                              refine giloadN (v := ((k &&& (2147483647 : Int32)) % (18 : Int32))) X hx 142 (hb hby own_d7_141) rfl rfl ?_
                              refine gbipush X hx (14 : Int32) 144 (hb hby own_d7_142) rfl rfl ?_
                              rcases Decidable.em (((k &&& (2147483647 : Int32)) % (18 : Int32)) = (14 : Int32)) with hc144 | hc144
                              · refine gicmpNo X hx 147 (hb hby own_d7_144) rfl (teq hc144).2 ?_
                                obtain ⟨f, Sf⟩ := SF "INTERNAL_ERROR" (List.mem_of_getElem? (i := 11) rfl)
                                refine ggetS X hx hZ (host := "") hown (Or.inl (own_w121 hw)) Via.refl eT (Sf.ext P0_Old.2) 150 (hb hby own_d7_147) rfl ?_
                                clear X eT; clear T; intro T X eT
                                exact gRetP X hx hlk hret rfl (Or.inr (Or.inr (Or.inr (Or.inr ⟨rfl, rfl, rfl⟩)))) (hb hby own_d7_150) eT (by decide) (by decide) ⟨(.ref f), rfl, N, rfl, rfl⟩
                              · refine gicmpYes X hx 151 (hb hby own_d7_144) (feq hc144).2 (by decide) (by decide) ?_
                                refine giloadN (v := ((k &&& (2147483647 : Int32)) % (18 : Int32))) X hx 152 (hb hby own_d7_151) rfl rfl ?_
                                refine gbipush X hx (15 : Int32) 154 (hb hby own_d7_152) rfl rfl ?_
                                rcases Decidable.em (((k &&& (2147483647 : Int32)) % (18 : Int32)) = (15 : Int32)) with hc154 | hc154
                                · refine gicmpNo X hx 157 (hb hby own_d7_154) rfl (teq hc154).2 ?_
                                  obtain ⟨f, Sf⟩ := SF "NOT_IMPLEMENTED" (List.mem_of_getElem? (i := 7) rfl)
                                  refine ggetS X hx hZ (host := "") hown (Or.inl (own_w113 hw)) Via.refl eT (Sf.ext P0_Old.2) 160 (hb hby own_d7_157) rfl ?_
                                  clear X eT; clear T; intro T X eT
                                  exact gRetP X hx hlk hret rfl (Or.inr (Or.inr (Or.inr (Or.inr ⟨rfl, rfl, rfl⟩)))) (hb hby own_d7_160) eT (by decide) (by decide) ⟨(.ref f), rfl, N, rfl, rfl⟩
                                · refine gicmpYes X hx 161 (hb hby own_d7_154) (feq hc154).2 (by decide) (by decide) ?_
                                  refine giloadN (v := ((k &&& (2147483647 : Int32)) % (18 : Int32))) X hx 162 (hb hby own_d7_161) rfl rfl ?_
                                  refine gbipush X hx (16 : Int32) 164 (hb hby own_d7_162) rfl rfl ?_
                                  rcases Decidable.em (((k &&& (2147483647 : Int32)) % (18 : Int32)) = (16 : Int32)) with hc164 | hc164
                                  · refine gicmpNo X hx 167 (hb hby own_d7_164) rfl (teq hc164).2 ?_
                                    obtain ⟨f, Sf⟩ := SF "HTTP_VERSION_NOT_SUPPORTED" (List.mem_of_getElem? (i := 13) rfl)
                                    refine ggetS X hx hZ (host := "") hown (Or.inl (own_w125 hw)) Via.refl eT (Sf.ext P0_Old.2) 170 (hb hby own_d7_167) rfl ?_
                                    clear X eT; clear T; intro T X eT
                                    exact gRetP X hx hlk hret rfl (Or.inr (Or.inr (Or.inr (Or.inr ⟨rfl, rfl, rfl⟩)))) (hb hby own_d7_170) eT (by decide) (by decide) ⟨(.ref f), rfl, N, rfl, rfl⟩
                                  · refine gicmpYes X hx 171 (hb hby own_d7_164) (feq hc164).2 (by decide) (by decide) ?_
                                    refine gaconstNull X hx 172 (hb hby own_d7_171) rfl ?_
                                    exact gRetP X hx hlk hret rfl (Or.inr (Or.inr (Or.inr (Or.inr ⟨rfl, rfl, rfl⟩)))) (hb hby own_d7_172) eT (by decide) (by decide) ⟨.null, rfl, N, rfl, rfl⟩
set_option maxRecDepth 65536 in
set_option maxHeartbeats 40000000 in
theorem rm10 (l : Launch) (Z : State) (a0 : Array Value) (hw : ∀ d ∈ tables_1, d.before a0 Z = true) (a : Addr) (h0 : Heap) (n0 : Nat) (Z0 : n0 ≤ h0.size) :
    CtP l (⟨"java/lang/Record", "<init>", "()V"⟩ : MethodName) jdk_30_method_1_code 1 none [] ({ frames := 1, cells := 0, slots := 0, locals := 12 } : Room) Z #[(.ref a)] h0 (fun v h L => v = none ∧ Fr n0 L ∧ h = h0) := by
  refine CtP.walk (Ls := #[.val (.ref a)]) (plainFor_of_name own_pn6) (fun m => by first | (simp [entryFrame, mkF, argsToLocals, Value.category]; done) | rfl) ?_
  intro p e s m below meth cc_ T hx hby hml hown hnm hret hlk hZ X eT
  have N := Fr.nil n0
  have sz_h : h0.size ≤ h0.size := Nat.le_refl _
  refine galoadN (v := (.ref a)) X hx 1 (hb hby own_d10_0) rfl rfl rfl ?_
  refine ginitO X hx hZ hown (own_w51 hw) (own_w24 hw) (own_w25 hw) eT (by rw [hml]; rfl) (by decide) 0 (Nat.le_of_eq rfl) (by decide) 4 (hb hby own_d10_1) rfl ?_
  clear X eT; clear T; intro T X eT
  exact gRetP0 X hx hlk hret (hb hby own_d10_4) eT (by decide) (by decide) ⟨rfl, N, rfl⟩
set_option maxRecDepth 65536 in
set_option maxHeartbeats 40000000 in
theorem rm9 (l : Launch) (Z : State) (a0 : Array Value) (hw : ∀ d ∈ tables_1, d.before a0 Z = true) (a : Addr) (f : Value) (d : Value) (q : Value) (h0 : Heap) (n0 : Nat) (Z0 : n0 ≤ h0.size) (ge_a : n0 ≤ a) (P0_Exa : Exa Z h0 a "com/example/stallwright/stallwright/api/ApiError") (P1_Fld : Fld Z h0 a "com/example/stallwright/stallwright/api/ApiError" "failure" "Lcom/example/stallwright/stallwright/api/Failure;" .null) (P2_Fld : Fld Z h0 a "com/example/stallwright/stallwright/api/ApiError" "detail" "Ljava/lang/String;" .null) (P3_Fld : Fld Z h0 a "com/example/stallwright/stallwright/api/ApiError" "pointer" "Ljava/lang/String;" .null) (P4_Fld : Fld Z h0 a "com/example/stallwright/stallwright/api/ApiError" "parameter" "Ljava/lang/String;" .null) (rf : f.isRef = true) (rd : d.isRef = true) (rq : q.isRef = true) :
    CtP l (⟨"com/example/stallwright/stallwright/api/ApiError", "<init>", "(Lcom/example/stallwright/stallwright/api/Failure;Ljava/lang/String;Ljava/lang/String;Ljava/lang/String;)V"⟩ : MethodName) prog_1_method_2_code 5 none [] ({ frames := 2, cells := 0, slots := 0, locals := 24 } : Room) Z #[(.ref a), f, d, .null, q] h0 (fun v h L => v = none ∧ Fr n0 L ∧ Keep h0 h [a] ∧ Fld Z h a "com/example/stallwright/stallwright/api/ApiError" "failure" "Lcom/example/stallwright/stallwright/api/Failure;" f ∧ Fld Z h a "com/example/stallwright/stallwright/api/ApiError" "detail" "Ljava/lang/String;" d ∧ Fld Z h a "com/example/stallwright/stallwright/api/ApiError" "pointer" "Ljava/lang/String;" .null ∧ Fld Z h a "com/example/stallwright/stallwright/api/ApiError" "parameter" "Ljava/lang/String;" q) := by
  refine CtP.walk (Ls := #[.val (.ref a), .val f, .val d, .val .null, .val q]) (plainFor_of_name own_pn7) (fun m => by rcases ref_cases rf with rfl | ⟨_, rfl⟩ <;> rcases ref_cases rd with rfl | ⟨_, rfl⟩ <;> rcases ref_cases rq with rfl | ⟨_, rfl⟩ <;> rfl) ?_
  intro p e s m below meth cc_ T hx hby hml hown hnm hret hlk hZ X eT
  have N := Fr.nil n0
  have K0 := Keep.refl h0 [a]
  have sz_h : h0.size ≤ h0.size := Nat.le_refl _
  refine galoadN (v := (.ref a)) X hx 1 (hb hby own_d9_0) rfl rfl rfl ?_
  refine gspecial (y := (⟨"java/lang/Record", "<init>", "()V"⟩ : MethodName)) (a := a) (argsL := []) (st := []) X hx hZ hown rfl (own_w46 hw) (own_w47 hw) (own_w50 hw) (by decide) (payP (W := 0) (rm10 l Z a0 hw (a) h0 n0 (Nat.le_trans Z0 sz_h)) hZ (own_w50 hw) (own_w49 hw) (by decide) (by decide)) eT (by rw [hml]; rfl) (lenOf own_pd6 rfl) rfl (Nat.le_of_eq rfl) 0 0 rfl rfl (by decide) (by decide) 4 (hb hby own_d9_1) rfl ?_
  clear X eT; clear T; intro v T h1 L2 Lc X eT hL hQ2
  obtain ⟨rfl, Nq, hh⟩ := hQ2
  replace N : Fr n0 L2 := by rw [hL]; exact Fr.app N Nq
  clear Nq hL
  replace hh := hh.symm; subst hh
  show Go p e below _ T (mkF m 4 #[.val (.ref a), .val f, .val d, .val .null, .val q] [])
  refine galoadN (v := (.ref a)) X hx 5 (hb hby own_d9_4) rfl rfl rfl ?_
  refine galoadN (v := f) X hx 6 (hb hby own_d9_5) rfl rfl rf ?_
  refine gputF X hx hZ (host := "") hown (Or.inl (own_w52 hw)) Via.refl eT P1_Fld P0_Exa (Or.inr ⟨(own_w53 hw), rfl, hnm⟩) (own_w42 hw) (ty := (.object "com/example/stallwright/stallwright/api/Failure")) own_pf2 rfl (fitsRef rf _) N ge_a 9 (hb hby own_d9_6) rfl ?_
  clear X eT N; clear T; intro T h5 L X eT N W6
  replace P0_Exa := P0_Exa.wr W6
  replace P1_Fld := P1_Fld.same W6
  replace P2_Fld := P2_Fld.other W6 (Or.inr (slot_ne (Or.inr (own_w55 hw)) (Or.inr (own_w53 hw)) (by decide) own_pf3 own_pf2))
  replace P3_Fld := P3_Fld.other W6 (Or.inr (slot_ne (Or.inr (own_w57 hw)) (Or.inr (own_w53 hw)) (by decide) own_pf3 own_pf2))
  replace P4_Fld := P4_Fld.other W6 (Or.inr (slot_ne (Or.inr (own_w59 hw)) (Or.inr (own_w53 hw)) (by decide) own_pf3 own_pf2))
  replace K0 := K0.wr W6 (Or.inl (List.mem_of_getElem? (i := 0) rfl))
  replace sz_h : h0.size ≤ h5.size := by rw [Wr.size W6]; exact sz_h
  refine galoadN (v := (.ref a)) X hx 10 (hb hby own_d9_9) rfl rfl rfl ?_
  refine galoadN (v := d) X hx 11 (hb hby own_d9_10) rfl rfl rd ?_
  refine gputF X hx hZ (host := "") hown (Or.inl (own_w54 hw)) Via.refl eT P2_Fld P0_Exa (Or.inr ⟨(own_w55 hw), rfl, hnm⟩) (own_w42 hw) (ty := (.object "java/lang/String")) own_pf3 rfl (fitsRef rd _) N ge_a 14 (hb hby own_d9_11) rfl ?_
  clear X eT N; clear T; intro T h7 L X eT N W8
  replace P0_Exa := P0_Exa.wr W8
  replace P1_Fld := P1_Fld.other W8 (Or.inr (slot_ne (Or.inr (own_w53 hw)) (Or.inr (own_w55 hw)) (by decide) own_pf2 own_pf3))
  replace P2_Fld := P2_Fld.same W8
  replace P3_Fld := P3_Fld.other W8 (Or.inr (slot_ne (Or.inr (own_w57 hw)) (Or.inr (own_w55 hw)) (by decide) own_pf3 own_pf3))
  replace P4_Fld := P4_Fld.other W8 (Or.inr (slot_ne (Or.inr (own_w59 hw)) (Or.inr (own_w55 hw)) (by decide) own_pf3 own_pf3))
  replace K0 := K0.wr W8 (Or.inl (List.mem_of_getElem? (i := 0) rfl))
  replace sz_h : h0.size ≤ h7.size := by rw [Wr.size W8]; exact sz_h
  refine galoadN (v := (.ref a)) X hx 15 (hb hby own_d9_14) rfl rfl rfl ?_
  refine galoadN (v := .null) X hx 16 (hb hby own_d9_15) rfl rfl rfl ?_
  refine gputF X hx hZ (host := "") hown (Or.inl (own_w56 hw)) Via.refl eT P3_Fld P0_Exa (Or.inr ⟨(own_w57 hw), rfl, hnm⟩) (own_w42 hw) (ty := (.object "java/lang/String")) own_pf3 rfl rfl N ge_a 19 (hb hby own_d9_16) rfl ?_
  clear X eT N; clear T; intro T h9 L X eT N W10
  replace P0_Exa := P0_Exa.wr W10
  replace P1_Fld := P1_Fld.other W10 (Or.inr (slot_ne (Or.inr (own_w53 hw)) (Or.inr (own_w57 hw)) (by decide) own_pf2 own_pf3))
  replace P2_Fld := P2_Fld.other W10 (Or.inr (slot_ne (Or.inr (own_w55 hw)) (Or.inr (own_w57 hw)) (by decide) own_pf3 own_pf3))
  replace P3_Fld := P3_Fld.same W10
  replace P4_Fld := P4_Fld.other W10 (Or.inr (slot_ne (Or.inr (own_w59 hw)) (Or.inr (own_w57 hw)) (by decide) own_pf3 own_pf3))
  replace K0 := K0.wr W10 (Or.inl (List.mem_of_getElem? (i := 0) rfl))
  replace sz_h : h0.size ≤ h9.size := by rw [Wr.size W10]; exact sz_h
  refine galoadN (v := (.ref a)) X hx 20 (hb hby own_d9_19) rfl rfl rfl ?_
  refine gaload (v := q) X hx 22 (hb hby own_d9_20) rfl rfl rq ?_
  refine gputF X hx hZ (host := "") hown (Or.inl (own_w58 hw)) Via.refl eT P4_Fld P0_Exa (Or.inr ⟨(own_w59 hw), rfl, hnm⟩) (own_w42 hw) (ty := (.object "java/lang/String")) own_pf3 rfl (fitsRef rq _) N ge_a 25 (hb hby own_d9_22) rfl ?_
  clear X eT N; clear T; intro T h11 L X eT N W12
  replace P0_Exa := P0_Exa.wr W12
  replace P1_Fld := P1_Fld.other W12 (Or.inr (slot_ne (Or.inr (own_w53 hw)) (Or.inr (own_w59 hw)) (by decide) own_pf2 own_pf3))
  replace P2_Fld := P2_Fld.other W12 (Or.inr (slot_ne (Or.inr (own_w55 hw)) (Or.inr (own_w59 hw)) (by decide) own_pf3 own_pf3))
  replace P3_Fld := P3_Fld.other W12 (Or.inr (slot_ne (Or.inr (own_w57 hw)) (Or.inr (own_w59 hw)) (by decide) own_pf3 own_pf3))
  replace P4_Fld := P4_Fld.same W12
  replace K0 := K0.wr W12 (Or.inl (List.mem_of_getElem? (i := 0) rfl))
  replace sz_h : h0.size ≤ h11.size := by rw [Wr.size W12]; exact sz_h
  exact gRetP0 X hx hlk hret (hb hby own_d9_25) eT (by decide) (by decide) ⟨rfl, N, K0, P1_Fld, P2_Fld, P3_Fld, P4_Fld⟩
set_option maxRecDepth 65536 in
set_option maxHeartbeats 40000000 in
theorem rm8 (l : Launch) (Z : State) (a0 : Array Value) (hw : ∀ d ∈ tables_1, d.before a0 Z = true) (q : Value) (f : Value) (d : Value) (h0 : Heap) (n0 : Nat) (Z0 : n0 ≤ h0.size) (rq : q.isRef = true) (rf : f.isRef = true) (rd : d.isRef = true) :
    CtP l (⟨"com/example/stallwright/stallwright/api/ApiError", "atParameter", "(Ljava/lang/String;Lcom/example/stallwright/stallwright/api/Failure;Ljava/lang/String;)Lcom/example/stallwright/stallwright/api/ApiError;"⟩ : MethodName) prog_1_method_4_code 3 (some (.object "com/example/stallwright/stallwright/api/ApiError")) [] ({ frames := 3, cells := 1, slots := 4, locals := 41 } : Room) Z #[q, f, d] h0 (fun v h L => ∃ (a : Addr), v = some (.ref a) ∧ Fr n0 L ∧ Keep h0 h [] ∧ h0.size ≤ a ∧ Exa Z h a "com/example/stallwright/stallwright/api/ApiError" ∧ Fld Z h a "com/example/stallwright/stallwright/api/ApiError" "failure" "Lcom/example/stallwright/stallwright/api/Failure;" f ∧ Fld Z h a "com/example/stallwright/stallwright/api/ApiError" "detail" "Ljava/lang/String;" d ∧ Fld Z h a "com/example/stallwright/stallwright/api/ApiError" "pointer" "Ljava/lang/String;" .null ∧ Fld Z h a "com/example/stallwright/stallwright/api/ApiError" "parameter" "Ljava/lang/String;" q) := by
  refine CtP.walk (Ls := #[.val q, .val f, .val d]) (plainFor_of_name own_pn7) (fun m => by rcases ref_cases rq with rfl | ⟨_, rfl⟩ <;> rcases ref_cases rf with rfl | ⟨_, rfl⟩ <;> rcases ref_cases rd with rfl | ⟨_, rfl⟩ <;> rfl) ?_
  intro p e s m below meth cc_ T hx hby hml hown hnm hret hlk hZ X eT
  have N := Fr.nil n0
  have K0 := Keep.refl h0 []
  have sz_h : h0.size ≤ h0.size := Nat.le_refl _
  refine gnewO X hx hZ hown (own_w41 hw) (own_w42 hw) (own_w39 hw) eT 1 4 rfl rfl (by decide) (by decide) 3 (hb hby own_d8_0) rfl ?_
  clear X eT; clear T; intro T h1 b2 X eT ga E3 A4 D5
  have le_a := Nat.le_of_eq ga.symm
  have sz_b2 : h0.size ≤ b2 := Nat.le_trans sz_h le_a
  have ge_b2 : n0 ≤ b2 := Nat.le_trans Z0 sz_b2
  clear le_a ga
  replace K0 := K0.ext E3
  replace sz_h : h0.size ≤ h1.size := Nat.le_trans sz_h E3.1
  have F_failure_b2 : Fld Z h1 b2 "com/example/stallwright/stallwright/api/ApiError" "failure" "Lcom/example/stallwright/stallwright/api/Failure;" .null := D5 (Or.inr (own_w53 hw)) (ty := (.object "com/example/stallwright/stallwright/api/Failure")) own_pf2
  have F_detail_b2 : Fld Z h1 b2 "com/example/stallwright/stallwright/api/ApiError" "detail" "Ljava/lang/String;" .null := D5 (Or.inr (own_w55 hw)) (ty := (.object "java/lang/String")) own_pf3
  have F_pointer_b2 : Fld Z h1 b2 "com/example/stallwright/stallwright/api/ApiError" "pointer" "Ljava/lang/String;" .null := D5 (Or.inr (own_w57 hw)) (ty := (.object "java/lang/String")) own_pf3
  have F_parameter_b2 : Fld Z h1 b2 "com/example/stallwright/stallwright/api/ApiError" "parameter" "Ljava/lang/String;" .null := D5 (Or.inr (own_w59 hw)) (ty := (.object "java/lang/String")) own_pf3
  clear D5
  refine gdup X hx 4 (hb hby own_d8_3) rfl rfl ?_
  refine galoadN (v := f) X hx 5 (hb hby own_d8_4) rfl rfl rf ?_
  refine galoadN (v := d) X hx 6 (hb hby own_d8_5) rfl rfl rd ?_
  refine gaconstNull X hx 7 (hb hby own_d8_6) rfl ?_
  refine galoadN (v := q) X hx 8 (hb hby own_d8_7) rfl rfl rq ?_
  refine gspecial (y := (⟨"com/example/stallwright/stallwright/api/ApiError", "<init>", "(Lcom/example/stallwright/stallwright/api/Failure;Ljava/lang/String;Ljava/lang/String;Ljava/lang/String;)V"⟩ : MethodName)) (a := b2) (argsL := [f, d, .null, q]) (st := [(.ref b2)]) X hx hZ hown rfl (own_w43 hw) (own_w44 hw) (own_w45 hw) (by decide) (payP (W := 1) (rm9 l Z a0 hw (b2) (f) (d) (q) h1 n0 (Nat.le_trans Z0 sz_h) ge_b2 A4 F_failure_b2 F_detail_b2 F_pointer_b2 F_parameter_b2 (rf) (rd) (rq)) hZ (own_w45 hw) (own_w39 hw) (by decide) (by decide)) eT (by rw [hml]; rfl) (lenOf own_pd7 rfl) rfl (Nat.le_of_eq rfl) 1 4 rfl rfl (by decide) (by decide) 11 (hb hby own_d8_8) rfl ?_
  clear X eT; clear T; intro v T h6 L2 Lc X eT hL hQ7
  obtain ⟨rfl, Nq, K8, G10, G11, G12, G13⟩ := hQ7
  replace N : Fr n0 L2 := by rw [hL]; exact Fr.app N Nq
  clear Nq hL
  replace A4 := A4.keep K8
  replace K0 := K0.trans K8 (allS (Or.inr sz_b2) all0)
  replace sz_h : h0.size ≤ h6.size := Nat.le_trans sz_h K8.1
  show Go p e below _ T (mkF m 11 #[.val q, .val f, .val d] [(.ref b2)])
  exact gRetP X hx hlk hret rfl (Or.inr (Or.inr (Or.inr (Or.inr ⟨rfl, rfl, rfl⟩)))) (hb hby own_d8_11) eT (by decide) (by decide) ⟨b2, rfl, N, K0, sz_b2, A4, G10, G11, G12, G13⟩
set_option maxRecDepth 65536 in
set_option maxHeartbeats 40000000 in
theorem rm11 (l : Launch) (Z : State) (a0 : Array Value) (hw : ∀ d ∈ tables_1, d.before a0 Z = true) (a : Addr) (v0 : Value) (h0 : Heap) (n0 : Nat) (Z0 : n0 ≤ h0.size) (P0_Fld : Fld Z h0 a "com/example/stallwright/stallwright/api/ApiError" "failure" "Lcom/example/stallwright/stallwright/api/Failure;" v0) (rv0 : v0.isRef = true) :
    CtP l (⟨"com/example/stallwright/stallwright/api/ApiError", "failure", "()Lcom/example/stallwright/stallwright/api/Failure;"⟩ : MethodName) prog_1_method_8_code 1 (some (.object "com/example/stallwright/stallwright/api/Failure")) [] ({ frames := 0, cells := 0, slots := 0, locals := 0 } : Room) Z #[(.ref a)] h0 (fun v h L => v = some v0 ∧ Fr n0 L ∧ h = h0) := by
  refine CtP.walk (Ls := #[.val (.ref a)]) (plainFor_of_name own_pn7) (fun m => by rcases ref_cases rv0 with rfl | ⟨_, rfl⟩ <;> rfl) ?_
  intro p e s m below meth cc_ T hx hby hml hown hnm hret hlk hZ X eT
  have N := Fr.nil n0
  have sz_h : h0.size ≤ h0.size := Nat.le_refl _
  refine galoadN (v := (.ref a)) X hx 1 (hb hby own_d11_0) rfl rfl rfl ?_
  refine ggetF X hx hZ (host := "") hown (Or.inl (own_w52 hw)) Via.refl eT P0_Fld 4 (hb hby own_d11_1) rfl ?_
  clear X eT; clear T; intro T X eT
  exact gRetP X hx hlk hret rfl (Or.inr (Or.inr (Or.inr (Or.inr ⟨rfl, rfl, rv0⟩)))) (hb hby own_d11_4) eT (by decide) (by decide) ⟨rfl, N, rfl⟩
set_option maxRecDepth 65536 in
set_option maxHeartbeats 40000000 in
theorem rm12 (l : Launch) (Z : State) (a0 : Array Value) (hw : ∀ d ∈ tables_1, d.before a0 Z = true) (a : Addr) (v0 : Value) (h0 : Heap) (n0 : Nat) (Z0 : n0 ≤ h0.size) (P0_Fld : Fld Z h0 a "com/example/stallwright/stallwright/api/ApiError" "detail" "Ljava/lang/String;" v0) (rv0 : v0.isRef = true) :
    CtP l (⟨"com/example/stallwright/stallwright/api/ApiError", "detail", "()Ljava/lang/String;"⟩ : MethodName) prog_1_method_9_code 1 (some (.object "java/lang/String")) [] ({ frames := 0, cells := 0, slots := 0, locals := 0 } : Room) Z #[(.ref a)] h0 (fun v h L => v = some v0 ∧ Fr n0 L ∧ h = h0) := by
  refine CtP.walk (Ls := #[.val (.ref a)]) (plainFor_of_name own_pn7) (fun m => by rcases ref_cases rv0 with rfl | ⟨_, rfl⟩ <;> rfl) ?_
  intro p e s m below meth cc_ T hx hby hml hown hnm hret hlk hZ X eT
  have N := Fr.nil n0
  have sz_h : h0.size ≤ h0.size := Nat.le_refl _
  refine galoadN (v := (.ref a)) X hx 1 (hb hby own_d12_0) rfl rfl rfl ?_
  refine ggetF X hx hZ (host := "") hown (Or.inl (own_w54 hw)) Via.refl eT P0_Fld 4 (hb hby own_d12_1) rfl ?_
  clear X eT; clear T; intro T X eT
  exact gRetP X hx hlk hret rfl (Or.inr (Or.inr (Or.inr (Or.inr ⟨rfl, rfl, rv0⟩)))) (hb hby own_d12_4) eT (by decide) (by decide) ⟨rfl, N, rfl⟩
set_option maxRecDepth 65536 in
set_option maxHeartbeats 40000000 in
theorem rm14 (l : Launch) (Z : State) (a0 : Array Value) (hw : ∀ d ∈ tables_1, d.before a0 Z = true) (a : Addr) (v0 : Value) (h0 : Heap) (n0 : Nat) (Z0 : n0 ≤ h0.size) (P0_Fld : Fld Z h0 a "com/example/stallwright/stallwright/api/ApiError" "pointer" "Ljava/lang/String;" v0) (rv0 : v0.isRef = true) :
    CtP l (⟨"com/example/stallwright/stallwright/api/ApiError", "pointer", "()Ljava/lang/String;"⟩ : MethodName) prog_1_method_10_code 1 (some (.object "java/lang/String")) [] ({ frames := 0, cells := 0, slots := 0, locals := 0 } : Room) Z #[(.ref a)] h0 (fun v h L => v = some v0 ∧ Fr n0 L ∧ h = h0) := by
  refine CtP.walk (Ls := #[.val (.ref a)]) (plainFor_of_name own_pn7) (fun m => by rcases ref_cases rv0 with rfl | ⟨_, rfl⟩ <;> rfl) ?_
  intro p e s m below meth cc_ T hx hby hml hown hnm hret hlk hZ X eT
  have N := Fr.nil n0
  have sz_h : h0.size ≤ h0.size := Nat.le_refl _
  refine galoadN (v := (.ref a)) X hx 1 (hb hby own_d14_0) rfl rfl rfl ?_
  refine ggetF X hx hZ (host := "") hown (Or.inl (own_w56 hw)) Via.refl eT P0_Fld 4 (hb hby own_d14_1) rfl ?_
  clear X eT; clear T; intro T X eT
  exact gRetP X hx hlk hret rfl (Or.inr (Or.inr (Or.inr (Or.inr ⟨rfl, rfl, rv0⟩)))) (hb hby own_d14_4) eT (by decide) (by decide) ⟨rfl, N, rfl⟩
set_option maxRecDepth 65536 in
set_option maxHeartbeats 40000000 in
theorem rm13 (l : Launch) (Z : State) (a0 : Array Value) (hw : ∀ d ∈ tables_1, d.before a0 Z = true) (a : Addr) (v0 : Value) (h0 : Heap) (n0 : Nat) (Z0 : n0 ≤ h0.size) (P0_Fld : Fld Z h0 a "com/example/stallwright/stallwright/api/ApiError" "parameter" "Ljava/lang/String;" v0) (rv0 : v0.isRef = true) :
    CtP l (⟨"com/example/stallwright/stallwright/api/ApiError", "parameter", "()Ljava/lang/String;"⟩ : MethodName) prog_1_method_11_code 1 (some (.object "java/lang/String")) [] ({ frames := 0, cells := 0, slots := 0, locals := 0 } : Room) Z #[(.ref a)] h0 (fun v h L => v = some v0 ∧ Fr n0 L ∧ h = h0) := by
  refine CtP.walk (Ls := #[.val (.ref a)]) (plainFor_of_name own_pn7) (fun m => by rcases ref_cases rv0 with rfl | ⟨_, rfl⟩ <;> rfl) ?_
  intro p e s m below meth cc_ T hx hby hml hown hnm hret hlk hZ X eT
  have N := Fr.nil n0
  have sz_h : h0.size ≤ h0.size := Nat.le_refl _
  refine galoadN (v := (.ref a)) X hx 1 (hb hby own_d13_0) rfl rfl rfl ?_
  refine ggetF X hx hZ (host := "") hown (Or.inl (own_w58 hw)) Via.refl eT P0_Fld 4 (hb hby own_d13_1) rfl ?_
  clear X eT; clear T; intro T X eT
  exact gRetP X hx hlk hret rfl (Or.inr (Or.inr (Or.inr (Or.inr ⟨rfl, rfl, rv0⟩)))) (hb hby own_d13_4) eT (by decide) (by decide) ⟨rfl, N, rfl⟩
set_option maxRecDepth 65536 in
set_option maxHeartbeats 40000000 in
theorem rm0 (l : Launch) (Z : State) (a0 : Array Value) (hw : ∀ d ∈ tables_1, d.before a0 Z = true) (p0 : Int32) (p1 : Int32) (p2 : Int32) (p3 : Int32) (p4 : Int32) (G1 : Int32) (h0 : Heap) (n0 : Nat) (Z0 : n0 ≤ h0.size) (P0_Old : Old Z n0 h0) (O2 : Sta Z Z.heap "java/lang/String" "COMPACT_STRINGS" "Z" (.int G1)) (P5 : ¬ G1 = (0 : Int32)) (SF : ∀ n ∈ own_FN, ∃ a : Addr, Sta Z Z.heap "com/example/stallwright/stallwright/api/Failure" n "Lcom/example/stallwright/stallwright/api/Failure;" (.ref a)) :
    CtL l x code maxLocals ret tables_1 room_1 Z own_EL #[(.int p0), (.int p1), (.int p2), (.int p3), (.int p4)] h0 (fun v h L => v = some (.int (1 : Int32)) ∧ Fr n0 L ∧ Keep h0 h []) := by
  refine CtL.walk (Ls := #[.val (.int p0), .val (.int p1), .val (.int p2), .val (.int p3), .val (.int p4), .unset, .unset, .unset, .unset]) (plainFor_of_name own_pn5) (fun m => by first | (simp [entryFrame, mkF, argsToLocals, Value.category, maxLocals]; done) | rfl) ?_
  intro p e s m below meth cc_ T vm k0 hx hby hml hown hnm hret hlk hZ X eT hS hk C
  have N := Fr.nil n0
  have K0 := Keep.refl h0 []
  have sz_h : h0.size ≤ h0.size := Nat.le_refl _
  refine giloadN (v := p0) X hx 1 (hb hby at_0) rfl rfl ?_
  refine giloadN (v := p1) X hx 2 (hb hby at_1) rfl rfl ?_
  refine gstaticS (y := (⟨"com/example/stallwright/stallwright/api/ApiErrorAtParameterPinLaw", "str", "(II)Ljava/lang/String;"⟩ : MethodName)) (argsL := [(.int p0), (.int p1)]) (st := []) X hx hZ hown (own_w0 hw) (own_w1 hw) (own_w2 hw) (own_w3 hw) (by decide) hS hk (payS (W := 0) (rm1 l Z a0 hw (p0) (p1) _ h0 n0 (Nat.le_trans Z0 sz_h) P0_Old (O2) (P5)) hZ (own_w3 hw) (own_w2 hw) (by decide) (by decide) (own_EW hw) C.1 all0) eT (by rw [hml]; rfl) (lenOf own_pd8 rfl) rfl (Nat.le_of_eq rfl) 6 12 rfl rfl (by decide) (by decide) 5 (hb hby at_2) rfl ?_
  clear X eT hS hk hZ hown; clear T k0; intro v T h1 L2 Lc vm k0 X eT hL hS hk hZ hown CR5 hQ2
  obtain ⟨u_3, rfl, Nq, K4, pp6⟩ := hQ2
  replace N : Fr n0 L2 := by rw [hL]; exact Fr.app N Nq
  clear Nq hL
  replace P0_Old := P0_Old.keep K4 all0
  replace K0 := K0.trans K4 all0
  replace C := C.trans CR5
  replace sz_h : h0.size ≤ h1.size := Nat.le_trans sz_h K4.1
  show Go p e below _ T (mkF m 5 #[.val (.int p0), .val (.int p1), .val (.int p2), .val (.int p3), .val (.int p4), .unset, .unset, .unset, .unset] [u_3])
  refine gastore X hx #[.val (.int p0), .val (.int p1), .val (.int p2), .val (.int p3), .val (.int p4), .val u_3, .unset, .unset, .unset] 7 (hb hby at_5) rfl pp6 (storeRef pp6 rfl One.u rfl) ?_
  refine giloadN (v := p2) X hx 8 (hb hby at_7) rfl rfl ?_
  refine giloadN (v := p3) X hx 9 (hb hby at_8) rfl rfl ?_
  refine gstaticS (y := (⟨"com/example/stallwright/stallwright/api/ApiErrorAtParameterPinLaw", "str", "(II)Ljava/lang/String;"⟩ : MethodName)) (argsL := [(.int p2), (.int p3)]) (st := []) X hx hZ hown (own_w0 hw) (own_w1 hw) (own_w2 hw) (own_w3 hw) (by decide) hS hk (payS (W := 0) (rm1 l Z a0 hw (p2) (p3) _ h1 n0 (Nat.le_trans Z0 sz_h) P0_Old (O2) (P5)) hZ (own_w3 hw) (own_w2 hw) (by decide) (by decide) (own_EW hw) C.1 all0) eT (by rw [hml]; rfl) (lenOf own_pd8 rfl) rfl (Nat.le_of_eq rfl) 12 24 rfl rfl (by decide) (by decide) 12 (hb hby at_9) rfl ?_
  clear X eT hS hk hZ hown; clear T k0; intro v T h7 L2 Lc vm k0 X eT hL hS hk hZ hown CR11 hQ8
  obtain ⟨u_9, rfl, Nq, K10, pp12⟩ := hQ8
  replace N : Fr n0 L2 := by rw [hL]; exact Fr.app N Nq
  clear Nq hL
  replace P0_Old := P0_Old.keep K10 all0
  replace K0 := K0.trans K10 all0
  replace C := C.trans CR11
  replace sz_h : h0.size ≤ h7.size := Nat.le_trans sz_h K10.1
  show Go p e below _ T (mkF m 12 #[.val (.int p0), .val (.int p1), .val (.int p2), .val (.int p3), .val (.int p4), .val u_3, .unset, .unset, .unset] [u_9])
  refine gastore X hx #[.val (.int p0), .val (.int p1), .val (.int p2), .val (.int p3), .val (.int p4), .val u_3, .val u_9, .unset, .unset] 14 (hb hby at_12) rfl pp12 (storeRef pp12 rfl One.u rfl) ?_
  refine giload (v := p4) X hx 16 (hb hby at_14) rfl rfl ?_
  refine gstatic (y := (⟨"com/example/stallwright/stallwright/api/ApiErrorAtParameterPinLaw", "failure", "(I)Lcom/example/stallwright/stallwright/api/Failure;"⟩ : MethodName)) (argsL := [(.int p4)]) (st := []) X hx hZ hown (own_w30 hw) (own_w31 hw) (own_w2 hw) (own_w32 hw) (by decide) (payP (W := 0) (rm7 l Z a0 hw (p4) h7 n0 (Nat.le_trans Z0 sz_h) P0_Old (SF)) hZ (own_w32 hw) (own_w2 hw) (by decide) (by decide)) eT (by rw [hml]; rfl) (lenOf own_pd9 rfl) rfl (Nat.le_of_eq rfl) 12 24 rfl rfl (by decide) (by decide) 19 (hb hby at_16) rfl ?_
  clear X eT; clear T; intro v T h13 L2 Lc X eT hL hQ14
  obtain ⟨u_15, rfl, Nq, hh, pp18⟩ := hQ14
  replace N : Fr n0 L2 := by rw [hL]; exact Fr.app N Nq
  clear Nq hL
  replace hh := hh.symm; subst hh
  show Go p e below _ T (mkF m 19 #[.val (.int p0), .val (.int p1), .val (.int p2), .val (.int p3), .val (.int p4), .val u_3, .val u_9, .unset, .unset] [u_15])
  refine gastore X hx #[.val (.int p0), .val (.int p1), .val (.int p2), .val (.int p3), .val (.int p4), .val u_3, .val u_9, .val u_15, .unset] 21 (hb hby at_19) rfl pp18 (storeRef pp18 rfl One.u rfl) ?_
  refine gaload (v := u_3) X hx 23 (hb hby at_21) rfl rfl pp6 ?_
  refine gaload (v := u_15) X hx 25 (hb hby at_23) rfl rfl pp18 ?_
  refine gaload (v := u_9) X hx 27 (hb hby at_25) rfl rfl pp12 ?_
  refine gstatic (y := (⟨"com/example/stallwright/stallwright/api/ApiError", "atParameter", "(Ljava/lang/String;Lcom/example/stallwright/stallwright/api/Failure;Ljava/lang/String;)Lcom/example/stallwright/stallwright/api/ApiError;"⟩ : MethodName)) (argsL := [u_3, u_15, u_9]) (st := []) X hx hZ hown (own_w37 hw) (own_w38 hw) (own_w39 hw) (own_w40 hw) (by decide) (payP (W := 0) (rm8 l Z a0 hw (u_3) (u_15) (u_9) h7 n0 (Nat.le_trans Z0 sz_h) (pp6) (pp18) (pp12)) hZ (own_w40 hw) (own_w39 hw) (by decide) (by decide)) eT (by rw [hml]; rfl) (lenOf own_pd10 rfl) rfl (Nat.le_of_eq rfl) 13 28 rfl rfl (by decide) (by decide) 30 (hb hby at_27) rfl ?_
  clear X eT; clear T; intro v T h19 L2 Lc X eT hL hQ20
  obtain ⟨a_21, rfl, Nq, K22, zz_a_21, G24, G25, G26, G27, G28⟩ := hQ20
  replace N : Fr n0 L2 := by rw [hL]; exact Fr.app N Nq
  clear Nq hL
  have sz_a_21 : h0.size ≤ a_21 := Nat.le_trans sz_h zz_a_21
  have ge_a_21 : n0 ≤ a_21 := Nat.le_trans Z0 sz_a_21
  replace P0_Old := P0_Old.keep K22 all0
  replace K0 := K0.trans K22 all0
  replace C := C.trans (CHr.keep K22 sf0 C.1)
  replace hk := Nat.le_trans hk K22.1
  replace sz_h : h0.size ≤ h19.size := Nat.le_trans sz_h K22.1
  show Go p e below _ T (mkF m 30 #[.val (.int p0), .val (.int p1), .val (.int p2), .val (.int p3), .val (.int p4), .val u_3, .val u_9, .val u_15, .unset] [(.ref a_21)])
  refine gastore X hx #[.val (.int p0), .val (.int p1), .val (.int p2), .val (.int p3), .val (.int p4), .val u_3, .val u_9, .val u_15, .val (.ref a_21)] 32 (hb hby at_30) rfl rfl rfl ?_
  refine gaload (v := (.ref a_21)) X hx 34 (hb hby at_32) rfl rfl rfl ?_
  refine gvirtual (y := (⟨"com/example/stallwright/stallwright/api/ApiError", "failure", "()Lcom/example/stallwright/stallwright/api/Failure;"⟩ : MethodName)) (z := (⟨"com/example/stallwright/stallwright/api/ApiError", "failure", "()Lcom/example/stallwright/stallwright/api/Failure;"⟩ : MethodName)) (a := a_21) (argsL := []) (st := []) X hx hZ hown (own_w60 hw) (own_w61 hw) (notFace_of_selects (args := #[]) (mvT hZ (own_w63 hw))) (own_w63 hw) (own_w62 hw) (by decide) G24 (payP (W := 0) (rm11 l Z a0 hw (a_21) (u_15) h19 n0 (Nat.le_trans Z0 sz_h) G25 (pp18)) hZ (own_w64 hw) (own_w39 hw) (by decide) (by decide)) eT (by rw [hml]; rfl) (lenOf own_pd11 rfl) rfl (Nat.le_of_eq rfl) 13 28 rfl rfl (by decide) (by decide) 37 (hb hby at_34) rfl ?_
  clear X eT; clear T; intro v T h29 L2 Lc X eT hL hQ30
  obtain ⟨rfl, Nq, hh⟩ := hQ30
  replace N : Fr n0 L2 := by rw [hL]; exact Fr.app N Nq
  clear Nq hL
  replace hh := hh.symm; subst hh
  show Go p e below _ T (mkF m 37 #[.val (.int p0), .val (.int p1), .val (.int p2), .val (.int p3), .val (.int p4), .val u_3, .val u_9, .val u_15, .val (.ref a_21)] [u_15])
  refine gaload (v := u_15) X hx 39 (hb hby at_37) rfl rfl pp18 ?_
  refine gacmp X hx true 42 (hb hby at_39) pp18 pp18 (decide_eq_true rfl) (by decide) (by decide) ?_
  refine gaload (v := (.ref a_21)) X hx 44 (hb hby at_42) rfl rfl rfl ?_
  refine gvirtual (y := (⟨"com/example/stallwright/stallwright/api/ApiError", "detail", "()Ljava/lang/String;"⟩ : MethodName)) (z := (⟨"com/example/stallwright/stallwright/api/ApiError", "detail", "()Ljava/lang/String;"⟩ : MethodName)) (a := a_21) (argsL := []) (st := []) X hx hZ hown (own_w65 hw) (own_w66 hw) (notFace_of_selects (args := #[]) (mvT hZ (own_w68 hw))) (own_w68 hw) (own_w67 hw) (by decide) G24 (payP (W := 0) (rm12 l Z a0 hw (a_21) (u_9) h19 n0 (Nat.le_trans Z0 sz_h) G26 (pp12)) hZ (own_w69 hw) (own_w39 hw) (by decide) (by decide)) eT (by rw [hml]; rfl) (lenOf own_pd12 rfl) rfl (Nat.le_of_eq rfl) 13 28 rfl rfl (by decide) (by decide) 47 (hb hby at_44) rfl ?_
  clear X eT; clear T; intro v T h33 L2 Lc X eT hL hQ34
  obtain ⟨rfl, Nq, hh⟩ := hQ34
  replace N : Fr n0 L2 := by rw [hL]; exact Fr.app N Nq
  clear Nq hL
  replace hh := hh.symm; subst hh
  show Go p e below _ T (mkF m 47 #[.val (.int p0), .val (.int p1), .val (.int p2), .val (.int p3), .val (.int p4), .val u_3, .val u_9, .val u_15, .val (.ref a_21)] [u_9])
  refine gaload (v := u_9) X hx 49 (hb hby at_47) rfl rfl pp12 ?_
  refine gacmp X hx true 52 (hb hby at_49) pp12 pp12 (decide_eq_true rfl) (by decide) (by decide) ?_
  refine gaload (v := (.ref a_21)) X hx 54 (hb hby at_52) rfl rfl rfl ?_
  refine gvirtual (y := (⟨"com/example/stallwright/stallwright/api/ApiError", "parameter", "()Ljava/lang/String;"⟩ : MethodName)) (z := (⟨"com/example/stallwright/stallwright/api/ApiError", "parameter", "()Ljava/lang/String;"⟩ : MethodName)) (a := a_21) (argsL := []) (st := []) X hx hZ hown (own_w70 hw) (own_w71 hw) (notFace_of_selects (args := #[]) (mvT hZ (own_w73 hw))) (own_w73 hw) (own_w72 hw) (by decide) G24 (payP (W := 0) (rm13 l Z a0 hw (a_21) (u_3) h19 n0 (Nat.le_trans Z0 sz_h) G28 (pp6)) hZ (own_w74 hw) (own_w39 hw) (by decide) (by decide)) eT (by rw [hml]; rfl) (lenOf own_pd12 rfl) rfl (Nat.le_of_eq rfl) 13 28 rfl rfl (by decide) (by decide) 57 (hb hby at_54) rfl ?_
  clear X eT; clear T; intro v T h37 L2 Lc X eT hL hQ38
  obtain ⟨rfl, Nq, hh⟩ := hQ38
  replace N : Fr n0 L2 := by rw [hL]; exact Fr.app N Nq
  clear Nq hL
  replace hh := hh.symm; subst hh
  show Go p e below _ T (mkF m 57 #[.val (.int p0), .val (.int p1), .val (.int p2), .val (.int p3), .val (.int p4), .val u_3, .val u_9, .val u_15, .val (.ref a_21)] [u_3])
  refine gaload (v := u_3) X hx 59 (hb hby at_57) rfl rfl pp6 ?_
  refine gacmp X hx true 62 (hb hby at_59) pp6 pp6 (decide_eq_true rfl) (by decide) (by decide) ?_
  refine gaload (v := (.ref a_21)) X hx 64 (hb hby at_62) rfl rfl rfl ?_
  refine gvirtual (y := (⟨"com/example/stallwright/stallwright/api/ApiError", "pointer", "()Ljava/lang/String;"⟩ : MethodName)) (z := (⟨"com/example/stallwright/stallwright/api/ApiError", "pointer", "()Ljava/lang/String;"⟩ : MethodName)) (a := a_21) (argsL := []) (st := []) X hx hZ hown (own_w75 hw) (own_w76 hw) (notFace_of_selects (args := #[]) (mvT hZ (own_w78 hw))) (own_w78 hw) (own_w77 hw) (by decide) G24 (payP (W := 0) (rm14 l Z a0 hw (a_21) (.null) h19 n0 (Nat.le_trans Z0 sz_h) G27 (rfl)) hZ (own_w79 hw) (own_w39 hw) (by decide) (by decide)) eT (by rw [hml]; rfl) (lenOf own_pd12 rfl) rfl (Nat.le_of_eq rfl) 13 28 rfl rfl (by decide) (by decide) 67 (hb hby at_64) rfl ?_
  clear X eT; clear T; intro v T h41 L2 Lc X eT hL hQ42
  obtain ⟨rfl, Nq, hh⟩ := hQ42
  replace N : Fr n0 L2 := by rw [hL]; exact Fr.app N Nq
  clear Nq hL
  replace hh := hh.symm; subst hh
  show Go p e below _ T (mkF m 67 #[.val (.int p0), .val (.int p1), .val (.int p2), .val (.int p3), .val (.int p4), .val u_3, .val u_9, .val u_15, .val (.ref a_21)] [.null])
  refine gifnonnullNo X hx 70 (hb hby at_67) rfl ?_
  refine giconst X hx (1 : Int32) 71 (hb hby at_70) rfl rfl ?_
  refine ggoto X hx 75 (hb hby at_71) (by decide) (by decide) ?_
  exact gRetL X hx hlk hret rfl (Or.inl ⟨rfl, by simp, _, rfl⟩) (hb hby at_75) eT hS hk (by decide) (by decide) ⟨rfl, N, K0⟩
set_option maxRecDepth 65536 in
set_option maxHeartbeats 40000000 in
theorem comes_1 {Post : Tables → Env → Array Value → State → Outcome → State → Prop} (hpost : ∀ tb e args s v u, (limb_1_1.after args s (.returned v) u = true ∧ limb_1_2.after args s (.returned v) u = true ∧ True) → FramedW s (.returned v) u (Jvm.fieldLocs frame_1_writes args s ++ Jvm.arrayLocs frame_1_arrays args s ++ Jvm.staticLocs frame_1_statics s) 24 1152 → Post tb e args s (.returned v) u) :
    ArmFor flags0 classFile x code maxLocals ret World_1 tables_1 room_1 Calls_1 rest_1 Pre_1 Post := by
  intro l hfl _ _ p e ha hc hk s m args below hf hA hF happ hP
  obtain ⟨hcalls, hrest, hpre⟩ := hP
  obtain ⟨-, -, -, hnamed, -, -, -, hat⟩ := (Spec.applies_iff hf).mp happ
  obtain ⟨hg, hn⟩ := and_e (Cond.before_iff.mp (show (Jvm.Cond.and given_1 narrow_1).before args s = true from hpre))
  obtain ⟨h1, g0⟩ := and_e hg
  obtain ⟨k0, g1⟩ := and_e g0
  obtain ⟨k1, g2⟩ := and_e g1
  obtain ⟨k2, g3⟩ := and_e g2
  obtain ⟨k3, g4⟩ := and_e g3
  obtain ⟨w0, w1, w2, w3, w4, rfl⟩ : ∃ w0 w1 w2 w3 w4 : Value, args = #[w0, w1, w2, w3, w4] := by
    have hs : args.size = 5 := by simpa [Cond.value, given_1] using h1
    obtain ⟨L⟩ := args
    match L, hs with
    | [w0, w1, w2, w3, w4], _ => exact ⟨w0, w1, w2, w3, w4, rfl⟩
  have hw := fun d (hd : d ∈ tables_1) => atoms_spec (ws := Jvm.Cond.code x code maxLocals ret :: tables_1) hat d (List.mem_cons_of_mem _ hd)
  obtain ⟨hsets, hown0⟩ := atoms_of _ (rest_1_c_eq ▸ (show rest_1_c.before _ s = true from hrest))
  obtain ⟨i0, e0⟩ := is_v k0
  obtain rfl : w0 = (.int i0) := Option.some.inj e0
  obtain ⟨i1, e1⟩ := is_v k1
  obtain rfl : w1 = (.int i1) := Option.some.inj e1
  obtain ⟨i2, e2⟩ := is_v k2
  obtain rfl : w2 = (.int i2) := Option.some.inj e2
  obtain ⟨i3, e3⟩ := is_v k3
  obtain rfl : w3 = (.int i3) := Option.some.inj e3
  obtain ⟨i4, e4⟩ := is_v g4
  obtain rfl : w4 = (.int i4) := Option.some.inj e4
  have n3 := not_v (Cond.before_iff.mp (hsets _ (List.mem_of_getElem? (i := 2) rfl)))
  obtain ⟨j7, f6⟩ := is_v (Cond.before_iff.mp (hsets _ (List.mem_of_getElem? (i := 1) rfl)))
  have S8 : Sta s s.heap "java/lang/String" "COMPACT_STRINGS" "Z" (.int j7) := Sta.start f6 (Or.inl (hsets _ (List.mem_of_getElem? (i := 0) rfl)))
  have c13 : ¬ (j7 = (0 : Int32)) := gotF (Cond.eq_ints f6 (Term.int_eval (0))) n3
  have SF : ∀ n ∈ own_FN, ∃ a : Addr, Sta s s.heap "com/example/stallwright/stallwright/api/Failure" n "Lcom/example/stallwright/stallwright/api/Failure;" (.ref a) := by
    intro n hn2
    have q := own_stat hn (hw := hw) n hn2
    exact q
  obtain ⟨n, o, h1, h2, h3, _, L, rfl, ⟨rfl, N, -⟩, hq⟩ := rm0 l s _ hw i0 i1 i2 i3 i4 j7 s.heap s.heap.size (Nat.le_refl _) (Old.start s) S8 c13 SF p e ha hc hk s m _ below hf ((Spec.applies_iff_loose hf).mp happ).1 ⟨rfl, State.Warmed39.refl s, rfl, CHv.start (own_EW hw) (fun p hp => hcalls.1 p hp) (hsets _ (List.mem_of_getElem? (i := 2) rfl)) (own_w18 hw) (own_w14 hw)⟩ trivial
  refine ⟨n, _, h1, h2, h3, hpost _ _ _ _ _ _ ⟨Cond.after_iff.mpr rfl, Cond.after_iff.mpr (eq_i res_at (Term.int_eval (1)) rfl), trivial⟩ ⟨hq.1, hq.2.1, hq.2.2.1, (hq.2.2.2.sift fun y hy => Or.inr (N y hy)).mono (by decide) (by decide)⟩⟩
theorem main_1_1 : Claimed_1_1 := comes_1 fun _ _ _ _ _ _ h hF => ⟨h.1, hF⟩
theorem main_1_2 : Claimed_1_2 := comes_1 fun _ _ _ _ _ _ h hF => ⟨h.2.1, hF⟩
end Jvm.Pilot.@@N@@
namespace Jvm.Pilot.@@N@@
open Jvm Jvm.ClassFile Sem Op Lib Jvm.Free Jvm.Stand Jvm.Pilot.@@N@@.Jvm.D
/-! MADE BY PROGRAM (witnessworld.py) out of the Statement's table words and the real class files: 23 classes; the members and pool entries that the words name. The judged class is class 1, her method 1. -/
namespace start1
open Jvm.ClassFile
def u (s : String) : CpInfo := .utf8 (stringToUtf16 s)
/-- a pool by its gaps: so many unusable entries, then the entry; so many at the end -/
def gap : Nat → List CpInfo → List CpInfo
  | 0, r => r
  | n + 1, r => .unusable :: gap n r
def poolList (es : List (Nat × CpInfo)) (last : Nat) : List CpInfo := es.foldr (fun e r => gap e.1 (e.2 :: r)) (gap last [])
def pool (es : List (Nat × CpInfo)) (last : Nat) : Array CpInfo := ⟨poolList es last⟩
def fileOf (pool : Array CpInfo) (this : Nat) (attrs : Array Attribute := #[]) (ms : Array MethodInfo := #[]) (fl : Nat := 33) (sup : Nat := 0) (ifs : Array Nat := #[]) (fds : Array FieldInfo := #[]) : ClassFile where
  minorVersion := 0
  majorVersion := 65
  constantPool := pool
  accessFlags := fl
  thisClass := this
  superClass := sup
  interfaces := ifs
  fields := fds
  methods := ms
  attributes := attrs
def plain (name : String) (sup : Option ClassId) : Class where
  name := name
  kind := .ordinary
  loader := none
  accessFlags := 33
  super := sup
  interfaces := #[]
  cf := none
  fields := #[]
  methods := #[]
  instanceTypes := #[]
  staticTypes := #[]
  resolved := #[]
  callSites := []
  init := .initialized
  statics := none
  mirror := none

def pool0 : Array CpInfo := pool [(5, u "<init>"), (0, u "()V"), (1, .class_ 10), (1, u "java/lang/Object")] 113

def k0c0 : Code := { maxStack := 0, maxLocals := 1, code := object_method_1_code, exceptionTable := #[], attributes := #[] }
def k0m0 : Method := { name := "<init>", desc := "()V", sig := { parameters := [], returnType := none }, accessFlags := 1, code := some k0c0 }
/-- java/lang/Object -/
def k0 : Class := { plain "java/lang/Object" none with
  accessFlags := 33
  interfaces := #[]
  cf := some (fileOf pool0 8 #[] #[{ accessFlags := 1, nameIndex := 5, descriptorIndex := 6, attributes := #[] }] 33 0 #[] #[])
  fields := #[]
  methods := #[k0m0]
  instanceTypes := #[]
  staticTypes := #[]
  resolved := Array.replicate 124 none
  statics := none }

def pool1 : Array CpInfo := pool [(2, .class_ 4), (1, u "java/lang/Object"), (0, u "<init>"), (0, u "()V"), (0, .methodref 8 9), (0, .class_ 10), (0, .nameAndType 11 12), (0, u "com/example/stallwright/stallwright/api/ApiErrorAtParameterPinLaw"), (0, u "str"), (0, u "(II)Ljava/lang/String;"), (0, .methodref 8 14), (0, .nameAndType 15 16), (0, u "failure"), (0, u "(I)Lcom/example/stallwright/stallwright/api/Failure;"), (0, .methodref 18 19), (0, .class_ 20), (0, .nameAndType 21 22), (0, u "com/example/stallwright/stallwright/api/ApiError"), (0, u "atParameter"), (0, u "(Ljava/lang/String;Lcom/example/stallwright/stallwright/api/Failure;Ljava/lang/String;)Lcom/example/stallwright/stallwright/api/ApiError;"), (0, .methodref 18 24), (0, .nameAndType 15 25), (0, u "()Lcom/example/stallwright/stallwright/api/Failure;"), (0, .methodref 18 27), (0, .nameAndType 28 29), (0, u "detail"), (0, u "()Ljava/lang/String;"), (0, .methodref 18 31), (0, .nameAndType 32 29), (0, u "parameter"), (0, .methodref 18 34), (0, .nameAndType 35 29), (0, u "pointer"), (0, .class_ 37), (0, u "java/lang/String"), (0, .methodref 36 39), (0, .nameAndType 5 40), (0, u "([C)V"), (0, .methodref 36 42), (0, .nameAndType 43 44), (0, u "valueOf"), (0, u "(C)Ljava/lang/String;"), (0, .integer 2147483647), (0, .fieldref 47 48), (0, .class_ 49), (0, .nameAndType 50 51), (0, u "com/example/stallwright/stallwright/api/Failure"), (0, u "BAD_REQUEST"), (0, u "Lcom/example/stallwright/stallwright/api/Failure;"), (0, .fieldref 47 53), (0, .nameAndType 54 51), (0, u "UNAUTHORIZED"), (0, .fieldref 47 56), (0, .nameAndType 57 51), (0, u "FORBIDDEN"), (0, .fieldref 47 59), (0, .nameAndType 60 51), (0, u "NOT_FOUND"), (0, .fieldref 47 62), (0, .nameAndType 63 51), (0, u "METHOD_NOT_ALLOWED"), (0, .fieldref 47 65), (0, .nameAndType 66 51), (0, u "NOT_ACCEPTABLE"), (0, .fieldref 47 68), (0, .nameAndType 69 51), (0, u "CONFLICT"), (0, .fieldref 47 71), (0, .nameAndType 72 51), (0, u "PAYLOAD_TOO_LARGE"), (0, .fieldref 47 74), (0, .nameAndType 75 51), (0, u "URI_TOO_LONG"), (0, .fieldref 47 77), (0, .nameAndType 78 51), (0, u "UNSUPPORTED_MEDIA_TYPE"), (0, .fieldref 47 80), (0, .nameAndType 81 51), (0, u "INVALID"), (0, .fieldref 47 83), (0, .nameAndType 84 51), (0, u "TAKEN"), (0, .fieldref 47 86), (0, .nameAndType 87 51), (0, u "NOT_PRICED"), (0, .fieldref 47 89), (0, .nameAndType 90 51), (0, u "REQUEST_HEADER_FIELDS_TOO_LARGE"), (0, .fieldref 47 92), (0, .nameAndType 93 51), (0, u "INTERNAL_ERROR"), (0, .fieldref 47 95), (0, .nameAndType 96 51), (0, u "NOT_IMPLEMENTED"), (0, .fieldref 47 98), (0, .nameAndType 99 51), (0, u "HTTP_VERSION_NOT_SUPPORTED"), (2, u "law"), (0, u "(IIIII)Z")] 3

def k1m0 : Method := { name := "<init>", desc := "()V", sig := { parameters := [], returnType := none }, accessFlags := 1, code := none }
def k1c1 : Code := { maxStack := 3, maxLocals := 9, code := code, exceptionTable := #[], attributes := #[] }
def k1m1 : Method := { name := "law", desc := "(IIIII)Z", sig := { parameters := [.int, .int, .int, .int, .int], returnType := some .boolean }, accessFlags := 9, code := some k1c1 }
def k1c2 : Code := { maxStack := 3, maxLocals := 6, code := method_3_code, exceptionTable := #[], attributes := #[] }
def k1m2 : Method := { name := "str", desc := "(II)Ljava/lang/String;", sig := { parameters := [.int, .int], returnType := some (.object "java/lang/String") }, accessFlags := 10, code := some k1c2 }
def k1c3 : Code := { maxStack := 2, maxLocals := 2, code := method_4_code, exceptionTable := #[], attributes := #[] }
def k1m3 : Method := { name := "failure", desc := "(I)Lcom/example/stallwright/stallwright/api/Failure;", sig := { parameters := [.int], returnType := some (.object "com/example/stallwright/stallwright/api/Failure") }, accessFlags := 10, code := some k1c3 }
/-- com/example/stallwright/stallwright/api/ApiErrorAtParameterPinLaw -/
def k1 : Class := { plain "com/example/stallwright/stallwright/api/ApiErrorAtParameterPinLaw" (some 0) with
  accessFlags := 49
  interfaces := #[]
  cf := some (fileOf pool1 8 #[] #[{ accessFlags := 1, nameIndex := 5, descriptorIndex := 6, attributes := #[] }, { accessFlags := 9, nameIndex := 102, descriptorIndex := 103, attributes := #[] }, { accessFlags := 10, nameIndex := 11, descriptorIndex := 12, attributes := #[] }, { accessFlags := 10, nameIndex := 15, descriptorIndex := 16, attributes := #[] }] 49 2 #[] #[])
  fields := #[]
  methods := #[k1m0, k1m1, k1m2, k1m3]
  instanceTypes := #[]
  staticTypes := #[]
  resolved := Array.replicate 107 none
  statics := none }

def pool2 : Array CpInfo := pool [(1, .class_ 2), (0, u "java/io/Serializable"), (0, .class_ 4), (0, u "java/lang/Object")] 2

/-- java/io/Serializable -/
def k2 : Class := { plain "java/io/Serializable" (some 0) with
  accessFlags := 1537
  interfaces := #[]
  cf := some (fileOf pool2 1 #[] #[] 1537 3 #[] #[])
  fields := #[]
  methods := #[]
  instanceTypes := #[]
  staticTypes := #[]
  resolved := Array.replicate 7 none
  statics := none }

def pool3 : Array CpInfo := pool [(1, .class_ 2), (0, u "java/lang/Comparable"), (0, .class_ 4), (0, u "java/lang/Object")] 7

/-- java/lang/Comparable -/
def k3 : Class := { plain "java/lang/Comparable" (some 0) with
  accessFlags := 1537
  interfaces := #[]
  cf := some (fileOf pool3 1 #[] #[] 1537 3 #[] #[])
  fields := #[]
  methods := #[]
  instanceTypes := #[]
  staticTypes := #[]
  resolved := Array.replicate 12 none
  statics := none }

def pool4 : Array CpInfo := pool [(2, .class_ 4), (1, u "java/lang/CharSequence"), (42, .class_ 48), (0, u "java/lang/CharSequence$1CodePointIterator"), (10, .class_ 60), (0, u "java/lang/CharSequence$1CharIterator"), (5, .class_ 67), (0, u "java/lang/Object")] 63

/-- java/lang/CharSequence -/
def k4 : Class := { plain "java/lang/CharSequence" (some 0) with
  accessFlags := 1537
  interfaces := #[]
  cf := some (fileOf pool4 2 #[.nestMembers #[47, 59]] #[] 1537 66 #[] #[])
  fields := #[]
  methods := #[]
  instanceTypes := #[]
  staticTypes := #[]
  resolved := Array.replicate 131 none
  statics := none }

def pool5 : Array CpInfo := pool [(1, .class_ 2), (0, u "java/lang/constant/Constable"), (0, .class_ 4), (0, u "java/lang/Object")] 6

/-- java/lang/constant/Constable -/
def k5 : Class := { plain "java/lang/constant/Constable" (some 0) with
  accessFlags := 1537
  interfaces := #[]
  cf := some (fileOf pool5 1 #[] #[] 1537 3 #[] #[])
  fields := #[]
  methods := #[]
  instanceTypes := #[]
  staticTypes := #[]
  resolved := Array.replicate 11 none
  statics := none }

def pool6 : Array CpInfo := pool [(1, .class_ 2), (0, u "java/lang/constant/ConstantDesc"), (0, .class_ 4), (0, u "java/lang/Object")] 32

/-- java/lang/constant/ConstantDesc -/
def k6 : Class := { plain "java/lang/constant/ConstantDesc" (some 0) with
  accessFlags := 1537
  interfaces := #[]
  cf := some (fileOf pool6 1 #[] #[] 1537 3 #[] #[])
  fields := #[]
  methods := #[]
  instanceTypes := #[]
  staticTypes := #[]
  resolved := Array.replicate 37 none
  statics := none }

def pool7 : Array CpInfo := pool [(1, .methodref 2 3), (0, .class_ 4), (0, .nameAndType 5 6), (0, u "java/lang/Object"), (0, u "<init>"), (0, u "()V"), (0, .string 8), (0, u ""), (0, .fieldref 10 11), (0, .class_ 12), (0, .nameAndType 13 14), (0, u "java/lang/String"), (0, u "value"), (0, u "[B"), (0, .fieldref 10 16), (0, .nameAndType 17 18), (0, u "coder"), (0, u "B"), (2, u "hash"), (0, u "I"), (2, u "hashIsZero"), (0, u "Z"), (0, .methodref 10 28), (0, .nameAndType 5 29), (0, u "([CIILjava/lang/Void;)V"), (8, .fieldref 10 39), (0, .nameAndType 40 26), (0, u "COMPACT_STRINGS"), (1, .class_ 44), (1, u "java/lang/StringUTF16"), (0, u "compress"), (1, .methodref 42 48), (0, .nameAndType 49 50), (0, u "coderFromArrayLen"), (0, u "([BI)B"), (2, u "toBytes"), (53, .class_ 109), (1, u "java/lang/StringLatin1"), (67, .methodref 42 178), (0, .nameAndType 45 179), (0, u "([CII)[B"), (29, .methodref 10 210), (0, .nameAndType 5 211), (0, u "([BB)V"), (157, u "(C)Z"), (205, .class_ 576), (0, u "java/lang/CharSequence"), (22, u "CASE_INSENSITIVE_ORDER"), (0, u "Ljava/util/Comparator;"), (181, u "valueOf"), (0, u "(C)Ljava/lang/String;"), (226, u "([C)V"), (4, .methodref 107 1016), (0, .nameAndType 1017 369), (0, u "canEncode"), (0, .methodref 107 1019), (0, .nameAndType 53 1020), (0, u "(C)[B"), (80, u "serialPersistentFields"), (0, u "[Ljava/io/ObjectStreamField;"), (0, .class_ 1104), (0, u "java/lang/String$CaseInsensitiveComparator"), (1, .class_ 1107), (0, u "java/io/Serializable"), (0, .class_ 1109), (0, u "java/lang/Comparable"), (0, .class_ 1111), (0, u "java/lang/constant/Constable"), (0, .class_ 1113), (0, u "java/lang/constant/ConstantDesc"), (2, u "serialVersionUID"), (0, u "J"), (3, u "REPL"), (0, u "C"), (2, u "LATIN1"), (1, u "UTF16")] 323

def k7m0 : Method := { name := "<init>", desc := "()V", sig := { parameters := [], returnType := none }, accessFlags := 1, code := none }
def k7c1 : Code := { maxStack := 5, maxLocals := 2, code := jdk_42_method_3_code, exceptionTable := #[], attributes := #[] }
def k7m1 : Method := { name := "<init>", desc := "([C)V", sig := { parameters := [(.array .char)], returnType := none }, accessFlags := 1, code := some k7c1 }
def k7c2 : Code := { maxStack := 4, maxLocals := 1, code := jdk_42_method_139_code, exceptionTable := #[], attributes := #[] }
def k7m2 : Method := { name := "valueOf", desc := "(C)Ljava/lang/String;", sig := { parameters := [.char], returnType := some (.object "java/lang/String") }, accessFlags := 9, code := some k7c2 }
def k7c3 : Code := { maxStack := 4, maxLocals := 6, code := jdk_42_method_149_code, exceptionTable := #[], attributes := #[] }
def k7m3 : Method := { name := "<init>", desc := "([CIILjava/lang/Void;)V", sig := { parameters := [(.array .char), .int, .int, (.object "java/lang/Void")], returnType := none }, accessFlags := 2, code := some k7c3 }
def k7c4 : Code := { maxStack := 2, maxLocals := 3, code := jdk_42_method_151_code, exceptionTable := #[], attributes := #[] }
def k7m4 : Method := { name := "<init>", desc := "([BB)V", sig := { parameters := [(.array .byte), .byte], returnType := none }, accessFlags := 0, code := some k7c4 }
/-- java/lang/String -/
def k7 : Class := { plain "java/lang/String" (some 0) with
  accessFlags := 49
  interfaces := #[2, 3, 4, 5, 6]
  cf := some (fileOf pool7 10 #[.nestMembers #[1103]] #[{ accessFlags := 1, nameIndex := 5, descriptorIndex := 6, attributes := #[] }, { accessFlags := 1, nameIndex := 5, descriptorIndex := 1010, attributes := #[] }, { accessFlags := 9, nameIndex := 782, descriptorIndex := 783, attributes := #[] }, { accessFlags := 2, nameIndex := 5, descriptorIndex := 29, attributes := #[] }, { accessFlags := 0, nameIndex := 5, descriptorIndex := 211, attributes := #[] }] 49 2 #[1106, 1108, 575, 1110, 1112] #[{ accessFlags := 18, nameIndex := 13, descriptorIndex := 14, attributes := #[] }, { accessFlags := 18, nameIndex := 17, descriptorIndex := 18, attributes := #[] }, { accessFlags := 2, nameIndex := 21, descriptorIndex := 22, attributes := #[] }, { accessFlags := 2, nameIndex := 25, descriptorIndex := 26, attributes := #[] }, { accessFlags := 26, nameIndex := 1116, descriptorIndex := 1117, attributes := #[] }, { accessFlags := 24, nameIndex := 40, descriptorIndex := 26, attributes := #[] }, { accessFlags := 26, nameIndex := 1101, descriptorIndex := 1102, attributes := #[] }, { accessFlags := 26, nameIndex := 1121, descriptorIndex := 1122, attributes := #[] }, { accessFlags := 25, nameIndex := 599, descriptorIndex := 600, attributes := #[] }, { accessFlags := 24, nameIndex := 1125, descriptorIndex := 18, attributes := #[] }, { accessFlags := 24, nameIndex := 1127, descriptorIndex := 18, attributes := #[] }])
  fields := #[{ name := "value", type := (.array .byte), accessFlags := 18, slot := 0, constantValue := 0 }, { name := "coder", type := .byte, accessFlags := 18, slot := 1, constantValue := 0 }, { name := "hash", type := .int, accessFlags := 2, slot := 2, constantValue := 0 }, { name := "hashIsZero", type := .boolean, accessFlags := 2, slot := 3, constantValue := 0 }, { name := "serialVersionUID", type := .long, accessFlags := 26, slot := 0, constantValue := 0 }, { name := "COMPACT_STRINGS", type := .boolean, accessFlags := 24, slot := 1, constantValue := 0 }, { name := "serialPersistentFields", type := (.array (.object "java/io/ObjectStreamField")), accessFlags := 26, slot := 2, constantValue := 0 }, { name := "REPL", type := .char, accessFlags := 26, slot := 3, constantValue := 0 }, { name := "CASE_INSENSITIVE_ORDER", type := (.object "java/util/Comparator"), accessFlags := 25, slot := 4, constantValue := 0 }, { name := "LATIN1", type := .byte, accessFlags := 24, slot := 5, constantValue := 0 }, { name := "UTF16", type := .byte, accessFlags := 24, slot := 6, constantValue := 0 }]
  methods := #[k7m0, k7m1, k7m2, k7m3, k7m4]
  instanceTypes := #[(.array .byte), .byte, .int, .boolean]
  staticTypes := #[.long, .boolean, (.array (.object "java/io/ObjectStreamField")), .char, (.object "java/util/Comparator"), .byte, .byte]
  resolved := Array.replicate 1451 none
  statics := some 0 }

def pool8 : Array CpInfo := pool [(4, .class_ 6), (1, u "java/lang/Object"), (0, u "<init>"), (0, u "()V"), (5, .class_ 16), (1, u "java/lang/StringLatin1"), (73, u "canEncode"), (14, u "(C)Z"), (15, u "$assertionsDisabled"), (0, u "Z"), (98, .class_ 223), (1, u "java/lang/StringLatin1$LinesSpliterator"), (156, u "toBytes"), (1, u "(C)[B"), (7, .class_ 391), (0, u "java/lang/StringLatin1$CharsSpliterator")] 3

def k8m0 : Method := { name := "<init>", desc := "()V", sig := { parameters := [], returnType := none }, accessFlags := 0, code := none }
def k8c1 : Code := { maxStack := 2, maxLocals := 1, code := jdk_43_method_3_code, exceptionTable := #[], attributes := #[] }
def k8m1 : Method := { name := "canEncode", desc := "(C)Z", sig := { parameters := [.char], returnType := some .boolean }, accessFlags := 9, code := some k8c1 }
def k8c2 : Code := { maxStack := 4, maxLocals := 1, code := jdk_43_method_46_code, exceptionTable := #[], attributes := #[] }
def k8m2 : Method := { name := "toBytes", desc := "(C)[B", sig := { parameters := [.char], returnType := some (.array .byte) }, accessFlags := 9, code := some k8c2 }
/-- java/lang/StringLatin1 -/
def k8 : Class := { plain "java/lang/StringLatin1" (some 0) with
  accessFlags := 48
  interfaces := #[]
  cf := some (fileOf pool8 14 #[.nestMembers #[390, 221]] #[{ accessFlags := 0, nameIndex := 7, descriptorIndex := 8, attributes := #[] }, { accessFlags := 9, nameIndex := 90, descriptorIndex := 105, attributes := #[] }, { accessFlags := 9, nameIndex := 380, descriptorIndex := 382, attributes := #[] }] 48 4 #[] #[{ accessFlags := 4120, nameIndex := 121, descriptorIndex := 122, attributes := #[] }])
  fields := #[{ name := "$assertionsDisabled", type := .boolean, accessFlags := 4120, slot := 0, constantValue := 0 }]
  methods := #[k8m0, k8m1, k8m2]
  instanceTypes := #[]
  staticTypes := #[.boolean]
  resolved := Array.replicate 395 none
  statics := none }

def pool9 : Array CpInfo := pool [(2, .class_ 4), (1, u "java/lang/Enum"), (0, u "name"), (0, u "Ljava/lang/String;"), (2, u "ordinal"), (0, u "I"), (1, .class_ 14), (1, u "java/lang/Object"), (4, u "hash"), (86, .class_ 108), (1, u "java/lang/Enum$EnumDesc"), (2, .class_ 112), (0, u "java/lang/constant/Constable"), (0, .class_ 114), (0, u "java/lang/Comparable"), (0, .class_ 116), (0, u "java/io/Serializable")] 87

/-- java/lang/Enum -/
def k9 : Class := { plain "java/lang/Enum" (some 0) with
  accessFlags := 1057
  interfaces := #[5, 3, 2]
  cf := some (fileOf pool9 2 #[.nestMembers #[106]] #[] 1057 12 #[111, 113, 115] #[{ accessFlags := 18, nameIndex := 5, descriptorIndex := 6, attributes := #[] }, { accessFlags := 18, nameIndex := 9, descriptorIndex := 10, attributes := #[] }, { accessFlags := 2, nameIndex := 19, descriptorIndex := 10, attributes := #[] }])
  fields := #[{ name := "name", type := (.object "java/lang/String"), accessFlags := 18, slot := 0, constantValue := 0 }, { name := "ordinal", type := .int, accessFlags := 18, slot := 1, constantValue := 0 }, { name := "hash", type := .int, accessFlags := 2, slot := 2, constantValue := 0 }]
  methods := #[]
  instanceTypes := #[(.object "java/lang/String"), .int, .int]
  staticTypes := #[]
  resolved := Array.replicate 204 none
  statics := none }

def pool10 : Array CpInfo := pool [(1, .class_ 2), (0, u "com/example/stallwright/stallwright/api/Failure"), (2, u "BAD_REQUEST"), (0, u "Lcom/example/stallwright/stallwright/api/Failure;"), (2, u "UNAUTHORIZED"), (2, u "FORBIDDEN"), (2, u "NOT_FOUND"), (2, u "METHOD_NOT_ALLOWED"), (2, u "NOT_ACCEPTABLE"), (2, u "CONFLICT"), (2, u "PAYLOAD_TOO_LARGE"), (2, u "URI_TOO_LONG"), (2, u "UNSUPPORTED_MEDIA_TYPE"), (2, u "INVALID"), (2, u "TAKEN"), (2, u "NOT_PRICED"), (2, u "REQUEST_HEADER_FIELDS_TOO_LARGE"), (2, u "INTERNAL_ERROR"), (2, u "NOT_IMPLEMENTED"), (2, u "HTTP_VERSION_NOT_SUPPORTED"), (2, u "$VALUES"), (0, u "[Lcom/example/stallwright/stallwright/api/Failure;"), (6, .class_ 67), (1, u "java/lang/Enum"), (8, u "status"), (0, u "I"), (2, u "title"), (0, u "Ljava/lang/String;")] 88

/-- com/example/stallwright/stallwright/api/Failure -/
def k10 : Class := { plain "com/example/stallwright/stallwright/api/Failure" (some 9) with
  accessFlags := 16432
  interfaces := #[]
  cf := some (fileOf pool10 1 #[] #[] 16432 65 #[] #[{ accessFlags := 16409, nameIndex := 5, descriptorIndex := 6, attributes := #[] }, { accessFlags := 16409, nameIndex := 9, descriptorIndex := 6, attributes := #[] }, { accessFlags := 16409, nameIndex := 12, descriptorIndex := 6, attributes := #[] }, { accessFlags := 16409, nameIndex := 15, descriptorIndex := 6, attributes := #[] }, { accessFlags := 16409, nameIndex := 18, descriptorIndex := 6, attributes := #[] }, { accessFlags := 16409, nameIndex := 21, descriptorIndex := 6, attributes := #[] }, { accessFlags := 16409, nameIndex := 24, descriptorIndex := 6, attributes := #[] }, { accessFlags := 16409, nameIndex := 27, descriptorIndex := 6, attributes := #[] }, { accessFlags := 16409, nameIndex := 30, descriptorIndex := 6, attributes := #[] }, { accessFlags := 16409, nameIndex := 33, descriptorIndex := 6, attributes := #[] }, { accessFlags := 16409, nameIndex := 36, descriptorIndex := 6, attributes := #[] }, { accessFlags := 16409, nameIndex := 39, descriptorIndex := 6, attributes := #[] }, { accessFlags := 16409, nameIndex := 42, descriptorIndex := 6, attributes := #[] }, { accessFlags := 16409, nameIndex := 45, descriptorIndex := 6, attributes := #[] }, { accessFlags := 16409, nameIndex := 48, descriptorIndex := 6, attributes := #[] }, { accessFlags := 16409, nameIndex := 51, descriptorIndex := 6, attributes := #[] }, { accessFlags := 16409, nameIndex := 54, descriptorIndex := 6, attributes := #[] }, { accessFlags := 18, nameIndex := 76, descriptorIndex := 77, attributes := #[] }, { accessFlags := 18, nameIndex := 80, descriptorIndex := 81, attributes := #[] }, { accessFlags := 4122, nameIndex := 57, descriptorIndex := 58, attributes := #[] }])
  fields := #[{ name := "BAD_REQUEST", type := (.object "com/example/stallwright/stallwright/api/Failure"), accessFlags := 16409, slot := 0, constantValue := 0 }, { name := "UNAUTHORIZED", type := (.object "com/example/stallwright/stallwright/api/Failure"), accessFlags := 16409, slot := 1, constantValue := 0 }, { name := "FORBIDDEN", type := (.object "com/example/stallwright/stallwright/api/Failure"), accessFlags := 16409, slot := 2, constantValue := 0 }, { name := "NOT_FOUND", type := (.object "com/example/stallwright/stallwright/api/Failure"), accessFlags := 16409, slot := 3, constantValue := 0 }, { name := "METHOD_NOT_ALLOWED", type := (.object "com/example/stallwright/stallwright/api/Failure"), accessFlags := 16409, slot := 4, constantValue := 0 }, { name := "NOT_ACCEPTABLE", type := (.object "com/example/stallwright/stallwright/api/Failure"), accessFlags := 16409, slot := 5, constantValue := 0 }, { name := "CONFLICT", type := (.object "com/example/stallwright/stallwright/api/Failure"), accessFlags := 16409, slot := 6, constantValue := 0 }, { name := "PAYLOAD_TOO_LARGE", type := (.object "com/example/stallwright/stallwright/api/Failure"), accessFlags := 16409, slot := 7, constantValue := 0 }, { name := "URI_TOO_LONG", type := (.object "com/example/stallwright/stallwright/api/Failure"), accessFlags := 16409, slot := 8, constantValue := 0 }, { name := "UNSUPPORTED_MEDIA_TYPE", type := (.object "com/example/stallwright/stallwright/api/Failure"), accessFlags := 16409, slot := 9, constantValue := 0 }, { name := "INVALID", type := (.object "com/example/stallwright/stallwright/api/Failure"), accessFlags := 16409, slot := 10, constantValue := 0 }, { name := "TAKEN", type := (.object "com/example/stallwright/stallwright/api/Failure"), accessFlags := 16409, slot := 11, constantValue := 0 }, { name := "NOT_PRICED", type := (.object "com/example/stallwright/stallwright/api/Failure"), accessFlags := 16409, slot := 12, constantValue := 0 }, { name := "REQUEST_HEADER_FIELDS_TOO_LARGE", type := (.object "com/example/stallwright/stallwright/api/Failure"), accessFlags := 16409, slot := 13, constantValue := 0 }, { name := "INTERNAL_ERROR", type := (.object "com/example/stallwright/stallwright/api/Failure"), accessFlags := 16409, slot := 14, constantValue := 0 }, { name := "NOT_IMPLEMENTED", type := (.object "com/example/stallwright/stallwright/api/Failure"), accessFlags := 16409, slot := 15, constantValue := 0 }, { name := "HTTP_VERSION_NOT_SUPPORTED", type := (.object "com/example/stallwright/stallwright/api/Failure"), accessFlags := 16409, slot := 16, constantValue := 0 }, { name := "status", type := .int, accessFlags := 18, slot := 3, constantValue := 0 }, { name := "title", type := (.object "java/lang/String"), accessFlags := 18, slot := 4, constantValue := 0 }, { name := "$VALUES", type := (.array (.object "com/example/stallwright/stallwright/api/Failure")), accessFlags := 4122, slot := 17, constantValue := 0 }]
  methods := #[]
  instanceTypes := #[(.object "java/lang/String"), .int, .int, .int, (.object "java/lang/String")]
  staticTypes := #[(.object "com/example/stallwright/stallwright/api/Failure"), (.object "com/example/stallwright/stallwright/api/Failure"), (.object "com/example/stallwright/stallwright/api/Failure"), (.object "com/example/stallwright/stallwright/api/Failure"), (.object "com/example/stallwright/stallwright/api/Failure"), (.object "com/example/stallwright/stallwright/api/Failure"), (.object "com/example/stallwright/stallwright/api/Failure"), (.object "com/example/stallwright/stallwright/api/Failure"), (.object "com/example/stallwright/stallwright/api/Failure"), (.object "com/example/stallwright/stallwright/api/Failure"), (.object "com/example/stallwright/stallwright/api/Failure"), (.object "com/example/stallwright/stallwright/api/Failure"), (.object "com/example/stallwright/stallwright/api/Failure"), (.object "com/example/stallwright/stallwright/api/Failure"), (.object "com/example/stallwright/stallwright/api/Failure"), (.object "com/example/stallwright/stallwright/api/Failure"), (.object "com/example/stallwright/stallwright/api/Failure"), (.array (.object "com/example/stallwright/stallwright/api/Failure"))]
  resolved := Array.replicate 170 none
  statics := some 1 }

def pool11 : Array CpInfo := pool [(1, .methodref 2 3), (0, .class_ 4), (0, .nameAndType 5 6), (0, u "java/lang/Object"), (0, u "<init>"), (0, u "()V"), (0, .class_ 8), (0, u "java/lang/Record")] 13

def k11c0 : Code := { maxStack := 1, maxLocals := 1, code := jdk_30_method_1_code, exceptionTable := #[], attributes := #[] }
def k11m0 : Method := { name := "<init>", desc := "()V", sig := { parameters := [], returnType := none }, accessFlags := 4, code := some k11c0 }
/-- java/lang/Record -/
def k11 : Class := { plain "java/lang/Record" (some 0) with
  accessFlags := 1057
  interfaces := #[]
  cf := some (fileOf pool11 7 #[] #[{ accessFlags := 4, nameIndex := 5, descriptorIndex := 6, attributes := #[] }] 1057 2 #[] #[])
  fields := #[]
  methods := #[k11m0]
  instanceTypes := #[]
  staticTypes := #[]
  resolved := Array.replicate 22 none
  statics := none }

def pool12 : Array CpInfo := pool [(1, .methodref 2 3), (0, .class_ 4), (0, .nameAndType 5 6), (0, u "java/lang/Record"), (0, u "<init>"), (0, u "()V"), (0, .fieldref 8 9), (0, .class_ 10), (0, .nameAndType 11 12), (0, u "com/example/stallwright/stallwright/api/ApiError"), (0, u "failure"), (0, u "Lcom/example/stallwright/stallwright/api/Failure;"), (0, .fieldref 8 14), (0, .nameAndType 15 16), (0, u "detail"), (0, u "Ljava/lang/String;"), (0, .fieldref 8 18), (0, .nameAndType 19 16), (0, u "pointer"), (0, .fieldref 8 21), (0, .nameAndType 22 16), (0, u "parameter"), (0, .methodref 8 24), (0, .nameAndType 5 25), (0, u "(Lcom/example/stallwright/stallwright/api/Failure;Ljava/lang/String;Ljava/lang/String;Ljava/lang/String;)V"), (17, u "(Ljava/lang/String;Lcom/example/stallwright/stallwright/api/Failure;Ljava/lang/String;)Lcom/example/stallwright/stallwright/api/ApiError;"), (0, u "atParameter"), (0, u "()Ljava/lang/String;"), (2, u "()Lcom/example/stallwright/stallwright/api/Failure;")] 23

def k12c0 : Code := { maxStack := 2, maxLocals := 5, code := prog_1_method_2_code, exceptionTable := #[], attributes := #[] }
def k12m0 : Method := { name := "<init>", desc := "(Lcom/example/stallwright/stallwright/api/Failure;Ljava/lang/String;Ljava/lang/String;Ljava/lang/String;)V", sig := { parameters := [(.object "com/example/stallwright/stallwright/api/Failure"), (.object "java/lang/String"), (.object "java/lang/String"), (.object "java/lang/String")], returnType := none }, accessFlags := 0, code := some k12c0 }
def k12c1 : Code := { maxStack := 6, maxLocals := 3, code := prog_1_method_4_code, exceptionTable := #[], attributes := #[] }
def k12m1 : Method := { name := "atParameter", desc := "(Ljava/lang/String;Lcom/example/stallwright/stallwright/api/Failure;Ljava/lang/String;)Lcom/example/stallwright/stallwright/api/ApiError;", sig := { parameters := [(.object "java/lang/String"), (.object "com/example/stallwright/stallwright/api/Failure"), (.object "java/lang/String")], returnType := some (.object "com/example/stallwright/stallwright/api/ApiError") }, accessFlags := 8, code := some k12c1 }
def k12c2 : Code := { maxStack := 1, maxLocals := 1, code := prog_1_method_8_code, exceptionTable := #[], attributes := #[] }
def k12m2 : Method := { name := "failure", desc := "()Lcom/example/stallwright/stallwright/api/Failure;", sig := { parameters := [], returnType := some (.object "com/example/stallwright/stallwright/api/Failure") }, accessFlags := 1, code := some k12c2 }
def k12c3 : Code := { maxStack := 1, maxLocals := 1, code := prog_1_method_9_code, exceptionTable := #[], attributes := #[] }
def k12m3 : Method := { name := "detail", desc := "()Ljava/lang/String;", sig := { parameters := [], returnType := some (.object "java/lang/String") }, accessFlags := 1, code := some k12c3 }
def k12c4 : Code := { maxStack := 1, maxLocals := 1, code := prog_1_method_10_code, exceptionTable := #[], attributes := #[] }
def k12m4 : Method := { name := "pointer", desc := "()Ljava/lang/String;", sig := { parameters := [], returnType := some (.object "java/lang/String") }, accessFlags := 1, code := some k12c4 }
def k12c5 : Code := { maxStack := 1, maxLocals := 1, code := prog_1_method_11_code, exceptionTable := #[], attributes := #[] }
def k12m5 : Method := { name := "parameter", desc := "()Ljava/lang/String;", sig := { parameters := [], returnType := some (.object "java/lang/String") }, accessFlags := 1, code := some k12c5 }
/-- com/example/stallwright/stallwright/api/ApiError -/
def k12 : Class := { plain "com/example/stallwright/stallwright/api/ApiError" (some 11) with
  accessFlags := 48
  interfaces := #[]
  cf := some (fileOf pool12 8 #[] #[{ accessFlags := 0, nameIndex := 5, descriptorIndex := 25, attributes := #[] }, { accessFlags := 8, nameIndex := 44, descriptorIndex := 43, attributes := #[] }, { accessFlags := 1, nameIndex := 11, descriptorIndex := 48, attributes := #[] }, { accessFlags := 1, nameIndex := 15, descriptorIndex := 45, attributes := #[] }, { accessFlags := 1, nameIndex := 19, descriptorIndex := 45, attributes := #[] }, { accessFlags := 1, nameIndex := 22, descriptorIndex := 45, attributes := #[] }] 48 2 #[] #[{ accessFlags := 18, nameIndex := 11, descriptorIndex := 12, attributes := #[] }, { accessFlags := 18, nameIndex := 15, descriptorIndex := 16, attributes := #[] }, { accessFlags := 18, nameIndex := 19, descriptorIndex := 16, attributes := #[] }, { accessFlags := 18, nameIndex := 22, descriptorIndex := 16, attributes := #[] }])
  fields := #[{ name := "failure", type := (.object "com/example/stallwright/stallwright/api/Failure"), accessFlags := 18, slot := 0, constantValue := 0 }, { name := "detail", type := (.object "java/lang/String"), accessFlags := 18, slot := 1, constantValue := 0 }, { name := "pointer", type := (.object "java/lang/String"), accessFlags := 18, slot := 2, constantValue := 0 }, { name := "parameter", type := (.object "java/lang/String"), accessFlags := 18, slot := 3, constantValue := 0 }]
  methods := #[k12m0, k12m1, k12m2, k12m3, k12m4, k12m5]
  instanceTypes := #[(.object "com/example/stallwright/stallwright/api/Failure"), (.object "java/lang/String"), (.object "java/lang/String"), (.object "java/lang/String")]
  staticTypes := #[]
  resolved := Array.replicate 72 none
  statics := none }

def pool13 : Array CpInfo := pool [(6, .class_ 8), (1, u "java/lang/Object"), (0, u "<init>"), (0, u "()V"), (1, .class_ 14), (1, u "java/lang/StringUTF16"), (31, u "$assertionsDisabled"), (0, u "Z"), (13, u "HI_BYTE_SHIFT"), (0, u "I"), (2, u "LO_BYTE_SHIFT"), (49, .methodref 12 116), (0, .nameAndType 117 118), (0, u "compress"), (0, u "([CI[BII)I"), (3, u "([CII)[B"), (138, u "coderFromArrayLen"), (0, u "([BI)B"), (106, .class_ 371), (1, u "java/lang/StringUTF16$LinesSpliterator"), (58, u "MAX_LENGTH"), (196, .class_ 628), (0, u "java/lang/StringUTF16$CodePointsSpliterator"), (0, .class_ 630), (0, u "java/lang/StringUTF16$CharsSpliterator")] 4

def k13m0 : Method := { name := "<init>", desc := "()V", sig := { parameters := [], returnType := none }, accessFlags := 0, code := none }
def k13c1 : Code := { maxStack := 2, maxLocals := 2, code := jdk_52_method_15_code, exceptionTable := #[], attributes := #[] }
def k13m1 : Method := { name := "coderFromArrayLen", desc := "([BI)B", sig := { parameters := [(.array .byte), .int], returnType := some .byte }, accessFlags := 8, code := some k13c1 }
def k13c2 : Code := { maxStack := 5, maxLocals := 6, code := jdk_52_method_16_code, exceptionTable := #[], attributes := #[] }
def k13m2 : Method := { name := "compress", desc := "([CII)[B", sig := { parameters := [(.array .char), .int, .int], returnType := some (.array .byte) }, accessFlags := 9, code := some k13c2 }
def k13c3 : Code := { maxStack := 3, maxLocals := 7, code := jdk_52_method_21_code, exceptionTable := #[], attributes := #[] }
def k13m3 : Method := { name := "compress", desc := "([CI[BII)I", sig := { parameters := [(.array .char), .int, (.array .byte), .int, .int], returnType := some .int }, accessFlags := 9, code := some k13c3 }
/-- java/lang/StringUTF16 -/
def k13 : Class := { plain "java/lang/StringUTF16" (some 0) with
  accessFlags := 48
  interfaces := #[]
  cf := some (fileOf pool13 12 #[.nestMembers #[627, 629, 369]] #[{ accessFlags := 0, nameIndex := 9, descriptorIndex := 10, attributes := #[] }, { accessFlags := 8, nameIndex := 261, descriptorIndex := 262, attributes := #[] }, { accessFlags := 9, nameIndex := 117, descriptorIndex := 122, attributes := #[] }, { accessFlags := 9, nameIndex := 117, descriptorIndex := 118, attributes := #[] }] 48 6 #[] #[{ accessFlags := 26, nameIndex := 61, descriptorIndex := 62, attributes := #[] }, { accessFlags := 26, nameIndex := 65, descriptorIndex := 62, attributes := #[] }, { accessFlags := 24, nameIndex := 430, descriptorIndex := 62, attributes := #[] }, { accessFlags := 4120, nameIndex := 46, descriptorIndex := 47, attributes := #[] }])
  fields := #[{ name := "HI_BYTE_SHIFT", type := .int, accessFlags := 26, slot := 0, constantValue := 0 }, { name := "LO_BYTE_SHIFT", type := .int, accessFlags := 26, slot := 1, constantValue := 0 }, { name := "MAX_LENGTH", type := .int, accessFlags := 24, slot := 2, constantValue := 0 }, { name := "$assertionsDisabled", type := .boolean, accessFlags := 4120, slot := 3, constantValue := 0 }]
  methods := #[k13m0, k13m1, k13m2, k13m3]
  instanceTypes := #[]
  staticTypes := #[.int, .int, .int, .boolean]
  resolved := Array.replicate 635 none
  statics := none }

def pool14 : Array CpInfo := pool [(2, .class_ 4), (1, u "java/lang/Object"), (0, u "<init>"), (0, u "()V"), (17, .class_ 26), (1, u "jdk/internal/util/Preconditions"), (28, .class_ 56), (0, u "jdk/internal/util/Preconditions$4"), (57, .class_ 115), (0, u "jdk/internal/util/Preconditions$1"), (7, u "SIOOBE_FORMATTER"), (0, u "Ljava/util/function/BiFunction;"), (0, .class_ 126), (0, u "jdk/internal/util/Preconditions$2"), (3, u "AIOOBE_FORMATTER"), (0, .class_ 132), (0, u "jdk/internal/util/Preconditions$3"), (3, u "IOOBE_FORMATTER")] 57

def k14m0 : Method := { name := "<init>", desc := "()V", sig := { parameters := [], returnType := none }, accessFlags := 1, code := none }
/-- jdk/internal/util/Preconditions -/
def k14 : Class := { plain "jdk/internal/util/Preconditions" (some 0) with
  accessFlags := 33
  interfaces := #[]
  cf := some (fileOf pool14 24 #[.nestMembers #[55, 131, 125, 114]] #[{ accessFlags := 1, nameIndex := 5, descriptorIndex := 6, attributes := #[] }] 33 2 #[] #[{ accessFlags := 25, nameIndex := 123, descriptorIndex := 124, attributes := #[] }, { accessFlags := 25, nameIndex := 130, descriptorIndex := 124, attributes := #[] }, { accessFlags := 25, nameIndex := 136, descriptorIndex := 124, attributes := #[] }])
  fields := #[{ name := "SIOOBE_FORMATTER", type := (.object "java/util/function/BiFunction"), accessFlags := 25, slot := 0, constantValue := 0 }, { name := "AIOOBE_FORMATTER", type := (.object "java/util/function/BiFunction"), accessFlags := 25, slot := 1, constantValue := 0 }, { name := "IOOBE_FORMATTER", type := (.object "java/util/function/BiFunction"), accessFlags := 25, slot := 2, constantValue := 0 }]
  methods := #[k14m0]
  instanceTypes := #[]
  staticTypes := #[(.object "java/util/function/BiFunction"), (.object "java/util/function/BiFunction"), (.object "java/util/function/BiFunction")]
  resolved := Array.replicate 194 none
  statics := some 2 }

def pool15 : Array CpInfo := pool [(9, u "<init>"), (6, .class_ 18), (1, u "java/lang/Object"), (0, u "()V"), (1, .class_ 23), (1, u "jdk/internal/util/ArraysSupport"), (0, u "LOG2_ARRAY_LONG_INDEX_SCALE"), (0, u "I"), (2, u "U"), (0, u "Ljdk/internal/misc/Unsafe;"), (8, u "BIG_ENDIAN"), (0, u "Z"), (8, u "LOG2_BYTE_BIT_SIZE"), (4, u "LOG2_ARRAY_INT_INDEX_SCALE"), (54, u "JLA"), (0, u "Ljdk/internal/access/JavaLangAccess;"), (11, u "LOG2_ARRAY_BOOLEAN_INDEX_SCALE"), (9, u "LOG2_ARRAY_BYTE_INDEX_SCALE"), (5, u "LOG2_ARRAY_CHAR_INDEX_SCALE"), (5, u "LOG2_ARRAY_SHORT_INDEX_SCALE"), (18, u "LOG2_ARRAY_FLOAT_INDEX_SCALE"), (24, u "LOG2_ARRAY_DOUBLE_INDEX_SCALE"), (89, u "T_BOOLEAN"), (2, u "T_CHAR"), (1, u "T_FLOAT"), (1, u "T_DOUBLE"), (1, u "T_BYTE"), (1, u "T_SHORT"), (1, u "T_INT"), (1, u "T_LONG"), (1, u "SOFT_MAX_ARRAY_LENGTH")] 83

def k15m0 : Method := { name := "<init>", desc := "()V", sig := { parameters := [], returnType := none }, accessFlags := 2, code := none }
/-- jdk/internal/util/ArraysSupport -/
def k15 : Class := { plain "jdk/internal/util/ArraysSupport" (some 0) with
  accessFlags := 33
  interfaces := #[]
  cf := some (fileOf pool15 21 #[] #[{ accessFlags := 2, nameIndex := 9, descriptorIndex := 19, attributes := #[] }] 33 16 #[] #[{ accessFlags := 24, nameIndex := 28, descriptorIndex := 29, attributes := #[] }, { accessFlags := 26, nameIndex := 38, descriptorIndex := 39, attributes := #[] }, { accessFlags := 25, nameIndex := 121, descriptorIndex := 25, attributes := #[] }, { accessFlags := 25, nameIndex := 131, descriptorIndex := 25, attributes := #[] }, { accessFlags := 25, nameIndex := 137, descriptorIndex := 25, attributes := #[] }, { accessFlags := 25, nameIndex := 143, descriptorIndex := 25, attributes := #[] }, { accessFlags := 25, nameIndex := 53, descriptorIndex := 25, attributes := #[] }, { accessFlags := 25, nameIndex := 24, descriptorIndex := 25, attributes := #[] }, { accessFlags := 25, nameIndex := 162, descriptorIndex := 25, attributes := #[] }, { accessFlags := 25, nameIndex := 187, descriptorIndex := 25, attributes := #[] }, { accessFlags := 26, nameIndex := 48, descriptorIndex := 25, attributes := #[] }, { accessFlags := 25, nameIndex := 277, descriptorIndex := 25, attributes := #[] }, { accessFlags := 25, nameIndex := 280, descriptorIndex := 25, attributes := #[] }, { accessFlags := 25, nameIndex := 282, descriptorIndex := 25, attributes := #[] }, { accessFlags := 25, nameIndex := 284, descriptorIndex := 25, attributes := #[] }, { accessFlags := 25, nameIndex := 286, descriptorIndex := 25, attributes := #[] }, { accessFlags := 25, nameIndex := 288, descriptorIndex := 25, attributes := #[] }, { accessFlags := 25, nameIndex := 290, descriptorIndex := 25, attributes := #[] }, { accessFlags := 25, nameIndex := 292, descriptorIndex := 25, attributes := #[] }, { accessFlags := 26, nameIndex := 108, descriptorIndex := 109, attributes := #[] }, { accessFlags := 25, nameIndex := 294, descriptorIndex := 25, attributes := #[] }])
  fields := #[{ name := "U", type := (.object "jdk/internal/misc/Unsafe"), accessFlags := 24, slot := 0, constantValue := 0 }, { name := "BIG_ENDIAN", type := .boolean, accessFlags := 26, slot := 1, constantValue := 0 }, { name := "LOG2_ARRAY_BOOLEAN_INDEX_SCALE", type := .int, accessFlags := 25, slot := 2, constantValue := 0 }, { name := "LOG2_ARRAY_BYTE_INDEX_SCALE", type := .int, accessFlags := 25, slot := 3, constantValue := 0 }, { name := "LOG2_ARRAY_CHAR_INDEX_SCALE", type := .int, accessFlags := 25, slot := 4, constantValue := 0 }, { name := "LOG2_ARRAY_SHORT_INDEX_SCALE", type := .int, accessFlags := 25, slot := 5, constantValue := 0 }, { name := "LOG2_ARRAY_INT_INDEX_SCALE", type := .int, accessFlags := 25, slot := 6, constantValue := 0 }, { name := "LOG2_ARRAY_LONG_INDEX_SCALE", type := .int, accessFlags := 25, slot := 7, constantValue := 0 }, { name := "LOG2_ARRAY_FLOAT_INDEX_SCALE", type := .int, accessFlags := 25, slot := 8, constantValue := 0 }, { name := "LOG2_ARRAY_DOUBLE_INDEX_SCALE", type := .int, accessFlags := 25, slot := 9, constantValue := 0 }, { name := "LOG2_BYTE_BIT_SIZE", type := .int, accessFlags := 26, slot := 10, constantValue := 0 }, { name := "T_BOOLEAN", type := .int, accessFlags := 25, slot := 11, constantValue := 0 }, { name := "T_CHAR", type := .int, accessFlags := 25, slot := 12, constantValue := 0 }, { name := "T_FLOAT", type := .int, accessFlags := 25, slot := 13, constantValue := 0 }, { name := "T_DOUBLE", type := .int, accessFlags := 25, slot := 14, constantValue := 0 }, { name := "T_BYTE", type := .int, accessFlags := 25, slot := 15, constantValue := 0 }, { name := "T_SHORT", type := .int, accessFlags := 25, slot := 16, constantValue := 0 }, { name := "T_INT", type := .int, accessFlags := 25, slot := 17, constantValue := 0 }, { name := "T_LONG", type := .int, accessFlags := 25, slot := 18, constantValue := 0 }, { name := "JLA", type := (.object "jdk/internal/access/JavaLangAccess"), accessFlags := 26, slot := 19, constantValue := 0 }, { name := "SOFT_MAX_ARRAY_LENGTH", type := .int, accessFlags := 25, slot := 20, constantValue := 0 }]
  methods := #[k15m0]
  instanceTypes := #[]
  staticTypes := #[(.object "jdk/internal/misc/Unsafe"), .boolean, .int, .int, .int, .int, .int, .int, .int, .int, .int, .int, .int, .int, .int, .int, .int, .int, .int, (.object "jdk/internal/access/JavaLangAccess"), .int]
  resolved := Array.replicate 378 none
  statics := none }

def pool16 : Array CpInfo := pool [(1, u "java/lang/Cloneable"), (0, .class_ 1), (0, u "java/lang/Object"), (0, .class_ 3)] 3

/-- java/lang/Cloneable -/
def k16 : Class := { plain "java/lang/Cloneable" (some 0) with
  accessFlags := 1537
  interfaces := #[]
  cf := some (fileOf pool16 2 #[] #[] 1537 4 #[] #[])
  fields := #[]
  methods := #[]
  instanceTypes := #[]
  staticTypes := #[]
  resolved := Array.replicate 8 none
  statics := none }

/-- the primitive byte -/
def k17 : Class := { plain "byte" none with kind := .primitive 'B', accessFlags := 0x411 }
/-- [B -/
def k18 : Class := { plain "[B" (some 0) with kind := .array 17 .byte, interfaces := #[16, 2], accessFlags := 1041 }

/-- the primitive char -/
def k19 : Class := { plain "char" none with kind := .primitive 'C', accessFlags := 0x411 }
/-- [C -/
def k20 : Class := { plain "[C" (some 0) with kind := .array 19 .char, interfaces := #[16, 2], accessFlags := 1041 }

/-- the primitive int -/
def k21 : Class := { plain "int" none with kind := .primitive 'I', accessFlags := 0x411 }
/-- [I -/
def k22 : Class := { plain "[I" (some 0) with kind := .array 21 .int, interfaces := #[16, 2], accessFlags := 1041 }

def heap : Heap := #[{ cls := 7, slots := #[.long 0, .int 1, .null, .int 0, .null, .int 0, .int 0], vm := .statics 7 },
  { cls := 10, slots := #[.ref 3, .ref 3, .ref 3, .ref 3, .ref 3, .ref 3, .ref 3, .ref 3, .ref 3, .ref 3, .ref 3, .ref 3, .ref 3, .ref 3, .ref 3, .ref 3, .ref 3, .null], vm := .statics 10 },
  { cls := 14, slots := #[.null, .null, .null], vm := .statics 14 },
  { cls := 10, slots := #[.null, .int 0, .int 0, .int 400, .null], vm := .none }]
def classes : Array Class := #[k0, k1, k2, k3, k4, k5, k6, k7, k8, k9, k10, k11, k12, k13, k14, k15, k16, k17, k18, k19, k20, k21, k22]
def interned : List (Array UInt16 × Addr) := []
def slotsUsed : Nat := 33
def theMethod : MethodId := ⟨1, 1⟩
def args0 : Array Value := #[.int 5, .int 7, .int 3, .int 4, .int 2]
def aboutOver (below : List Frame) : State where
  vm := { classes := classes, interned := interned.toArray }
  heap := heap
  slotsUsed := slotsUsed
  threads := #[{ frames := .invoking theMethod args0 :: below }]
def below0 : List Frame := [.native { method := ⟨0, 0⟩, args := #[] }]
def about1 : State := aboutOver below0
def p0 : Program := .bare "" "" ""
def e0 : Env := launch0.env 0 0 0
theorem w_frames : about1.frames = Frame.invoking theMethod args0 :: below0 := rfl
set_option maxRecDepth 65536 in
theorem w_args : argsFit about1.vm theMethod args0 = true := by decide +kernel
set_option maxRecDepth 65536 in
theorem w_heap : heapFits about1 = true := by decide +kernel
set_option maxRecDepth 65536 in
theorem w_runnable : about1.curStatus? = some .runnable := by decide +kernel
set_option maxRecDepth 65536 in
theorem w_alone : about1.alone = true := by decide +kernel
set_option maxRecDepth 65536 in
theorem w_named : about1.methodNamed? x = some theMethod := by decide +kernel
set_option maxRecDepth 65536 in
theorem w_hears : about1.hears theMethod below0 = true := by decide +kernel
set_option maxRecDepth 65536 in
theorem w_ripe : about1.ripe theMethod args0 below0 = true := by decide +kernel
theorem w_running : about1.status = .running := rfl
set_option maxRecDepth 65536 in
theorem w_room : about1.hasRoom e0.platform room_1 = true :=
  launch0.hasRoom_least _ room_1 (by decide +kernel) (by decide +kernel) (by decide +kernel) (by decide +kernel) (by decide +kernel) (by decide +kernel)
theorem allAtoms_all (ts : List Jvm.Cond) (a : Array Jvm.Value) (st : Jvm.State) : (allAtoms ts).before a st = ts.all (fun c => c.before a st) := by
  induction ts with
  | nil => rfl
  | cons c t ih =>
    show (Jvm.Cond.and c (allAtoms t)).before a st = _
    rw [Jvm.Cond.before_and, ih, List.all_cons]
def words1 : List Jvm.Cond := Jvm.Cond.code x code maxLocals ret :: tables_1
/-- a 'code' word, met by the world's own term for the bytes: nothing is compared byte by byte -/
theorem code_word {y : MethodName} {bytes : ByteArray} {mx : Nat} {rt : Option FieldType} {a : Array Value} {s : State} {m : MethodId} {meth : Method} {c : Code} (h1 : s.methodNamed? y = some m) (h2 : s.vm.method? m = some meth) (h3 : meth.code = some c) (h4 : c.code = bytes)
    (h5 : (c.maxLocals == mx && c.exceptionTable.isEmpty && decide (c.maxStack ≤ mostOperands) && decide (meth.sig.returnType = rt) && !meth.locks && decide (parseMethodDescriptor y.desc = some meth.sig)) = true) : (Jvm.Cond.code y bytes mx rt).before a s = true := by
  simp only [Bool.and_eq_true, beq_iff_eq, Bool.not_eq_true', decide_eq_true_eq] at h5
  obtain ⟨⟨⟨⟨⟨g1, g2⟩, g3⟩, g4⟩, g5⟩, g6⟩ := h5
  simp [Cond.before, Cond.holds, Cond.value, h1, h2, h3, h4, g1, g2, g3, g4, g5, g6]
def isCode : Jvm.Cond → Bool
  | .code _ _ _ _ => true
  | _ => false
theorem all_split {L : List Jvm.Cond} {P : Jvm.Cond → Bool} (h1 : L.all (fun c => isCode c || P c) = true) (h2 : ∀ c ∈ L.filter isCode, P c = true) : L.all P = true := by
  refine List.all_eq_true.mpr fun c hc => ?_
  have h := List.all_eq_true.mp h1 c hc
  rcases Bool.eq_false_or_eq_true (isCode c) with hi | hi
  · exact h2 c (List.mem_filter.mpr ⟨hc, hi⟩)
  · simpa [hi] using h
set_option maxRecDepth 65536 in
theorem w_c0 : (Jvm.Cond.code x code maxLocals ret).before args0 about1 = true := code_word (m := ⟨1, 1⟩) (meth := k1m1) (c := k1c1) (by decide +kernel) rfl rfl rfl (by decide +kernel)
set_option maxRecDepth 65536 in
theorem w_c1 : (Jvm.Cond.code ({ cls := "com/example/stallwright/stallwright/api/ApiErrorAtParameterPinLaw", name := "str", desc := "(II)Ljava/lang/String;" } : Jvm.MethodName) method_3_code (6 : Nat) (Option.some (Jvm.ClassFile.FieldType.object "java/lang/String"))).before args0 about1 = true := code_word (m := ⟨1, 2⟩) (meth := k1m2) (c := k1c2) (by decide +kernel) rfl rfl rfl (by decide +kernel)
set_option maxRecDepth 65536 in
theorem w_c2 : (Jvm.Cond.code ({ cls := "java/lang/String", name := "valueOf", desc := "(C)Ljava/lang/String;" } : Jvm.MethodName) jdk_42_method_139_code (1 : Nat) (Option.some (Jvm.ClassFile.FieldType.object "java/lang/String"))).before args0 about1 = true := code_word (m := ⟨7, 2⟩) (meth := k7m2) (c := k7c2) (by decide +kernel) rfl rfl rfl (by decide +kernel)
set_option maxRecDepth 65536 in
theorem w_c3 : (Jvm.Cond.code ({ cls := "java/lang/StringLatin1", name := "canEncode", desc := "(C)Z" } : Jvm.MethodName) jdk_43_method_3_code (1 : Nat) (Option.some Jvm.ClassFile.FieldType.boolean)).before args0 about1 = true := code_word (m := ⟨8, 1⟩) (meth := k8m1) (c := k8c1) (by decide +kernel) rfl rfl rfl (by decide +kernel)
set_option maxRecDepth 65536 in
theorem w_c4 : (Jvm.Cond.code ({ cls := "java/lang/StringLatin1", name := "toBytes", desc := "(C)[B" } : Jvm.MethodName) jdk_43_method_46_code (1 : Nat) (Option.some (Jvm.ClassFile.FieldType.array Jvm.ClassFile.FieldType.byte))).before args0 about1 = true := code_word (m := ⟨8, 2⟩) (meth := k8m2) (c := k8c2) (by decide +kernel) rfl rfl rfl (by decide +kernel)
set_option maxRecDepth 65536 in
theorem w_c5 : (Jvm.Cond.code ({ cls := "java/lang/String", name := "<init>", desc := "([BB)V" } : Jvm.MethodName) jdk_42_method_151_code (3 : Nat) (Option.none : Option Jvm.ClassFile.FieldType)).before args0 about1 = true := code_word (m := ⟨7, 4⟩) (meth := k7m4) (c := k7c4) (by decide +kernel) rfl rfl rfl (by decide +kernel)
set_option maxRecDepth 65536 in
theorem w_c6 : (Jvm.Cond.code ({ cls := "java/lang/Object", name := "<init>", desc := "()V" } : Jvm.MethodName) object_method_1_code (1 : Nat) (Option.none : Option Jvm.ClassFile.FieldType)).before args0 about1 = true := code_word (m := ⟨0, 0⟩) (meth := k0m0) (c := k0c0) (by decide +kernel) rfl rfl rfl (by decide +kernel)
set_option maxRecDepth 65536 in
theorem w_c7 : (Jvm.Cond.code ({ cls := "com/example/stallwright/stallwright/api/ApiErrorAtParameterPinLaw", name := "failure", desc := "(I)Lcom/example/stallwright/stallwright/api/Failure;" } : Jvm.MethodName) method_4_code (2 : Nat) (Option.some (Jvm.ClassFile.FieldType.object "com/example/stallwright/stallwright/api/Failure"))).before args0 about1 = true := code_word (m := ⟨1, 3⟩) (meth := k1m3) (c := k1c3) (by decide +kernel) rfl rfl rfl (by decide +kernel)
set_option maxRecDepth 65536 in
theorem w_c8 : (Jvm.Cond.code ({ cls := "com/example/stallwright/stallwright/api/ApiError", name := "atParameter", desc := "(Ljava/lang/String;Lcom/example/stallwright/stallwright/api/Failure;Ljava/lang/String;)Lcom/example/stallwright/stallwright/api/ApiError;" } : Jvm.MethodName) prog_1_method_4_code (3 : Nat) (Option.some (Jvm.ClassFile.FieldType.object "com/example/stallwright/stallwright/api/ApiError"))).before args0 about1 = true := code_word (m := ⟨12, 1⟩) (meth := k12m1) (c := k12c1) (by decide +kernel) rfl rfl rfl (by decide +kernel)
set_option maxRecDepth 65536 in
theorem w_c9 : (Jvm.Cond.code ({ cls := "com/example/stallwright/stallwright/api/ApiError", name := "<init>", desc := "(Lcom/example/stallwright/stallwright/api/Failure;Ljava/lang/String;Ljava/lang/String;Ljava/lang/String;)V" } : Jvm.MethodName) prog_1_method_2_code (5 : Nat) (Option.none : Option Jvm.ClassFile.FieldType)).before args0 about1 = true := code_word (m := ⟨12, 0⟩) (meth := k12m0) (c := k12c0) (by decide +kernel) rfl rfl rfl (by decide +kernel)
set_option maxRecDepth 65536 in
theorem w_c10 : (Jvm.Cond.code ({ cls := "java/lang/Record", name := "<init>", desc := "()V" } : Jvm.MethodName) jdk_30_method_1_code (1 : Nat) (Option.none : Option Jvm.ClassFile.FieldType)).before args0 about1 = true := code_word (m := ⟨11, 0⟩) (meth := k11m0) (c := k11c0) (by decide +kernel) rfl rfl rfl (by decide +kernel)
set_option maxRecDepth 65536 in
theorem w_c11 : (Jvm.Cond.code ({ cls := "com/example/stallwright/stallwright/api/ApiError", name := "failure", desc := "()Lcom/example/stallwright/stallwright/api/Failure;" } : Jvm.MethodName) prog_1_method_8_code (1 : Nat) (Option.some (Jvm.ClassFile.FieldType.object "com/example/stallwright/stallwright/api/Failure"))).before args0 about1 = true := code_word (m := ⟨12, 2⟩) (meth := k12m2) (c := k12c2) (by decide +kernel) rfl rfl rfl (by decide +kernel)
set_option maxRecDepth 65536 in
theorem w_c12 : (Jvm.Cond.code ({ cls := "com/example/stallwright/stallwright/api/ApiError", name := "detail", desc := "()Ljava/lang/String;" } : Jvm.MethodName) prog_1_method_9_code (1 : Nat) (Option.some (Jvm.ClassFile.FieldType.object "java/lang/String"))).before args0 about1 = true := code_word (m := ⟨12, 3⟩) (meth := k12m3) (c := k12c3) (by decide +kernel) rfl rfl rfl (by decide +kernel)
set_option maxRecDepth 65536 in
theorem w_c13 : (Jvm.Cond.code ({ cls := "com/example/stallwright/stallwright/api/ApiError", name := "parameter", desc := "()Ljava/lang/String;" } : Jvm.MethodName) prog_1_method_11_code (1 : Nat) (Option.some (Jvm.ClassFile.FieldType.object "java/lang/String"))).before args0 about1 = true := code_word (m := ⟨12, 5⟩) (meth := k12m5) (c := k12c5) (by decide +kernel) rfl rfl rfl (by decide +kernel)
set_option maxRecDepth 65536 in
theorem w_c14 : (Jvm.Cond.code ({ cls := "com/example/stallwright/stallwright/api/ApiError", name := "pointer", desc := "()Ljava/lang/String;" } : Jvm.MethodName) prog_1_method_10_code (1 : Nat) (Option.some (Jvm.ClassFile.FieldType.object "java/lang/String"))).before args0 about1 = true := code_word (m := ⟨12, 4⟩) (meth := k12m4) (c := k12c4) (by decide +kernel) rfl rfl rfl (by decide +kernel)
set_option maxRecDepth 65536 in
theorem w_c15 : (Jvm.Cond.code ({ cls := "java/lang/String", name := "<init>", desc := "([C)V" } : Jvm.MethodName) jdk_42_method_3_code (2 : Nat) (Option.none : Option Jvm.ClassFile.FieldType)).before args0 about1 = true := code_word (m := ⟨7, 1⟩) (meth := k7m1) (c := k7c1) (by decide +kernel) rfl rfl rfl (by decide +kernel)
set_option maxRecDepth 65536 in
theorem w_c16 : (Jvm.Cond.code ({ cls := "java/lang/String", name := "<init>", desc := "([CIILjava/lang/Void;)V" } : Jvm.MethodName) jdk_42_method_149_code (6 : Nat) (Option.none : Option Jvm.ClassFile.FieldType)).before args0 about1 = true := code_word (m := ⟨7, 3⟩) (meth := k7m3) (c := k7c3) (by decide +kernel) rfl rfl rfl (by decide +kernel)
set_option maxRecDepth 65536 in
theorem w_c17 : (Jvm.Cond.code ({ cls := "java/lang/StringUTF16", name := "compress", desc := "([CII)[B" } : Jvm.MethodName) jdk_52_method_16_code (6 : Nat) (Option.some (Jvm.ClassFile.FieldType.array Jvm.ClassFile.FieldType.byte))).before args0 about1 = true := code_word (m := ⟨13, 2⟩) (meth := k13m2) (c := k13c2) (by decide +kernel) rfl rfl rfl (by decide +kernel)
set_option maxRecDepth 65536 in
theorem w_c18 : (Jvm.Cond.code ({ cls := "java/lang/StringUTF16", name := "compress", desc := "([CI[BII)I" } : Jvm.MethodName) jdk_52_method_21_code (7 : Nat) (Option.some Jvm.ClassFile.FieldType.int)).before args0 about1 = true := code_word (m := ⟨13, 3⟩) (meth := k13m3) (c := k13c3) (by decide +kernel) rfl rfl rfl (by decide +kernel)
set_option maxRecDepth 65536 in
theorem w_c19 : (Jvm.Cond.code ({ cls := "java/lang/StringUTF16", name := "coderFromArrayLen", desc := "([BI)B" } : Jvm.MethodName) jdk_52_method_15_code (2 : Nat) (Option.some Jvm.ClassFile.FieldType.byte)).before args0 about1 = true := code_word (m := ⟨13, 1⟩) (meth := k13m1) (c := k13c1) (by decide +kernel) rfl rfl rfl (by decide +kernel)
def codes1 : List Jvm.Cond := [Jvm.Cond.code x code maxLocals ret, Jvm.Cond.code ({ cls := "com/example/stallwright/stallwright/api/ApiErrorAtParameterPinLaw", name := "str", desc := "(II)Ljava/lang/String;" } : Jvm.MethodName) method_3_code (6 : Nat) (Option.some (Jvm.ClassFile.FieldType.object "java/lang/String")), Jvm.Cond.code ({ cls := "java/lang/String", name := "valueOf", desc := "(C)Ljava/lang/String;" } : Jvm.MethodName) jdk_42_method_139_code (1 : Nat) (Option.some (Jvm.ClassFile.FieldType.object "java/lang/String")), Jvm.Cond.code ({ cls := "java/lang/StringLatin1", name := "canEncode", desc := "(C)Z" } : Jvm.MethodName) jdk_43_method_3_code (1 : Nat) (Option.some Jvm.ClassFile.FieldType.boolean), Jvm.Cond.code ({ cls := "java/lang/StringLatin1", name := "toBytes", desc := "(C)[B" } : Jvm.MethodName) jdk_43_method_46_code (1 : Nat) (Option.some (Jvm.ClassFile.FieldType.array Jvm.ClassFile.FieldType.byte)), Jvm.Cond.code ({ cls := "java/lang/String", name := "<init>", desc := "([BB)V" } : Jvm.MethodName) jdk_42_method_151_code (3 : Nat) (Option.none : Option Jvm.ClassFile.FieldType), Jvm.Cond.code ({ cls := "java/lang/Object", name := "<init>", desc := "()V" } : Jvm.MethodName) object_method_1_code (1 : Nat) (Option.none : Option Jvm.ClassFile.FieldType), Jvm.Cond.code ({ cls := "com/example/stallwright/stallwright/api/ApiErrorAtParameterPinLaw", name := "failure", desc := "(I)Lcom/example/stallwright/stallwright/api/Failure;" } : Jvm.MethodName) method_4_code (2 : Nat) (Option.some (Jvm.ClassFile.FieldType.object "com/example/stallwright/stallwright/api/Failure")), Jvm.Cond.code ({ cls := "com/example/stallwright/stallwright/api/ApiError", name := "atParameter", desc := "(Ljava/lang/String;Lcom/example/stallwright/stallwright/api/Failure;Ljava/lang/String;)Lcom/example/stallwright/stallwright/api/ApiError;" } : Jvm.MethodName) prog_1_method_4_code (3 : Nat) (Option.some (Jvm.ClassFile.FieldType.object "com/example/stallwright/stallwright/api/ApiError")), Jvm.Cond.code ({ cls := "com/example/stallwright/stallwright/api/ApiError", name := "<init>", desc := "(Lcom/example/stallwright/stallwright/api/Failure;Ljava/lang/String;Ljava/lang/String;Ljava/lang/String;)V" } : Jvm.MethodName) prog_1_method_2_code (5 : Nat) (Option.none : Option Jvm.ClassFile.FieldType), Jvm.Cond.code ({ cls := "java/lang/Record", name := "<init>", desc := "()V" } : Jvm.MethodName) jdk_30_method_1_code (1 : Nat) (Option.none : Option Jvm.ClassFile.FieldType), Jvm.Cond.code ({ cls := "com/example/stallwright/stallwright/api/ApiError", name := "failure", desc := "()Lcom/example/stallwright/stallwright/api/Failure;" } : Jvm.MethodName) prog_1_method_8_code (1 : Nat) (Option.some (Jvm.ClassFile.FieldType.object "com/example/stallwright/stallwright/api/Failure")), Jvm.Cond.code ({ cls := "com/example/stallwright/stallwright/api/ApiError", name := "detail", desc := "()Ljava/lang/String;" } : Jvm.MethodName) prog_1_method_9_code (1 : Nat) (Option.some (Jvm.ClassFile.FieldType.object "java/lang/String")), Jvm.Cond.code ({ cls := "com/example/stallwright/stallwright/api/ApiError", name := "parameter", desc := "()Ljava/lang/String;" } : Jvm.MethodName) prog_1_method_11_code (1 : Nat) (Option.some (Jvm.ClassFile.FieldType.object "java/lang/String")), Jvm.Cond.code ({ cls := "com/example/stallwright/stallwright/api/ApiError", name := "pointer", desc := "()Ljava/lang/String;" } : Jvm.MethodName) prog_1_method_10_code (1 : Nat) (Option.some (Jvm.ClassFile.FieldType.object "java/lang/String")), Jvm.Cond.code ({ cls := "java/lang/String", name := "<init>", desc := "([C)V" } : Jvm.MethodName) jdk_42_method_3_code (2 : Nat) (Option.none : Option Jvm.ClassFile.FieldType), Jvm.Cond.code ({ cls := "java/lang/String", name := "<init>", desc := "([CIILjava/lang/Void;)V" } : Jvm.MethodName) jdk_42_method_149_code (6 : Nat) (Option.none : Option Jvm.ClassFile.FieldType), Jvm.Cond.code ({ cls := "java/lang/StringUTF16", name := "compress", desc := "([CII)[B" } : Jvm.MethodName) jdk_52_method_16_code (6 : Nat) (Option.some (Jvm.ClassFile.FieldType.array Jvm.ClassFile.FieldType.byte)), Jvm.Cond.code ({ cls := "java/lang/StringUTF16", name := "compress", desc := "([CI[BII)I" } : Jvm.MethodName) jdk_52_method_21_code (7 : Nat) (Option.some Jvm.ClassFile.FieldType.int), Jvm.Cond.code ({ cls := "java/lang/StringUTF16", name := "coderFromArrayLen", desc := "([BI)B" } : Jvm.MethodName) jdk_52_method_15_code (2 : Nat) (Option.some Jvm.ClassFile.FieldType.byte)]
set_option maxRecDepth 65536 in
theorem codes_eq : words1.filter isCode = codes1 := rfl
theorem w_codes : ∀ c ∈ words1.filter isCode, c.before args0 about1 = true := by
  rw [codes_eq]
  intro c hc
  simp only [codes1, List.mem_cons, List.not_mem_nil, or_false] at hc
  rcases hc with rfl | rfl | rfl | rfl | rfl | rfl | rfl | rfl | rfl | rfl | rfl | rfl | rfl | rfl | rfl | rfl | rfl | rfl | rfl | rfl
  · exact w_c0
  · exact w_c1
  · exact w_c2
  · exact w_c3
  · exact w_c4
  · exact w_c5
  · exact w_c6
  · exact w_c7
  · exact w_c8
  · exact w_c9
  · exact w_c10
  · exact w_c11
  · exact w_c12
  · exact w_c13
  · exact w_c14
  · exact w_c15
  · exact w_c16
  · exact w_c17
  · exact w_c18
  · exact w_c19
set_option maxRecDepth 65536 in
theorem w_t1 : (words1.take 24).all (fun c => isCode c || c.before args0 about1) = true := by decide +kernel
set_option maxRecDepth 65536 in
theorem w_t2 : ((words1.drop 24).take 24).all (fun c => isCode c || c.before args0 about1) = true := by decide +kernel
set_option maxRecDepth 65536 in
theorem w_t3 : (((words1.drop 24).drop 24).take 24).all (fun c => isCode c || c.before args0 about1) = true := by decide +kernel
set_option maxRecDepth 65536 in
theorem w_t4 : ((((words1.drop 24).drop 24).drop 24).take 24).all (fun c => isCode c || c.before args0 about1) = true := by decide +kernel
set_option maxRecDepth 65536 in
theorem w_t5 : (((((words1.drop 24).drop 24).drop 24).drop 24).take 24).all (fun c => isCode c || c.before args0 about1) = true := by decide +kernel
set_option maxRecDepth 65536 in
theorem w_t6 : (((((words1.drop 24).drop 24).drop 24).drop 24).drop 24).all (fun c => isCode c || c.before args0 about1) = true := by decide +kernel
theorem w_tables : (allAtoms (Jvm.Cond.code x code maxLocals ret :: tables_1)).before args0 about1 = true := by
  rw [allAtoms_all]
  show words1.all (fun c => c.before args0 about1) = true
  refine all_split ?_ w_codes
  rw [← List.take_append_drop 24 words1, List.all_append, w_t1, ← List.take_append_drop 24 (words1.drop 24), List.all_append, w_t2, ← List.take_append_drop 24 ((words1.drop 24).drop 24), List.all_append, w_t3, ← List.take_append_drop 24 (((words1.drop 24).drop 24).drop 24), List.all_append, w_t4, ← List.take_append_drop 24 ((((words1.drop 24).drop 24).drop 24).drop 24), List.all_append, w_t5, w_t6]
  rfl
set_option maxRecDepth 65536 in
theorem w_rest : rest_1_c.before args0 about1 = true := by decide +kernel
set_option maxRecDepth 65536 in
theorem w_case : (Jvm.Cond.and given_1 narrow_1).before args0 about1 = true := by decide +kernel
set_option maxRecDepth 65536 in
theorem w_consts : constsHeld consts_1 about1 := Jvm.Lit.constsHeldB_iff.mp (by decide +kernel)
theorem w_applies : (headSpec (Jvm.Cond.code x code maxLocals ret :: tables_1) room_1).applies x e0.platform about1 = true :=
  (Spec.applies_iff w_frames).mpr ⟨w_running, w_runnable, w_alone, w_named, w_hears, w_ripe, w_room, w_tables⟩
theorem atStart : AtStart classFile x code maxLocals ret World_1 tables_1 room_1 Calls_1 rest_1 Pre_1 launch0 p0 e0 about1 theMethod args0 below0 :=
  ⟨lists_1, trivial, launch0.admits_env _ _ _, launch0.least_env, fairChoices_fair.cas, fairChoices_fair.clock, w_frames, w_args, w_heap, w_applies, ⟨w_consts, trivial⟩, w_rest, w_case⟩
end start1
theorem witness_1 : WitnessClaimed_1 := ⟨start1.p0, start1.e0, start1.about1, start1.theMethod, start1.args0, start1.below0, start1.atStart⟩
end Jvm.Pilot.@@N@@
