import JvmDerived
import JvmDerived.Pilot.@@N@@Statement
import JvmDerived.Pilot.@@N@@Code
set_option linter.unusedVariables false
set_option linter.unusedSimpArgs false
/- laws to paste: Road.backV, Road.eqW, Road.codOf (cut by pick.py; bodies as the Statement names them) -/
namespace Jvm.Pilot.@@N@@
namespace StrChars
open Jvm Sem ClassFile Op Lib Jvm.Stand Jvm.Free.XT Jvm.Free.ALB Jvm.Free.JM Jvm.Free
open Jvm.Lib.Cold (StaticIs)
/-- a char array whose places are chars -/
def Ch (a : Addr) (A : Cell) (U : State) : Prop := Arr .char a A U ∧ Typed .char A
theorem Ch.mv {a : Addr} {A : Cell} {U U' : State} (h : Ch a A U) (hal : U.vm.Alike U'.vm) (hh : U'.heap = U.heap) : Ch a A U' := ⟨h.1.mv hal hh, h.2⟩
theorem Ch.keep {a : Addr} {A : Cell} {U U' : State} (h : Ch a A U) (hal : U.vm.Alike U'.vm) (hk : U'.heap[a]? = some A) : Ch a A U' := ⟨h.1.keep hal hk, h.2⟩
/-- what place i of a char[]'s cell holds -/
def cv (A : Cell) (i : Nat) : Int32 := match A.slots[i]? with | some (.int x) => x | _ => 0
theorem Ch.get {a : Addr} {A : Cell} {U : State} (h : Ch a A U) {i : Nat} (hi : i < A.slots.size) : A.slots[i]? = some (.int (cv A i)) := by
  have e := Array.getElem?_eq_getElem hi
  have f := h.2 i _ e
  unfold cv; rw [e]
  generalize A.slots[i] = v at f
  cases v <;> simp [fits] at f ⊢
/-- the byte that i2b leaves of a char -/
def lo8 (x : Int32) : Int32 := x.toInt8.toInt32
theorem fits_lo8 (y : Int32) : fits .byte (.int (lo8 y)) = true := by
  have h1 := y.toInt8.le_toInt
  have h2 := y.toInt8.toInt_lt
  simp only [lo8, fits, Bool.and_eq_true, decide_eq_true_eq, Int32.le_iff_toInt_le, Int8.toInt_toInt32, show (-128 : Int32).toInt = -128 from by decide, show (127 : Int32).toInt = 127 from by decide]
  omega
/-- A' is A but that each place j of lo .. hi - 1 holds f j -/
def Laid (A A' : Cell) (lo hi : Nat) (f : Nat → Value) : Prop := A'.cls = A.cls ∧ A'.vm = A.vm ∧ A'.slots.size = A.slots.size ∧ ∀ i, A'.slots[i]? = if lo ≤ i ∧ i < hi then some (f i) else A.slots[i]?
theorem Laid.zero (A : Cell) (lo : Nat) (f : Nat → Value) : Laid A A lo (lo + 0) f := ⟨rfl, rfl, rfl, fun i => by rw [if_neg (by omega)]⟩
theorem Laid.step {A Ak : Cell} {lo k : Nat} {f : Nat → Value} {v : Value} (h : Laid A Ak lo k f) (hlo : lo ≤ k) (hk : k < Ak.slots.size) (hv : v = f k) : Laid A (Ak.setSlot k v) lo (k + 1) f := by
  refine ⟨h.1, h.2.1, by simpa [Cell.setSlot] using h.2.2.1, fun i => ?_⟩
  by_cases e : k = i
  · subst e; rw [Cell.slots_setSlot_self v hk, if_pos (by omega), hv]
  · rw [Cell.slots_setSlot_ne v e, h.2.2.2 i]
    by_cases q : lo ≤ i ∧ i < k
    · rw [if_pos q, if_pos (by omega)]
    · rw [if_neg q, if_neg (by omega)]
def U16 : String := "java/lang/StringUTF16"
namespace Cmp5
def yN : MethodName := ⟨"java/lang/StringUTF16", "compress", "([CI[BII)I"⟩
abbrev yB : ByteArray := jdk_52_method_21_code
theorem d0 : decode yB 0 = .ok (.iconst 0, 1) := by decide +kernel
theorem d1 : decode yB 1 = .ok (.istore 5, 2) := by decide +kernel
theorem d3 : decode yB 3 = .ok (.iload 5, 2) := by decide +kernel
theorem d5 : decode yB 5 = .ok (.iload 4, 2) := by decide +kernel
theorem d7 : decode yB 7 = .ok (.if_icmp (.ge) 37, 3) := by decide +kernel
theorem d10 : decode yB 10 = .ok (.aload_n 0, 1) := by decide +kernel
theorem d11 : decode yB 11 = .ok (.iload_n 1, 1) := by decide +kernel
theorem d12 : decode yB 12 = .ok (.caload, 1) := by decide +kernel
theorem d13 : decode yB 13 = .ok (.istore 6, 2) := by decide +kernel
theorem d15 : decode yB 15 = .ok (.iload 6, 2) := by decide +kernel
theorem d17 : decode yB 17 = .ok (.sipush 255, 3) := by decide +kernel
theorem d20 : decode yB 20 = .ok (.if_icmp (.le) 6, 3) := by decide +kernel
theorem d26 : decode yB 26 = .ok (.aload_n 2, 1) := by decide +kernel
theorem d27 : decode yB 27 = .ok (.iload_n 3, 1) := by decide +kernel
theorem d28 : decode yB 28 = .ok (.iload 6, 2) := by decide +kernel
theorem d30 : decode yB 30 = .ok (.i2b, 1) := by decide +kernel
theorem d31 : decode yB 31 = .ok (.bastore, 1) := by decide +kernel
theorem d32 : decode yB 32 = .ok (.iinc 1 1, 3) := by decide +kernel
theorem d35 : decode yB 35 = .ok (.iinc 3 1, 3) := by decide +kernel
theorem d38 : decode yB 38 = .ok (.iinc 5 1, 3) := by decide +kernel
theorem d41 : decode yB 41 = .ok (.goto (-38), 3) := by decide +kernel
theorem d44 : decode yB 44 = .ok (.iload 4, 2) := by decide +kernel
theorem d46 : decode yB 46 = .ok (.ireturn, 1) := by decide +kernel
def site : List Cond := []
def tab : Cond := tabOf yN yB 7 (some .int) site
def P (b : Addr) (A : Cell) (d : Addr) (B : Cell) (o q len : Nat) (args : Array Value) (s : State) : Prop := args = #[.ref b, .int (Int32.ofNat o), .ref d, .int (Int32.ofNat q), .int (Int32.ofNat len)] ∧ Ch b A s ∧ Arr .byte d B s ∧ b ≠ d ∧ o + len ≤ A.slots.size ∧ q + len ≤ B.slots.size ∧ ∀ i, i < len → ¬ 255 < cv A (o + i)
def E (b : Addr) (A : Cell) (d : Addr) (B : Cell) (o q len : Nat) (r : Option Value) (s u : State) : Prop := r = some (.int (Int32.ofNat len)) ∧ ∃ B', Put d B' s u ∧ Laid B B' q (q + len) (fun j => Value.int (lo8 (cv A (o + (j - q)))))
/-- no char of the range above 255: len; the places written hold each char's low byte -/
theorem law (l : Launch) (b : Addr) (A : Cell) (d : Addr) (B : Cell) (o q len : Nat) : Law l yN 5 5 0 0 yB 7 (some .int) site (P b A d B o q len) (E b A d B o q len) (copyLocs d q len) 0 0 := by
  refine Law.of_walk (plainFor_of_name (by decide +kernel)) (by decide +kernel) (by decide +kernel) (by decide) (fun _ _ h => by rw [h.1]; rfl) (fun _ U U' hal hh h => ⟨h.1, h.2.1.mv hal hh, h.2.2.1.mv hal hh, h.2.2.2⟩) (fun r U U' V V' h1 hal h2 h => ⟨h.1, h.2.elim fun B' q => ⟨B', q.1.mv h1 h2, q.2⟩⟩) ?_
  intro p e s m args below meth c s₁ X0 hexec hbytes hml hret hlk hnm hown hh0 W hP
  obtain ⟨rfl, hA, hB, hne, l1, l2, hp⟩ := hP
  have c1 : Steps p.tables e below (s₁.setTop (entryFrame m #[.ref b, .int (Int32.ofNat o), .ref d, .int (Int32.ofNat q), .int (Int32.ofNat len)] 7)) (s₁.setTop (mkF m 0 #[.val (.ref b), .val (.int (Int32.ofNat o)), .val (.ref d), .val (.int (Int32.ofNat q)), .val (.int (Int32.ofNat len)), .unset, .unset] [])) := entry rfl
  have hA0 := hA.1.mv X0.warmed.alike hh0
  have hB0 := hB.mv X0.warmed.alike hh0
  have a31 := hA.1.2.2.2
  have c2 : Steps p.tables e below (s₁.setTop (entryFrame m #[.ref b, .int (Int32.ofNat o), .ref d, .int (Int32.ofNat q), .int (Int32.ofNat len)] 7)) (s₁.setTop (mkF m 3 #[.val (.ref b), .val (.int (Int32.ofNat o)), .val (.ref d), .val (.int (Int32.ofNat q)), .val (.int (Int32.ofNat len)), .val (.int 0), .unset] [])) := c1.trans (by
    refine iconstV X0.here hexec rfl 0 (hb hbytes d0) (by decide) ?_
    refine XS.istore X0.here hexec rfl (hb hbytes d1) rfl rfl ?_
    exact Steps.refl _)
  have loop : ∀ (r i : Nat), i + r = len → ∀ (z : Slot), (z = .unset ∨ ∃ w, z = .val w ∧ w.category = 1) → ∀ (Tl : State) (Bk : Cell), Stand p l e { frames := 0, locals := 0, cells := 0, slots := 0 } s m #[.ref b, .int (Int32.ofNat o), .ref d, .int (Int32.ofNat q), .int (Int32.ofNat len)] below meth c Tl ([] ++ copyLocs d q i) 0 0 → Put d Bk s₁ Tl → Laid B Bk q (q + i) (fun j => Value.int (lo8 (cv A (o + (j - q))))) →
      Steps p.tables e below (s₁.setTop (entryFrame m #[.ref b, .int (Int32.ofNat o), .ref d, .int (Int32.ofNat q), .int (Int32.ofNat len)] 7)) (Tl.setTop (mkF m 3 #[.val (.ref b), .val (.int (Int32.ofNat (o + i))), .val (.ref d), .val (.int (Int32.ofNat (q + i))), .val (.int (Int32.ofNat len)), .val (.int (Int32.ofNat i)), z] [])) → ∃ (T' : State) (B' : Cell) (z' : Slot), Stand p l e { frames := 0, locals := 0, cells := 0, slots := 0 } s m #[.ref b, .int (Int32.ofNat o), .ref d, .int (Int32.ofNat q), .int (Int32.ofNat len)] below meth c T' ([] ++ copyLocs d q len) 0 0 ∧ Put d B' s₁ T' ∧ Laid B B' q (q + len) (fun j => Value.int (lo8 (cv A (o + (j - q))))) ∧
      Steps p.tables e below (s₁.setTop (entryFrame m #[.ref b, .int (Int32.ofNat o), .ref d, .int (Int32.ofNat q), .int (Int32.ofNat len)] 7)) (T'.setTop (mkF m 3 #[.val (.ref b), .val (.int (Int32.ofNat (o + len))), .val (.ref d), .val (.int (Int32.ofNat (q + len))), .val (.int (Int32.ofNat len)), .val (.int (Int32.ofNat len)), z'] [])) := by
    intro r
    induction r with
    | zero =>
      intro i hi z hz Tl Bk Xl pl fl cl
      have hil : i = len := by omega
      rw [hil] at Xl fl cl
      exact ⟨Tl, Bk, z, Xl, pl, fl, cl⟩
    | succ r ih =>
      intro i hi z hz Tl Bk Xl pl fl cl
      have all := X0.warmed.alike.symm.trans Xl.warmed.alike
      have hAl := hA0.keep all (pl.other hne hA0.1)
      have hBk := hB0.like all pl.1 fl.1 fl.2.1 fl.2.2.1
      have hlt : q + i < Bk.slots.size := by rw [fl.2.2.1]; omega
      have c3 : Steps p.tables e below (s₁.setTop (entryFrame m #[.ref b, .int (Int32.ofNat o), .ref d, .int (Int32.ofNat q), .int (Int32.ofNat len)] 7)) (Tl.setTop (mkF m 12 #[.val (.ref b), .val (.int (Int32.ofNat (o + i))), .val (.ref d), .val (.int (Int32.ofNat (q + i))), .val (.int (Int32.ofNat len)), .val (.int (Int32.ofNat i)), z] [.int (Int32.ofNat (o + i)), .ref b])) := cl.trans (by
        refine XS.iload Xl.here hexec rfl (hb hbytes d3) rfl ?_
        refine XS.iload Xl.here hexec rfl (hb hbytes d5) rfl ?_
        refine XS.icmpNo Xl.here hexec rfl (hb hbytes d7) rfl (ii_ge_f (lt32 (by omega) (by omega))) ?_
        refine XS.aloadN Xl.here hexec rfl (hb hbytes d10) rfl rfl ?_
        refine XS.iloadN Xl.here hexec rfl (hb hbytes d11) rfl ?_
        exact Steps.refl _)
      have c4 : Steps p.tables e below (s₁.setTop (entryFrame m #[.ref b, .int (Int32.ofNat o), .ref d, .int (Int32.ofNat q), .int (Int32.ofNat len)] 7)) (Tl.setTop (mkF m 13 #[.val (.ref b), .val (.int (Int32.ofNat (o + i))), .val (.ref d), .val (.int (Int32.ofNat (q + i))), .val (.int (Int32.ofNat len)), .val (.int (Int32.ofNat i)), z] [.int (cv A (o + i))])) := c3.trans (by
        refine Xl.aget hexec hAl rfl (hA.get (i := o + i) (by omega)) rfl rfl (hb hbytes d12) ?_
        exact Steps.refl _)
      have c5 : Steps p.tables e below (s₁.setTop (entryFrame m #[.ref b, .int (Int32.ofNat o), .ref d, .int (Int32.ofNat q), .int (Int32.ofNat len)] 7)) (Tl.setTop (mkF m 15 #[.val (.ref b), .val (.int (Int32.ofNat (o + i))), .val (.ref d), .val (.int (Int32.ofNat (q + i))), .val (.int (Int32.ofNat len)), .val (.int (Int32.ofNat i)), .val (.int (cv A (o + i)))] [])) := c4.trans (by
        refine XS.istoreS Xl.here hexec rfl (hb hbytes d13) rfl rfl hz ?_
        exact Steps.refl _)
      have c6 : Steps p.tables e below (s₁.setTop (entryFrame m #[.ref b, .int (Int32.ofNat o), .ref d, .int (Int32.ofNat q), .int (Int32.ofNat len)] 7)) (Tl.setTop (mkF m 31 #[.val (.ref b), .val (.int (Int32.ofNat (o + i))), .val (.ref d), .val (.int (Int32.ofNat (q + i))), .val (.int (Int32.ofNat len)), .val (.int (Int32.ofNat i)), .val (.int (cv A (o + i)))] [.int (lo8 (cv A (o + i))), .int (Int32.ofNat (q + i)), .ref d])) := c5.trans (by
        refine XS.iload Xl.here hexec rfl (hb hbytes d15) rfl ?_
        refine sipushV Xl.here hexec rfl 255 (hb hbytes d17) (by decide) ?_
        refine XS.icmpYes Xl.here hexec rfl (pc0 := 20) rfl (hb hbytes d20) rfl (ii_le_t (hp i (by omega))) (by decide) rfl ?_
        refine XS.aloadN Xl.here hexec rfl (hb hbytes d26) rfl rfl ?_
        refine XS.iloadN Xl.here hexec rfl (hb hbytes d27) rfl ?_
        refine XS.iload Xl.here hexec rfl (hb hbytes d28) rfl ?_
        refine i2b Xl.here hexec rfl (hb hbytes d30) rfl ?_
        exact Steps.refl _)
      obtain ⟨T7, X7, p7, st7⟩ := Xl.aput hexec hBk rfl hlt rfl (fits_lo8 (cv A (o + i))) (g := (mkF m 31 #[.val (.ref b), .val (.int (Int32.ofNat (o + i))), .val (.ref d), .val (.int (Int32.ofNat (q + i))), .val (.int (Int32.ofNat len)), .val (.int (Int32.ofNat i)), .val (.int (cv A (o + i)))] [.int (lo8 (cv A (o + i))), .int (Int32.ofNat (q + i)), .ref d])) rfl (rest := []) rfl (hb hbytes d31)
      have c8 : Steps p.tables e below (s₁.setTop (entryFrame m #[.ref b, .int (Int32.ofNat o), .ref d, .int (Int32.ofNat q), .int (Int32.ofNat len)] 7)) (T7.setTop (mkF m 32 #[.val (.ref b), .val (.int (Int32.ofNat (o + i))), .val (.ref d), .val (.int (Int32.ofNat (q + i))), .val (.int (Int32.ofNat len)), .val (.int (Int32.ofNat i)), .val (.int (cv A (o + i)))] [])) := c6.trans (st7 _ (Steps.refl _))
      have c9 : Steps p.tables e below (s₁.setTop (entryFrame m #[.ref b, .int (Int32.ofNat o), .ref d, .int (Int32.ofNat q), .int (Int32.ofNat len)] 7)) (T7.setTop (mkF m 3 #[.val (.ref b), .val (.int (Int32.ofNat (o + i) + 1)), .val (.ref d), .val (.int (Int32.ofNat (q + i) + 1)), .val (.int (Int32.ofNat len)), .val (.int (Int32.ofNat i + 1)), .val (.int (cv A (o + i)))] [])) := c8.trans (by
        refine iincV X7.here hexec rfl 1 (hb hbytes d32) (by decide) rfl rfl ?_
        refine iincV X7.here hexec rfl 1 (hb hbytes d35) (by decide) rfl rfl ?_
        refine iincV X7.here hexec rfl 1 (hb hbytes d38) (by decide) rfl rfl ?_
        refine XS.goto X7.here hexec rfl (pc0 := 41) rfl (hb hbytes d41) (by decide) rfl ?_
        exact Steps.refl _)
      have c10 : Steps p.tables e below (s₁.setTop (entryFrame m #[.ref b, .int (Int32.ofNat o), .ref d, .int (Int32.ofNat q), .int (Int32.ofNat len)] 7)) (T7.setTop (mkF m 3 #[.val (.ref b), .val (.int (Int32.ofNat (o + (i + 1)))), .val (.ref d), .val (.int (Int32.ofNat (q + (i + 1)))), .val (.int (Int32.ofNat len)), .val (.int (Int32.ofNat (i + 1))), .val (.int (cv A (o + i)))] [])) := by
        have := c9
        rw [succ32, succ32, succ32] at this
        exact this
      exact ih (i + 1) (by omega) _ (Or.inr ⟨_, rfl, rfl⟩) T7 _ (by rw [copyLocs_step, ← List.append_assoc]; exact X7) (pl.trans p7) (fl.step (by omega) hlt (by simp)) c10
  obtain ⟨T9, B9, z9, X9, p9, f9, g9⟩ := loop len 0 (by omega) .unset (Or.inl rfl) s₁ B (by simpa [copyLocs] using X0) ⟨hB0.1, fun _ _ => rfl, rfl⟩ (Laid.zero _ _ _) c2
  have c11 : Steps p.tables e below (s₁.setTop (entryFrame m #[.ref b, .int (Int32.ofNat o), .ref d, .int (Int32.ofNat q), .int (Int32.ofNat len)] 7)) (T9.setTop (mkF m 46 #[.val (.ref b), .val (.int (Int32.ofNat (o + len))), .val (.ref d), .val (.int (Int32.ofNat (q + len))), .val (.int (Int32.ofNat len)), .val (.int (Int32.ofNat len)), z9] [.int (Int32.ofNat len)])) := g9.trans (by
    refine XS.iload X9.here hexec rfl (hb hbytes d3) rfl ?_
    refine XS.iload X9.here hexec rfl (hb hbytes d5) rfl ?_
    refine XS.icmpYes X9.here hexec rfl (pc0 := 7) rfl (hb hbytes d7) rfl (ii_ge_t (nlt32 (by omega) (Nat.le_refl _))) (by decide) rfl ?_
    refine XS.iload X9.here hexec rfl (hb hbytes d44) rfl ?_
    exact Steps.refl _)
  exact ⟨T9, some (.int (Int32.ofNat len)), _, _, _, X9, by simp, rfl, rfl, (fun h => by cases h), ⟨rfl, B9, p9.from hh0, f9⟩, fun fs hl => c11.trans (X9.ireturnOut hexec hret rfl (Or.inl rfl) (hb hbytes d46) hl)⟩
end Cmp5
namespace Cmp3
def yN : MethodName := ⟨"java/lang/StringUTF16", "compress", "([CII)[B"⟩
abbrev yB : ByteArray := jdk_52_method_16_code
theorem d0 : decode yB 0 = .ok (.iload_n 2, 1) := by decide +kernel
theorem d1 : decode yB 1 = .ok (.newarray .byte, 2) := by decide +kernel
theorem d3 : decode yB 3 = .ok (.astore_n 3, 1) := by decide +kernel
theorem d4 : decode yB 4 = .ok (.aload_n 0, 1) := by decide +kernel
theorem d5 : decode yB 5 = .ok (.iload_n 1, 1) := by decide +kernel
theorem d6 : decode yB 6 = .ok (.aload_n 3, 1) := by decide +kernel
theorem d7 : decode yB 7 = .ok (.iconst 0, 1) := by decide +kernel
theorem d8 : decode yB 8 = .ok (.iload_n 2, 1) := by decide +kernel
theorem d9 : decode yB 9 = .ok (.invokestatic 115, 3) := by decide +kernel
theorem d12 : decode yB 12 = .ok (.istore 4, 2) := by decide +kernel
theorem d14 : decode yB 14 = .ok (.iload 4, 2) := by decide +kernel
theorem d16 : decode yB 16 = .ok (.iload_n 2, 1) := by decide +kernel
theorem d17 : decode yB 17 = .ok (.if_icmp (.eq) 40, 3) := by decide +kernel
theorem d57 : decode yB 57 = .ok (.aload_n 3, 1) := by decide +kernel
theorem d58 : decode yB 58 = .ok (.areturn, 1) := by decide +kernel
def site : List Cond := [.arrayClass .byte, Cmp5.tab] ++ staticW U16 115 Cmp5.yN
def tab : Cond := tabOf yN yB 6 (some (.array .byte)) site
def P (b : Addr) (A : Cell) (o len : Nat) (args : Array Value) (s : State) : Prop := args = #[.ref b, .int (Int32.ofNat o), .int (Int32.ofNat len)] ∧ Ch b A s ∧ o + len ≤ A.slots.size ∧ len ≤ 536870912 ∧ ∀ i, i < len → ¬ 255 < cv A (o + i)
def E (b : Addr) (A : Cell) (o len : Nat) (r : Option Value) (s u : State) : Prop := NewArr .byte "[B" len (fun j => .int (lo8 (cv A (o + j)))) r s u ∧ u.heap.size = s.heap.size + 1
/-- no char of the range above 255: a new byte[] of their low bytes -/
theorem law (l : Launch) (b : Addr) (A : Cell) (o len : Nat) : Law l yN 3 3 1 18 yB 6 (some (.array .byte)) site (P b A o len) (E b A o len) [] 1 len := by
  refine Law.of_walk (plainFor_of_name (by decide +kernel)) (by decide +kernel) (by decide +kernel) (by decide) (fun _ _ h => by rw [h.1]; rfl) (fun _ U U' hal hh h => ⟨h.1, h.2.1.mv hal hh, h.2.2⟩) (fun r U U' V V' h1 hal h2 h => ⟨NewArr.mv r U U' V V' h1 hal h2 h.1, by rw [h1, h2]; exact h.2⟩) ?_
  intro p e s m args below meth c s₁ X0 hexec hbytes hml hret hlk hnm hown hh0 W hP
  obtain ⟨rfl, hA, l1, l2, hp⟩ := hP
  have a31 := hA.1.2.2.2
  have c1 : Steps p.tables e below (s₁.setTop (entryFrame m #[.ref b, .int (Int32.ofNat o), .int (Int32.ofNat len)] 6)) (s₁.setTop (mkF m 0 #[.val (.ref b), .val (.int (Int32.ofNat o)), .val (.int (Int32.ofNat len)), .unset, .unset, .unset] [])) := entry rfl
  have c2 : Steps p.tables e below (s₁.setTop (entryFrame m #[.ref b, .int (Int32.ofNat o), .int (Int32.ofNat len)] 6)) (s₁.setTop (mkF m 1 #[.val (.ref b), .val (.int (Int32.ofNat o)), .val (.int (Int32.ofNat len)), .unset, .unset, .unset] [.int (Int32.ofNat len)])) := c1.trans (by
    refine XS.iloadN X0.here hexec rfl (hb hbytes d0) rfl ?_
    exact Steps.refl _)
  obtain ⟨T3, B3, X3, ba3, bs3, bv3, bh3, bf3, st3⟩ := X0.anew hexec (atype := .byte) (wk W (.arrayClass .byte)) rfl (by show len * 1 ≤ _; omega) (by omega) (g := (mkF m 1 #[.val (.ref b), .val (.int (Int32.ofNat o)), .val (.int (Int32.ofNat len)), .unset, .unset, .unset] [.int (Int32.ofNat len)])) rfl (hb hbytes d1) (rest := []) rfl (Nat.le_refl _) (by show 0 + len ≤ len; omega)
  rw [hh0] at ba3 st3
  have kp3 : XT.Kept s T3 := (XT.Kept.of_eq hh0).push bh3
  have hA3 := hA.keep X3.warmed.alike (kp3 _ _ hA.1.1)
  have hne : b ≠ s.heap.size := hA.1.ne
  have c4 : Steps p.tables e below (s₁.setTop (entryFrame m #[.ref b, .int (Int32.ofNat o), .int (Int32.ofNat len)] 6)) (T3.setTop (mkF m 3 #[.val (.ref b), .val (.int (Int32.ofNat o)), .val (.int (Int32.ofNat len)), .unset, .unset, .unset] [.ref s.heap.size])) := c2.trans (st3 _ (Steps.refl _))
  have c5 : Steps p.tables e below (s₁.setTop (entryFrame m #[.ref b, .int (Int32.ofNat o), .int (Int32.ofNat len)] 6)) (T3.setTop (mkF m 9 #[.val (.ref b), .val (.int (Int32.ofNat o)), .val (.int (Int32.ofNat len)), .val (.ref s.heap.size), .unset, .unset] [.int (Int32.ofNat len), .int 0, .ref s.heap.size, .int (Int32.ofNat o), .ref b])) := c4.trans (by
    refine XS.astoreN X3.here hexec rfl (hb hbytes d3) rfl rfl rfl ?_
    refine XS.aloadN X3.here hexec rfl (hb hbytes d4) rfl rfl ?_
    refine XS.iloadN X3.here hexec rfl (hb hbytes d5) rfl ?_
    refine XS.aloadN X3.here hexec rfl (hb hbytes d6) rfl rfl ?_
    refine iconstV X3.here hexec rfl 0 (hb hbytes d7) (by decide) ?_
    refine XS.iloadN X3.here hexec rfl (hb hbytes d8) rfl ?_
    exact Steps.refl _)
  obtain ⟨v6, T6, X6, E6, g6⟩ := X3.callS hexec (Cmp5.law l b A s.heap.size B3 o 0 len) hown (wks W (staticW U16 115 Cmp5.yN)) (wk W Cmp5.tab) (W := 0) (Nat.le_of_ble_eq_true rfl) (Nat.le_of_ble_eq_true rfl) (Nat.le_refl _) (by show 0 + len + 0 ≤ len; omega) (g := (mkF m 9 #[.val (.ref b), .val (.int (Int32.ofNat o)), .val (.int (Int32.ofNat len)), .val (.ref s.heap.size), .unset, .unset] [.int (Int32.ofNat len), .int (Int32.ofNat 0), .ref s.heap.size, .int (Int32.ofNat o), .ref b])) rfl (by rw [hml]; rfl) c5 (argsL := [.ref b, .int (Int32.ofNat o), .ref s.heap.size, .int (Int32.ofNat 0), .int (Int32.ofNat len)]) (rest := []) rfl rfl (by show 2 * 0 + 0 ≤ _; decide) (hb hbytes d9) (⟨rfl, hA3, ba3, hne, l1, by rw [bs3]; simp, hp⟩)
  obtain ⟨rfl, B6, p6, f6⟩ := E6
  have c7 : Steps p.tables e below (s₁.setTop (entryFrame m #[.ref b, .int (Int32.ofNat o), .int (Int32.ofNat len)] 6)) (T6.setTop (mkF m 12 #[.val (.ref b), .val (.int (Int32.ofNat o)), .val (.int (Int32.ofNat len)), .val (.ref s.heap.size), .unset, .unset] [.int (Int32.ofNat len)])) := g6
  have c8 : Steps p.tables e below (s₁.setTop (entryFrame m #[.ref b, .int (Int32.ofNat o), .int (Int32.ofNat len)] 6)) (T6.setTop (mkF m 58 #[.val (.ref b), .val (.int (Int32.ofNat o)), .val (.int (Int32.ofNat len)), .val (.ref s.heap.size), .val (.int (Int32.ofNat len)), .unset] [.ref s.heap.size])) := c7.trans (by
    refine XS.istore X6.here hexec rfl (hb hbytes d12) rfl rfl ?_
    refine XS.iload X6.here hexec rfl (hb hbytes d14) rfl ?_
    refine XS.iloadN X6.here hexec rfl (hb hbytes d16) rfl ?_
    refine XS.icmpYes X6.here hexec rfl (pc0 := 17) rfl (hb hbytes d17) rfl (ii_eq_t rfl) (by decide) rfl ?_
    refine XS.aloadN X6.here hexec rfl (hb hbytes d57) rfl rfl ?_
    exact Steps.refl _)
  have X8 := X6.wide (L' := []) (cells' := 1) (slots' := len) (fun x hx hlt => by
    simp only [List.nil_append, copyLocs, List.mem_map, List.mem_range] at hx
    obtain ⟨i, -, rfl⟩ := hx
    exact absurd hlt (Nat.lt_irrefl _)) (Nat.le_refl _) (by omega)
  exact ⟨T6, some (.ref s.heap.size), _, _, _, X8, rfl, rfl, rfl, (fun h => by cases h), ⟨⟨rfl, B6, ba3.like (X3.warmed.alike.symm.trans X6.warmed.alike) p6.1 f6.1 f6.2.1 f6.2.2.1, f6.2.1.trans bv3, by rw [X6.warmed.alike.findClass, f6.1]; exact bf3, by rw [f6.2.2.1, bs3]; simp, fun j hj => by rw [f6.2.2.2 j, if_pos (by omega)]; rfl, kp3.put p6 (Nat.le_refl _)⟩, by rw [p6.2.2, bh3, hh0]; simp⟩, fun fs hl => c8.trans (X8.areturnOut hexec rfl hret rfl (hb hbytes d58) hl)⟩
end Cmp3
namespace CodL
def yN : MethodName := ⟨"java/lang/StringUTF16", "coderFromArrayLen", "([BI)B"⟩
abbrev yB : ByteArray := jdk_52_method_15_code
theorem d0 : decode yB 0 = .ok (.iload_n 1, 1) := by decide +kernel
theorem d1 : decode yB 1 = .ok (.aload_n 0, 1) := by decide +kernel
theorem d2 : decode yB 2 = .ok (.arraylength, 1) := by decide +kernel
theorem d3 : decode yB 3 = .ok (.isub, 1) := by decide +kernel
theorem d4 : decode yB 4 = .ok (.bipush 31, 2) := by decide +kernel
theorem d6 : decode yB 6 = .ok (.iushr, 1) := by decide +kernel
theorem d7 : decode yB 7 = .ok (.i2b, 1) := by decide +kernel
theorem d8 : decode yB 8 = .ok (.ireturn, 1) := by decide +kernel
def site : List Cond := []
def tab : Cond := tabOf yN yB 2 (some .byte) site
def P (d : Addr) (B : Cell) (args : Array Value) (s : State) : Prop := args = #[.ref d, .int (Int32.ofNat B.slots.size)] ∧ Arr .byte d B s
def E (r : Option Value) (s u : State) : Prop := XT.PureE (some (.int 0)) r s u
/-- an array as long as the number of chars: LATIN1 -/
theorem law (l : Launch) (d : Addr) (B : Cell) : Law l yN 2 2 0 0 yB 2 (some .byte) site (P d B) E [] 0 0 := by
  refine Law.of_walk (plainFor_of_name (by decide +kernel)) (by decide +kernel) (by decide +kernel) (by decide) (fun _ _ h => by rw [h.1]; rfl) (fun _ U U' hal hh h => ⟨h.1, h.2.mv hal hh⟩) (fun r U U' V V' h1 hal h2 h => XT.PureE.mv r U U' V V' h1 hal h2 h) ?_
  intro p e s m args below meth c s₁ X0 hexec hbytes hml hret hlk hnm hown hh0 W hP
  obtain ⟨rfl, hB⟩ := hP
  have hB0 := hB.mv X0.warmed.alike hh0
  have c1 : Steps p.tables e below (s₁.setTop (entryFrame m #[.ref d, .int (Int32.ofNat B.slots.size)] 2)) (s₁.setTop (mkF m 0 #[.val (.ref d), .val (.int (Int32.ofNat B.slots.size))] [])) := entry rfl
  have c2 : Steps p.tables e below (s₁.setTop (entryFrame m #[.ref d, .int (Int32.ofNat B.slots.size)] 2)) (s₁.setTop (mkF m 2 #[.val (.ref d), .val (.int (Int32.ofNat B.slots.size))] [.ref d, .int (Int32.ofNat B.slots.size)])) := c1.trans (by
    refine XS.iloadN X0.here hexec rfl (hb hbytes d0) rfl ?_
    refine XS.aloadN X0.here hexec rfl (hb hbytes d1) rfl rfl ?_
    exact Steps.refl _)
  have c3 : Steps p.tables e below (s₁.setTop (entryFrame m #[.ref d, .int (Int32.ofNat B.slots.size)] 2)) (s₁.setTop (mkF m 8 #[.val (.ref d), .val (.int (Int32.ofNat B.slots.size))] [.int (lo8 (ushr (Int32.ofNat B.slots.size - Int32.ofNat B.slots.size) 31))])) := c2.trans (by
    refine X0.alen hexec hB0 rfl rfl (hb hbytes d2) ?_
    refine XS.isub X0.here hexec rfl (hb hbytes d3) rfl ?_
    refine bipushV X0.here hexec rfl 31 (hb hbytes d4) (by decide) ?_
    refine iushr X0.here hexec rfl (hb hbytes d6) rfl ?_
    refine i2b X0.here hexec rfl (hb hbytes d7) rfl ?_
    exact Steps.refl _)
  have e0 : lo8 (ushr (Int32.ofNat B.slots.size - Int32.ofNat B.slots.size) 31) = 0 := by rw [Int32.sub_self]; decide
  rw [e0] at c3
  exact ⟨s₁, some (.int 0), _, _, _, X0, rfl, rfl, rfl, (fun h => by cases h), ⟨rfl, hh0⟩, fun fs hl => c3.trans (X0.ireturnOut hexec hret rfl (Or.inr (Or.inr (Or.inl rfl))) (hb hbytes d8) hl)⟩
end CodL
/-- the String at a is Latin-1 over a new byte[] (the heap's one new cell): the low bytes of the len chars of A from o on; every cell but a is kept -/
def Got (a : Addr) (D : Cell) (fV fC : Field) (A : Cell) (o len : Nat) (r : Option Value) (s u : State) : Prop := r = none ∧ ∃ D' V : Cell, Blank "java/lang/String" a D' u ∧ Same D D' [fV.slot, fC.slot] ∧ D'.slots[fV.slot]? = some (.ref s.heap.size) ∧ D'.slots[fC.slot]? = some (.int 0) ∧ Arr .byte s.heap.size V u ∧ V.vm = .none ∧ u.vm.findClass "[B" = some V.cls ∧ V.slots.size = len ∧ (∀ j, j < len → V.slots[j]? = some (.int (lo8 (cv A (o + j))))) ∧ (∀ (y : Addr) (c : Cell), y ≠ a → s.heap[y]? = some c → u.heap[y]? = some c) ∧ u.heap.size = s.heap.size + 1
theorem Got.mv {a : Addr} {D A : Cell} {fV fC : Field} {o len : Nat} : ∀ r (U U' V V' : State), U'.heap = U.heap → V.vm.Alike V'.vm → V'.heap = V.heap → Got a D fV fC A o len r U V → Got a D fV fC A o len r U' V' :=
  fun r U U' V V' h1 hal h2 ⟨e0, D', X, a1, a2, a3, a4, a5, a6, a7, a8, a9, a10, a11⟩ => ⟨e0, D', X, a1.mv hal h2, a2, by rw [h1]; exact a3, a4, by rw [h1]; exact a5.mv hal h2, a6, by rw [hal.findClass]; exact a7, a8, a9, by rw [h1, h2]; exact a10, by rw [h1, h2]; exact a11⟩
namespace New4
def yN : MethodName := ⟨"java/lang/String", "<init>", "([CIILjava/lang/Void;)V"⟩
abbrev yB : ByteArray := jdk_42_method_149_code
theorem d0 : decode yB 0 = .ok (.aload_n 0, 1) := by decide +kernel
theorem d1 : decode yB 1 = .ok (.invokespecial 1, 3) := by decide +kernel
theorem d4 : decode yB 4 = .ok (.iload_n 3, 1) := by decide +kernel
theorem d5 : decode yB 5 = .ok (.ifCond (.ne) 22, 3) := by decide +kernel
theorem d27 : decode yB 27 = .ok (.getstatic 38, 3) := by decide +kernel
theorem d30 : decode yB 30 = .ok (.ifCond (.eq) 28, 3) := by decide +kernel
theorem d33 : decode yB 33 = .ok (.aload_n 1, 1) := by decide +kernel
theorem d34 : decode yB 34 = .ok (.iload_n 2, 1) := by decide +kernel
theorem d35 : decode yB 35 = .ok (.iload_n 3, 1) := by decide +kernel
theorem d36 : decode yB 36 = .ok (.invokestatic 177, 3) := by decide +kernel
theorem d39 : decode yB 39 = .ok (.astore 5, 2) := by decide +kernel
theorem d41 : decode yB 41 = .ok (.aload_n 0, 1) := by decide +kernel
theorem d42 : decode yB 42 = .ok (.aload 5, 2) := by decide +kernel
theorem d44 : decode yB 44 = .ok (.iload_n 3, 1) := by decide +kernel
theorem d45 : decode yB 45 = .ok (.invokestatic 47, 3) := by decide +kernel
theorem d48 : decode yB 48 = .ok (.putfield 15, 3) := by decide +kernel
theorem d51 : decode yB 51 = .ok (.aload_n 0, 1) := by decide +kernel
theorem d52 : decode yB 52 = .ok (.aload 5, 2) := by decide +kernel
theorem d54 : decode yB 54 = .ok (.putfield 9, 3) := by decide +kernel
theorem d57 : decode yB 57 = .ok (.return_, 1) := by decide +kernel
def site : List Cond := [.fieldLink "java/lang/String" 38 "java/lang/String" "COMPACT_STRINGS" "Z", Cmp3.tab, CodL.tab, .laysFinal "java/lang/String" "java/lang/String" "value" "[B", .fieldLink "java/lang/String" 9 "java/lang/String" "value" "[B", .laysFinal "java/lang/String" "java/lang/String" "coder" "B", .fieldLink "java/lang/String" 15 "java/lang/String" "coder" "B"] ++ objW "java/lang/String" 1 ++ staticW "java/lang/String" 177 Cmp3.yN ++ staticW "java/lang/String" 47 CodL.yN
def tab : Cond := tabOf yN yB 6 none site
def P (a : Addr) (D : Cell) (fV fC : Field) (b : Addr) (A : Cell) (z : Int32) (o len : Nat) (args : Array Value) (s : State) : Prop := args = #[.ref a, .ref b, .int (Int32.ofNat o), .int (Int32.ofNat len), .null] ∧ Blank "java/lang/String" a D s ∧ Found "java/lang/String" "value" "[B" fV s ∧ Found "java/lang/String" "coder" "B" fC s ∧ Ch b A s ∧ StaticIs s "java/lang/String" "COMPACT_STRINGS" "Z" (.int z) ∧ ¬ z = 0 ∧ 0 < len ∧ o + len ≤ A.slots.size ∧ len ≤ 536870912 ∧ ∀ i, i < len → ¬ 255 < cv A (o + i)
def E (a : Addr) (D : Cell) (fV fC : Field) (A : Cell) (o len : Nat) (r : Option Value) (s u : State) : Prop := Got a D fV fC A o len r s u
/-- len > 0, no char of the range above 255: a Latin-1 String of their low bytes -/
theorem law (l : Launch) (a : Addr) (D : Cell) (fV fC : Field) (b : Addr) (A : Cell) (z : Int32) (o len : Nat) : Law l yN 5 4 2 35 yB 6 none site (P a D fV fC b A z o len) (E a D fV fC A o len) [⟨a, fC.slot⟩, ⟨a, fV.slot⟩] 1 len := by
  refine Law.of_walk (plainFor_of_name (by decide +kernel)) (by decide +kernel) (by decide +kernel) (by decide) (fun _ _ h => by rw [h.1]; rfl) (fun _ U U' hal hh h => ⟨h.1, h.2.1.mv hal hh, h.2.2.1.al hal, h.2.2.2.1.al hal, h.2.2.2.2.1.mv hal hh, h.2.2.2.2.2.1.there hal hh, h.2.2.2.2.2.2⟩) (fun r U U' V V' h1 hal h2 h => Got.mv r U U' V V' h1 hal h2 h) ?_
  intro p e s m args below meth c s₁ X0 hexec hbytes hml hret hlk hnm hown hh0 W hP
  obtain ⟨rfl, hB, f1, f2, hA, s1, hz, l0, l1, l2, hp⟩ := hP
  have a31 := hA.1.2.2.2
  have c1 : Steps p.tables e below (s₁.setTop (entryFrame m #[.ref a, .ref b, .int (Int32.ofNat o), .int (Int32.ofNat len), .null] 6)) (s₁.setTop (mkF m 0 #[.val (.ref a), .val (.ref b), .val (.int (Int32.ofNat o)), .val (.int (Int32.ofNat len)), .val .null, .unset] [])) := entry rfl
  have c2 : Steps p.tables e below (s₁.setTop (entryFrame m #[.ref a, .ref b, .int (Int32.ofNat o), .int (Int32.ofNat len), .null] 6)) (s₁.setTop (mkF m 1 #[.val (.ref a), .val (.ref b), .val (.int (Int32.ofNat o)), .val (.int (Int32.ofNat len)), .val .null, .unset] [.ref a])) := c1.trans (by
    refine XS.aloadN X0.here hexec rfl (hb hbytes d0) rfl rfl ?_
    exact Steps.refl _)
  obtain ⟨T3, X3, q3, st3⟩ := X0.oinit hexec hown (wks W (objW "java/lang/String" 1)) (g := (mkF m 1 #[.val (.ref a), .val (.ref b), .val (.int (Int32.ofNat o)), .val (.int (Int32.ofNat len)), .val .null, .unset] [.ref a])) rfl (by rw [hml]; rfl) (rest := []) rfl (hb hbytes d1) (W := 0) (by show 2 * 0 + 0 ≤ _; decide) (Nat.le_of_ble_eq_true rfl) (Nat.le_of_ble_eq_true rfl)
  have hh3 := q3.trans hh0
  have c4 : Steps p.tables e below (s₁.setTop (entryFrame m #[.ref a, .ref b, .int (Int32.ofNat o), .int (Int32.ofNat len), .null] 6)) (T3.setTop (mkF m 27 #[.val (.ref a), .val (.ref b), .val (.int (Int32.ofNat o)), .val (.int (Int32.ofNat len)), .val .null, .unset] [])) := (c2.trans (st3 _ (Steps.refl _))).trans (by
    refine XS.iloadN X3.here hexec rfl (hb hbytes d4) rfl ?_
    refine XS.ifYes X3.here hexec rfl (pc0 := 5) rfl (hb hbytes d5) rfl (i0_ne_t (nz32 (by omega) l0)) (by decide) rfl ?_
    exact Steps.refl _)
  obtain ⟨T5, X5, q5, st5⟩ := X3.sget hexec hown (wk W (.fieldLink "java/lang/String" 38 "java/lang/String" "COMPACT_STRINGS" "Z")) s1 (fun _ _ h => by rw [hh3]; exact h) (g := (mkF m 27 #[.val (.ref a), .val (.ref b), .val (.int (Int32.ofNat o)), .val (.int (Int32.ofNat len)), .val .null, .unset] [])) rfl (hb hbytes d27)
  have hh5 := q5.trans hh3
  have c6 : Steps p.tables e below (s₁.setTop (entryFrame m #[.ref a, .ref b, .int (Int32.ofNat o), .int (Int32.ofNat len), .null] 6)) (T5.setTop (mkF m 30 #[.val (.ref a), .val (.ref b), .val (.int (Int32.ofNat o)), .val (.int (Int32.ofNat len)), .val .null, .unset] [.int z])) := c4.trans (st5 _ (Steps.refl _))
  have c7 : Steps p.tables e below (s₁.setTop (entryFrame m #[.ref a, .ref b, .int (Int32.ofNat o), .int (Int32.ofNat len), .null] 6)) (T5.setTop (mkF m 36 #[.val (.ref a), .val (.ref b), .val (.int (Int32.ofNat o)), .val (.int (Int32.ofNat len)), .val .null, .unset] [.int (Int32.ofNat len), .int (Int32.ofNat o), .ref b])) := c6.trans (by
    refine XS.ifNo X5.here hexec rfl (hb hbytes d30) rfl (i0_eq_f hz) ?_
    refine XS.aloadN X5.here hexec rfl (hb hbytes d33) rfl rfl ?_
    refine XS.iloadN X5.here hexec rfl (hb hbytes d34) rfl ?_
    refine XS.iloadN X5.here hexec rfl (hb hbytes d35) rfl ?_
    exact Steps.refl _)
  obtain ⟨v8, T8, X8, E8, g8⟩ := X5.callS hexec (Cmp3.law l b A o len) hown (wks W (staticW "java/lang/String" 177 Cmp3.yN)) (wk W Cmp3.tab) (W := 0) (Nat.le_of_ble_eq_true rfl) (Nat.le_of_ble_eq_true rfl) (Nat.le_refl _) (by show 0 + len ≤ len; omega) (g := (mkF m 36 #[.val (.ref a), .val (.ref b), .val (.int (Int32.ofNat o)), .val (.int (Int32.ofNat len)), .val .null, .unset] [.int (Int32.ofNat len), .int (Int32.ofNat o), .ref b])) rfl (by rw [hml]; rfl) c7 (argsL := [.ref b, .int (Int32.ofNat o), .int (Int32.ofNat len)]) (rest := []) rfl rfl (by show 2 * 0 + 0 ≤ _; decide) (hb hbytes d36) (⟨rfl, hA.mv X5.warmed.alike hh5, l1, l2, hp⟩)
  obtain ⟨e8, z8⟩ := E8
  obtain ⟨rfl, N, n1, n2, n3, n4, n5, n6⟩ := NewArr.mv _ T5 s _ _ hh5.symm (Vm.Alike.refl _) rfl e8
  rw [hh5] at z8
  have hB1 := hB.keep X8.warmed.alike (n6 _ _ hB.1)
  have hne : s.heap.size ≠ a := (Nat.ne_of_lt (Array.getElem?_eq_some_iff.mp hB.1).1).symm
  have c9 : Steps p.tables e below (s₁.setTop (entryFrame m #[.ref a, .ref b, .int (Int32.ofNat o), .int (Int32.ofNat len), .null] 6)) (T8.setTop (mkF m 39 #[.val (.ref a), .val (.ref b), .val (.int (Int32.ofNat o)), .val (.int (Int32.ofNat len)), .val .null, .unset] [.ref s.heap.size])) := g8
  have c10 : Steps p.tables e below (s₁.setTop (entryFrame m #[.ref a, .ref b, .int (Int32.ofNat o), .int (Int32.ofNat len), .null] 6)) (T8.setTop (mkF m 45 #[.val (.ref a), .val (.ref b), .val (.int (Int32.ofNat o)), .val (.int (Int32.ofNat len)), .val .null, .val (.ref s.heap.size)] [.int (Int32.ofNat N.slots.size), .ref s.heap.size, .ref a])) := by
    have hc : Steps p.tables e below (s₁.setTop (entryFrame m #[.ref a, .ref b, .int (Int32.ofNat o), .int (Int32.ofNat len), .null] 6)) (T8.setTop (mkF m 45 #[.val (.ref a), .val (.ref b), .val (.int (Int32.ofNat o)), .val (.int (Int32.ofNat len)), .val .null, .val (.ref s.heap.size)] [.int (Int32.ofNat len), .ref s.heap.size, .ref a])) := c9.trans (by
      refine XS.astore X8.here hexec rfl (hb hbytes d39) rfl rfl rfl ?_
      refine XS.aloadN X8.here hexec rfl (hb hbytes d41) rfl rfl ?_
      refine XS.aload X8.here hexec rfl (hb hbytes d42) rfl rfl ?_
      refine XS.iloadN X8.here hexec rfl (hb hbytes d44) rfl ?_
      exact Steps.refl _)
    rw [n4]; exact hc
  obtain ⟨v11, T11, X11, E11, g11⟩ := X8.callS hexec (CodL.law l s.heap.size N) hown (wks W (staticW "java/lang/String" 47 CodL.yN)) (wk W CodL.tab) (W := 1) (Nat.le_of_ble_eq_true rfl) (Nat.le_of_ble_eq_true rfl) (Nat.le_refl _) (by show 0 + len + 0 ≤ len; omega) (g := (mkF m 45 #[.val (.ref a), .val (.ref b), .val (.int (Int32.ofNat o)), .val (.int (Int32.ofNat len)), .val .null, .val (.ref s.heap.size)] [.int (Int32.ofNat N.slots.size), .ref s.heap.size, .ref a])) rfl (by rw [hml]; rfl) c10 (argsL := [.ref s.heap.size, .int (Int32.ofNat N.slots.size)]) (rest := [.ref a]) rfl rfl (by show 2 * 0 + (1 + 0) ≤ _; decide) (hb hbytes d45) (⟨rfl, n1⟩)
  obtain ⟨rfl, q11⟩ := E11
  have hB11 := hB1.mv (X8.warmed.alike.symm.trans X11.warmed.alike) q11
  have c12 : Steps p.tables e below (s₁.setTop (entryFrame m #[.ref a, .ref b, .int (Int32.ofNat o), .int (Int32.ofNat len), .null] 6)) (T11.setTop (mkF m 48 #[.val (.ref a), .val (.ref b), .val (.int (Int32.ofNat o)), .val (.int (Int32.ofNat len)), .val .null, .val (.ref s.heap.size)] [.int 0, .ref a])) := g11
  obtain ⟨T13, X13, p13, bl13, sl13, st13⟩ := X11.finit hexec hown (wk W (.fieldLink "java/lang/String" 15 "java/lang/String" "coder" "B")) (Or.inr ⟨_, (wk W (.laysFinal "java/lang/String" "java/lang/String" "coder" "B"))⟩) (Or.inl ⟨rfl, hnm⟩) f2 (Or.inl rfl) hB11 (t := .byte) (by decide +kernel) rfl (g := (mkF m 48 #[.val (.ref a), .val (.ref b), .val (.int (Int32.ofNat o)), .val (.int (Int32.ofNat len)), .val .null, .val (.ref s.heap.size)] [.int 0, .ref a])) rfl (rest := []) rfl (hb hbytes d48)
  have c14 : Steps p.tables e below (s₁.setTop (entryFrame m #[.ref a, .ref b, .int (Int32.ofNat o), .int (Int32.ofNat len), .null] 6)) (T13.setTop (mkF m 54 #[.val (.ref a), .val (.ref b), .val (.int (Int32.ofNat o)), .val (.int (Int32.ofNat len)), .val .null, .val (.ref s.heap.size)] [.ref s.heap.size, .ref a])) := (c12.trans (st13 _ (Steps.refl _))).trans (by
    refine XS.aloadN X13.here hexec rfl (hb hbytes d51) rfl rfl ?_
    refine XS.aload X13.here hexec rfl (hb hbytes d52) rfl rfl ?_
    exact Steps.refl _)
  obtain ⟨T15, X15, p15, bl15, sl15, st15⟩ := X13.finit hexec hown (wk W (.fieldLink "java/lang/String" 9 "java/lang/String" "value" "[B")) (Or.inr ⟨_, (wk W (.laysFinal "java/lang/String" "java/lang/String" "value" "[B"))⟩) (Or.inl ⟨rfl, hnm⟩) f1 (Or.inl rfl) bl13 (t := (.array .byte)) (by decide +kernel) rfl (g := (mkF m 54 #[.val (.ref a), .val (.ref b), .val (.int (Int32.ofNat o)), .val (.int (Int32.ofNat len)), .val .null, .val (.ref s.heap.size)] [.ref s.heap.size, .ref a])) rfl (rest := []) rfl (hb hbytes d54)
  have c16 : Steps p.tables e below (s₁.setTop (entryFrame m #[.ref a, .ref b, .int (Int32.ofNat o), .int (Int32.ofNat len), .null] 6)) (T15.setTop (mkF m 57 #[.val (.ref a), .val (.ref b), .val (.int (Int32.ofNat o)), .val (.int (Int32.ofNat len)), .val .null, .val (.ref s.heap.size)] [])) := c14.trans (st15 _ (Steps.refl _))
  have ap := apart (Or.inr ⟨_, (wk W (.laysFinal "java/lang/String" "java/lang/String" "value" "[B"))⟩) (Or.inr ⟨_, (wk W (.laysFinal "java/lang/String" "java/lang/String" "coder" "B"))⟩) f1 f2 (t₁ := .array .byte) (t₂ := .byte) (by decide +kernel) (by decide +kernel) (by decide)
  have al := X8.warmed.alike.symm.trans X15.warmed.alike
  have n7 : T11.heap[s.heap.size]? = some N := by rw [q11]; exact n1.1
  exact ⟨T15, none, _, _, _, X15, by simp, rfl, by omega, (fun _ => rfl), ⟨rfl, _, N, bl15, ((Same.refl D _).set _ (by simp)).set _ (by simp), sl15, (Cell.slots_setSlot_ne _ ap).trans sl13, n1.keep al (p15.other hne (p13.other hne n7)), n2, by rw [al.findClass]; exact n3, n4, n5, fun y c h1 h2 => p15.other h1 (p13.other h1 (by rw [q11]; exact n6 y c h2)), by rw [p15.2.2, p13.2.2, q11]; exact z8⟩, fun fs hl => c16.trans (X15.returnOut hexec hret (hb hbytes d57) hl)⟩
end New4
namespace New1
def yN : MethodName := ⟨"java/lang/String", "<init>", "([C)V"⟩
abbrev yB : ByteArray := jdk_42_method_3_code
theorem d0 : decode yB 0 = .ok (.aload_n 0, 1) := by decide +kernel
theorem d1 : decode yB 1 = .ok (.aload_n 1, 1) := by decide +kernel
theorem d2 : decode yB 2 = .ok (.iconst 0, 1) := by decide +kernel
theorem d3 : decode yB 3 = .ok (.aload_n 1, 1) := by decide +kernel
theorem d4 : decode yB 4 = .ok (.arraylength, 1) := by decide +kernel
theorem d5 : decode yB 5 = .ok (.aconst_null, 1) := by decide +kernel
theorem d6 : decode yB 6 = .ok (.invokespecial 27, 3) := by decide +kernel
theorem d9 : decode yB 9 = .ok (.return_, 1) := by decide +kernel
def site : List Cond := [New4.tab] ++ initW "java/lang/String" 27 New4.yN
def tab : Cond := tabOf yN yB 2 none site
def P (a : Addr) (D : Cell) (fV fC : Field) (b : Addr) (A : Cell) (z : Int32) (args : Array Value) (s : State) : Prop := args = #[.ref a, .ref b] ∧ Blank "java/lang/String" a D s ∧ Found "java/lang/String" "value" "[B" fV s ∧ Found "java/lang/String" "coder" "B" fC s ∧ Ch b A s ∧ StaticIs s "java/lang/String" "COMPACT_STRINGS" "Z" (.int z) ∧ ¬ z = 0 ∧ 0 < A.slots.size ∧ A.slots.size ≤ 536870912 ∧ ∀ i, i < A.slots.size → ¬ 255 < cv A i
def E (a : Addr) (D : Cell) (fV fC : Field) (A : Cell) (r : Option Value) (s u : State) : Prop := Got a D fV fC A 0 A.slots.size r s u
/-- new String(chars), not empty, no char above 255: a Latin-1 String of their low bytes -/
theorem law (l : Launch) (a : Addr) (D : Cell) (fV fC : Field) (b : Addr) (A : Cell) (z : Int32) : Law l yN 2 1 3 52 yB 2 none site (P a D fV fC b A z) (E a D fV fC A) [⟨a, fC.slot⟩, ⟨a, fV.slot⟩] 1 A.slots.size := by
  refine Law.of_walk (plainFor_of_name (by decide +kernel)) (by decide +kernel) (by decide +kernel) (by decide) (fun _ _ h => by rw [h.1]; rfl) (fun _ U U' hal hh h => ⟨h.1, h.2.1.mv hal hh, h.2.2.1.al hal, h.2.2.2.1.al hal, h.2.2.2.2.1.mv hal hh, h.2.2.2.2.2.1.there hal hh, h.2.2.2.2.2.2⟩) (fun r U U' V V' h1 hal h2 h => Got.mv r U U' V V' h1 hal h2 h) ?_
  intro p e s m args below meth c s₁ X0 hexec hbytes hml hret hlk hnm hown hh0 W hP
  obtain ⟨rfl, hB, f1, f2, hA, s1, hz, l0, l2, hp⟩ := hP
  have c1 : Steps p.tables e below (s₁.setTop (entryFrame m #[.ref a, .ref b] 2)) (s₁.setTop (mkF m 0 #[.val (.ref a), .val (.ref b)] [])) := entry rfl
  have c2 : Steps p.tables e below (s₁.setTop (entryFrame m #[.ref a, .ref b] 2)) (s₁.setTop (mkF m 6 #[.val (.ref a), .val (.ref b)] [.null, .int (Int32.ofNat A.slots.size), .int 0, .ref b, .ref a])) := c1.trans (by
    refine XS.aloadN X0.here hexec rfl (hb hbytes d0) rfl rfl ?_
    refine XS.aloadN X0.here hexec rfl (hb hbytes d1) rfl rfl ?_
    refine iconstV X0.here hexec rfl 0 (hb hbytes d2) (by decide) ?_
    refine XS.aloadN X0.here hexec rfl (hb hbytes d3) rfl rfl ?_
    refine X0.alen hexec (hA.1.mv X0.warmed.alike hh0) rfl rfl (hb hbytes d4) ?_
    refine XS.aconstNull X0.here hexec rfl (hb hbytes d5) ?_
    exact Steps.refl _)
  obtain ⟨v3, T3, X3, E3, g3⟩ := X0.callN hexec (New4.law l a D fV fC b A z 0 A.slots.size) rfl hown (wks W (initW "java/lang/String" 27 New4.yN)) (W New4.tab (by simp only [site, List.mem_cons, List.mem_append, true_or, or_true])) (W := 0) (Nat.le_of_ble_eq_true rfl) (Nat.le_of_ble_eq_true rfl) (Nat.le_refl _) (by show 0 + A.slots.size ≤ A.slots.size; omega) (g := (mkF m 6 #[.val (.ref a), .val (.ref b)] [.null, .int (Int32.ofNat A.slots.size), .int (Int32.ofNat 0), .ref b, .ref a])) rfl (by rw [hml]; rfl) c2 (argsL := [.ref b, .int (Int32.ofNat 0), .int (Int32.ofNat A.slots.size), .null]) (rest := []) rfl rfl (by show 2 * 0 + 0 ≤ _; decide) (hb hbytes d6) (⟨rfl, hB.mv X0.warmed.alike hh0, f1.al X0.warmed.alike, f2.al X0.warmed.alike, hA.mv X0.warmed.alike hh0, s1.there X0.warmed.alike hh0, hz, l0, by omega, l2, fun i hi => by rw [Nat.zero_add]; exact hp i hi⟩)
  have e0 := Got.mv _ s₁ s _ _ hh0.symm (Vm.Alike.refl _) rfl E3
  obtain rfl := e0.1
  have c4 : Steps p.tables e below (s₁.setTop (entryFrame m #[.ref a, .ref b] 2)) (T3.setTop (mkF m 9 #[.val (.ref a), .val (.ref b)] [])) := g3
  exact ⟨T3, none, _, _, _, X3, by simp, rfl, by omega, (fun _ => rfl), e0, fun fs hl => c4.trans (X3.returnOut hexec hret (hb hbytes d9) hl)⟩
theorem pays {l : Launch} {R : Room} {p : Program} {e : Env} {below : List Frame} {s : State} {sargs : Array Value} {len W : Nat} (a : Addr) (D : Cell) (fV fC : Field) (b : Addr) (A : Cell) (z : Int32) (htab : tab.before sargs s = true) (hfr : 4 ≤ R.frames) (hlo : W + 65 ≤ R.locals) :
    Back l R p e below s sargs yN len W (fun A₁ a₁ => A₁.cells + 1 ≤ R.cells ∧ A₁.slots + A.slots.size ≤ R.slots ∧ P a D fV fC b A z a₁ A₁.U) (fun A₁ _ v₁ B₁ => E a D fV fC A v₁ A₁.U B₁.U ∧ B₁.locs = A₁.locs ++ [⟨a, fC.slot⟩, ⟨a, fV.slot⟩] ∧ B₁.cells = A₁.cells + 1 ∧ B₁.slots = A₁.slots + A.slots.size) :=
  (law l a D fV fC b A z).pays htab hfr (by omega)
end New1
/-- the byte, read back as charAt reads it, is the char -/
theorem lo8_mask {x : Int32} (h0 : ¬ x < 0) (h1 : ¬ 255 < x) : lo8 x &&& 255 = x := by
  have t : ∀ k : Fin 256, lo8 (Int32.ofNat k.val) &&& 255 = Int32.ofNat k.val := by decide +kernel
  rw [Int32.lt_iff_toInt_lt] at h0 h1
  have e0 : (0 : Int32).toInt = 0 := rfl
  have e1 : (255 : Int32).toInt = 255 := rfl
  obtain ⟨k, hk⟩ : ∃ k : Nat, x.toInt = k := ⟨x.toInt.toNat, by omega⟩
  have hx : x = Int32.ofNat k := Int32.toInt_inj.mp (by rw [hk, Int32.toInt_ofNat_small (by omega)])
  rw [hx]
  exact t ⟨k, by omega⟩
end StrChars
namespace StrChars.Road
open Jvm Sem ClassFile Op Lib Jvm.Stand Jvm.Free Jvm.Free.XT
open Jvm.Lib.Cold (StaticIs)
abbrev ST : String := "java/lang/String"
/-- every table word that New1's law asks, flat -/
abbrev words : List Jvm.Cond := [.code New1.yN New1.yB 2 none, .initialized ST, .methodLink ST 27 New4.yN, .instanceMethod New4.yN,
  .code New4.yN New4.yB 6 none, .fieldLink ST 38 ST "COMPACT_STRINGS" "Z", .laysFinal ST ST "value" "[B", .fieldLink ST 9 ST "value" "[B", .laysFinal ST ST "coder" "B", .fieldLink ST 15 ST "coder" "B",
  .methodLink ST 1 Lib.objectInit, .instanceMethod Lib.objectInit, .code Lib.objectInit ⟨#[0xb1]⟩ 1 none, .methodLink ST 177 Cmp3.yN, .static Cmp3.yN, .methodLink ST 47 CodL.yN, .static CodL.yN,
  .code Cmp3.yN Cmp3.yB 6 (some (.array .byte)), .initialized U16, .arrayClass .byte, .methodLink U16 115 Cmp5.yN, .static Cmp5.yN, .code Cmp5.yN Cmp5.yB 7 (some .int), .code CodL.yN CodL.yB 2 (some .byte)]
theorem tab_of {a : Array Value} {s : State} (h : ∀ w ∈ words, w.before a s = true) : New1.tab.before a s = true := by
  have h5 : Cmp5.tab.before a s = true := unparts (wk h (.code Cmp5.yN Cmp5.yB 7 (some .int))) (wks h (.initialized Cmp5.yN.cls :: Cmp5.site))
  have hc : CodL.tab.before a s = true := unparts (wk h (.code CodL.yN CodL.yB 2 (some .byte))) (wks h (.initialized CodL.yN.cls :: CodL.site))
  have q5 : ∀ w ∈ Cmp5.tab :: words, w.before a s = true := fun w hw => (List.mem_cons.mp hw).elim (fun e => e ▸ h5) (h w)
  have h3 : Cmp3.tab.before a s = true := unparts (wk q5 (.code Cmp3.yN Cmp3.yB 6 (some (.array .byte)))) (wks q5 (.initialized Cmp3.yN.cls :: Cmp3.site))
  have q3 : ∀ w ∈ Cmp3.tab :: CodL.tab :: words, w.before a s = true := fun w hw => (List.mem_cons.mp hw).elim (fun e => e ▸ h3) fun hw => (List.mem_cons.mp hw).elim (fun e => e ▸ hc) (h w)
  have h4 : New4.tab.before a s = true := unparts (wk q3 (.code New4.yN New4.yB 6 none)) (wks q3 (.initialized New4.yN.cls :: New4.site))
  have q4 : ∀ w ∈ New4.tab :: words, w.before a s = true := fun w hw => (List.mem_cons.mp hw).elim (fun e => e ▸ h4) (h w)
  exact unparts (wk q4 (.code New1.yN New1.yB 2 none)) (wks q4 (.initialized New1.yN.cls :: New1.site))
/-- the words ride from the start Z to the walk's own state -/
theorem moved {Z s : State} {a0 args : Array Value} (hZ : Z.Warmed39 s.vm) (hw : ∀ d ∈ words, d.before a0 Z = true) : ∀ d ∈ words, d.before args s = true := fun d hd => by
  have q := hw d hd
  have t : ∀ d ∈ words, d = .arrayClass .byte ∨ (d.onTables && d.keepsFace) = true := by decide +kernel
  rcases t d hd with rfl | t
  · exact RoadKit.mvA hZ q
  · exact RoadKit.mv hZ q t
/-- WHAT COMES BACK, over the tables of the start Z: h the heap at the call, h' behind it -/
def Q (Z : State) (x : Addr) (A : Cell) (h : Heap) (v : Option Value) (h' : Heap) (L : List Loc) : Prop := v = none ∧ (∀ y ∈ L, y.base = x) ∧ RoadKit.Keep h h' [x] ∧ h'.size = h.size + 1 ∧ RoadKit.Exa Z h' x ST ∧ RoadKit.Fld Z h' x ST "value" "[B" (.ref h.size) ∧ RoadKit.Fld Z h' x ST "coder" "B" (.int 0) ∧
  (∃ V : Cell, RoadKit.Arr Z h' h.size V .byte ∧ V.vm = .none ∧ Z.vm.findClass "[B" = some V.cls ∧ V.slots.size = A.slots.size ∧ ∀ j, j < A.slots.size → V.slots[j]? = some (.int (lo8 (cv A j)))) ∧
  ∀ (O n d : String) (w : Value), RoadKit.Fld Z h x O n d w → RoadKit.slotOf Z O n d ≠ RoadKit.slotOf Z ST "value" "[B" → RoadKit.slotOf Z O n d ≠ RoadKit.slotOf Z ST "coder" "B" → RoadKit.Fld Z h' x O n d w
/-- **new String(chars) AT A CALL, IN THE ROAD'S FORM**: for specialBack behind newO: x the fresh String, b the char[] with the cell A -/
theorem back {p : Program} {l : Launch} {e : Env} {R : Room} {s : State} {args : Array Value} {below : List Frame} {len W : Nat} {Z : State} {a0 : Array Value} {h : Heap} (hZ : Z.Warmed39 s.vm) (hw : ∀ d ∈ words, d.before a0 Z = true) {kI : Nat} (wi : (Jvm.Cond.instantiable ST kI).before a0 Z = true)
    {x b : Addr} {A : Cell} {z : Int32} {v0 c0 : Value} (E : RoadKit.Exa Z h x ST) (V : RoadKit.Fld Z h x ST "value" "[B" v0) (C : RoadKit.Fld Z h x ST "coder" "B" c0) (K : RoadKit.Arr Z h b A .char) (hty : Typed .char A) (S : RoadKit.Sta Z h ST "COMPACT_STRINGS" "Z" (.int z)) (hz : ¬ z = 0)
    (l0 : 0 < A.slots.size) (l2 : A.slots.size ≤ 536870912) (hp : ∀ i, i < A.slots.size → ¬ 255 < cv A i) (hfr : 4 ≤ R.frames) (hlo : W + 65 ≤ R.locals) :
    Back l R p e below s args New1.yN len W (fun P a => a = #[.ref x, .ref b] ∧ P.U.heap = h ∧ P.cells + 1 ≤ R.cells ∧ P.slots + A.slots.size ≤ R.slots)
      (fun P _ v B => ∃ L, Q Z x A h v B.U.heap L ∧ B.locs = P.locs ++ L ∧ B.cells = P.cells + 1 ∧ B.slots = P.slots + A.slots.size) := by
  intro m meth c P g ig mk a X hg hsize hdg hW hn hp'
  obtain ⟨rfl, rfl, r1, r2⟩ := hp'
  have al : Z.vm.Alike P.U.vm := hZ.alike.trans X.warmed.alike
  obtain ⟨D, cfV, kV, iV, fV, hD, gV, stV, knV, obV, asV, slV⟩ := id V
  obtain ⟨D', cfC, kC, iC, fC, hD', gC, stC, -, -, asC, slC⟩ := id C
  cases hD.symm.trans hD'
  obtain ⟨D2, kD, e1, e2, e3, e4, e5⟩ := id E
  cases hD.symm.trans e1
  obtain ⟨c2, k2, i1, i2, i3, -⟩ := Cond.instantiable_spec wi
  cases e2.symm.trans i1
  cases e3.symm.trans i2
  obtain ⟨kU, u1, u2⟩ := al.2.2 _ _ e3
  have hB : Blank ST x D P.U := ⟨hD, ⟨knV, fun q hq => by rw [hq] at obV; cases obV⟩, by rw [al.findClass]; exact e2, kU, u1, by rw [u2]; exact i3, by rw [u2]; exact e5 i3⟩
  have F1 : Found ST "value" "[B" fV P.U := ⟨SBG.found_only al ⟨cfV, kV, iV, gV⟩, stV⟩
  have F2 : Found ST "coder" "B" fC P.U := ⟨SBG.found_only al ⟨cfC, kC, iC, gC⟩, stC⟩
  have hA : Ch b A P.U := ⟨⟨K.1, State.isArrayOf_alike al K.2.1, K.2.2, by omega⟩, hty⟩
  have hS : StaticIs P.U ST "COMPACT_STRINGS" "Z" (.int z) := by
    obtain ⟨cfS, iS, kS, fS, st, cS, t1, t2, t3, t4, t5, t6, t7⟩ := S
    exact StaticIs.there (s := { Z with heap := P.U.heap }) ⟨cfS, iS, kS, fS, st, cS, t1, t2, t3, t4, t5, (fun q => by rw [q] at t6; cases t6), t7⟩ al rfl
  obtain ⟨v, B, X', ⟨⟨hv, E', V', q1, q2, q3, q4, q5, q6, q7, q8, q9, q10, q11⟩, hl, hc, hs⟩, st⟩ := New1.pays x D fV fC b A z (tab_of (moved hZ hw)) hfr hlo m meth c P g ig mk _ X hg hsize hdg hW hn ⟨r1, r2, rfl, hB, F1, F2, hA, hS, hz, l0, l2, hp⟩
  have al' : Z.vm.Alike B.U.vm := hZ.alike.trans X'.warmed.alike
  have hsz : E'.slots.size = D.slots.size := by
    obtain ⟨-, -, -, kB, w1, w2, w3⟩ := q1
    obtain ⟨kB', y1, y2⟩ := al'.2.2 _ _ e3
    rw [q2.2.1] at w1
    cases w1.symm.trans y1
    rw [w3, e5 i3, y2]
  refine ⟨v, B, X', ⟨_, ⟨hv, ?_, ⟨by omega, fun y cy hy hn' => q10 y cy (by simpa using hn') hy, fun y cy hy => ?_⟩, q11, ⟨E', _, q1.1, by rw [q2.2.1]; exact e2, by rw [q2.2.1]; exact e3, by rw [q2.1]; exact obV, fun _ => by rw [hsz]; exact e5 i3⟩,
    ⟨E', cfV, kV, iV, fV, q1.1, gV, stV, by rw [q2.1]; exact knV, by rw [q2.1]; exact obV, by rw [q2.2.1]; exact asV, q3⟩, ⟨E', cfC, kC, iC, fC, q1.1, gC, stC, by rw [q2.1]; exact knV, by rw [q2.1]; exact obV, by rw [q2.2.1]; exact asC, q4⟩,
    ⟨V', ⟨q5.1, State.isArrayOf_alike al'.symm q5.2.1, q5.2.2.1⟩, q6, by rw [← al'.findClass]; exact q7, q8, fun j hj => by have := q9 j hj; rwa [Nat.zero_add] at this⟩, fun O n d w F n1 n2 => ?_⟩, hl, hc, hs⟩, st⟩
  · intro y hy
    simp only [List.mem_cons, List.not_mem_nil, or_false] at hy
    rcases hy with rfl | rfl <;> rfl
  · by_cases q : y = x
    · subst q
      cases hD.symm.trans hy
      exact ⟨E', q1.1, q2.2.1, q2.1, hsz⟩
    · exact ⟨cy, q10 y cy q hy, rfl, rfl, rfl⟩
  · obtain ⟨D3, cf, k, i, f, g1, g2, g3, g4, g5, g6, g7⟩ := F
    cases hD.symm.trans g1
    simp only [RoadKit.slotOf, g2, gV, gC, Option.map_some, Option.getD_some] at n1 n2
    exact ⟨E', cf, k, i, f, q1.1, g2, g3, by rw [q2.1]; exact g4, by rw [q2.1]; exact g5, by rw [q2.2.1]; exact g6, by rw [q2.2.2 f.slot (by simp [n1, n2])]; exact g7⟩
end StrChars.Road
namespace StrChars.Road
open Jvm Sem ClassFile Op Lib Jvm.Stand Jvm.Free Jvm.Free.XT
/-- WHAT COMES BACK, the byte[] as a list of values -/
def QA (Z : State) (x : Addr) (zn : Int32) (cs : List Int32) (h : Heap) (v : Option Value) (h' : Heap) (L : List Loc) : Prop := v = none ∧ (∀ y ∈ L, y.base = x) ∧ RoadKit.Keep h h' [x] ∧ h'.size = h.size + 1 ∧ RoadKit.Exa Z h' x ST ∧ RoadKit.Fld Z h' x ST "value" "[B" (.ref h.size) ∧ RoadKit.Fld Z h' x ST "coder" "B" (.int 0) ∧
  (∃ kb, Z.vm.findClass "[B" = some kb ∧ RoadKit.Arv Z h' h.size kb .byte zn (cs.map fun c => .int (lo8 c)) (.int 0)) ∧
  ∀ (O n d : String) (w : Value), RoadKit.Fld Z h x O n d w → RoadKit.slotOf Z O n d ≠ RoadKit.slotOf Z ST "value" "[B" → RoadKit.slotOf Z O n d ≠ RoadKit.slotOf Z ST "coder" "B" → RoadKit.Fld Z h' x O n d w
/-- **new String(chars) AT A CALL, THE ARRAYS AS LISTS**: the char[] at b holds cs, not empty, no char above 255 -/
theorem backArv {p : Program} {l : Launch} {e : Env} {R : Room} {s : State} {args : Array Value} {below : List Frame} {len W : Nat} {Z : State} {a0 : Array Value} {h : Heap} (hZ : Z.Warmed39 s.vm) (hw : ∀ d ∈ words, d.before a0 Z = true) {kI : Nat} (wi : (Jvm.Cond.instantiable ST kI).before a0 Z = true)
    {x b : Addr} {k : ClassId} {zn z : Int32} {cs : List Int32} {dv v0 c0 : Value} (E : RoadKit.Exa Z h x ST) (V : RoadKit.Fld Z h x ST "value" "[B" v0) (C : RoadKit.Fld Z h x ST "coder" "B" c0) (K : RoadKit.Arv Z h b k .char zn (cs.map Value.int) dv) (S : RoadKit.Sta Z h ST "COMPACT_STRINGS" "Z" (.int z)) (hz : ¬ z = 0)
    (hlen : zn.toNatClampNeg = cs.length) (h0 : 0 < cs.length) (hbig : cs.length ≤ 536870912) (hall : ∀ c ∈ cs, ¬ 255 < c) (hfr : 4 ≤ R.frames) (hlo : W + 65 ≤ R.locals) :
    Back l R p e below s args New1.yN len W (fun P a => a = #[.ref x, .ref b] ∧ P.U.heap = h ∧ P.cells + 1 ≤ R.cells ∧ P.slots + cs.length ≤ R.slots)
      (fun P _ v B => ∃ L, QA Z x zn cs h v B.U.heap L ∧ B.locs = P.locs ++ L ∧ B.cells = P.cells + 1 ∧ B.slots = P.slots + cs.length) := by
  obtain ⟨A, K1, K2, K3, K4, K5, K6⟩ := K
  have e : A.slots.size = cs.length := K3.trans hlen
  have hat : ∀ (i : Nat) (hi : i < cs.length), A.slots[i]? = some (.int cs[i]) := fun i hi => by rw [K5 i (by omega)]; simp [List.getD_eq_getElem?_getD, hi]
  have hcv : ∀ (i : Nat) (hi : i < cs.length), cv A i = cs[i] := fun i hi => by unfold cv; rw [hat i hi]
  have hty : Typed .char A := fun i v hv => by
    have hi : i < A.slots.size := (Array.getElem?_eq_some_iff.mp hv).1
    have q := K5 i hi
    rw [hv] at q
    rw [Option.some.inj q]
    exact K6 i hi
  refine Back.mono (back hZ hw wi E V C K1 hty S hz (by omega) (by omega) (fun i hi => by rw [hcv i (by omega)]; exact hall _ (List.getElem_mem _)) hfr hlo) (fun P a hp => ⟨hp.1, hp.2.1, hp.2.2.1, by rw [e]; exact hp.2.2.2⟩) (fun P a v B hp hq => ?_)
  obtain ⟨L, ⟨q1, q2, q3, q4, q5, q6, q7, ⟨V', v1, v2, v3, v4, v5⟩, q9⟩, hl, hc, hs⟩ := hq
  refine ⟨L, ⟨q1, q2, q3, q4, q5, q6, q7, ⟨V'.cls, v3, V', v1, rfl, by rw [v4, e, hlen], K4, fun i hi => ?_, fun i hi => ?_⟩, q9⟩, hl, hc, by rw [hs, e]⟩
  · have hi' : i < cs.length := by omega
    rw [v5 i (by omega), hcv i hi']; simp [List.getD_eq_getElem?_getD, hi']
  · have hi' : i < cs.length := by omega
    simp only [List.getD_eq_getElem?_getD, List.getElem?_map, List.getElem?_eq_getElem hi', Option.map_some, Option.getD_some]
    exact fits_lo8 _
end StrChars.Road
namespace StrChars.Road
open Jvm Sem ClassFile Op Lib Jvm.Stand Jvm.Free Jvm.Free.XT
/-- WHAT COMES BACK, in the writer's own shape -/
def QV (Z : State) (x : Addr) (N : Int32) (bs : List Int32) (h : Heap) (n0 : Nat) (v : Option Value) (h' : Heap) (L : List Loc) : Prop := v = none ∧ RoadKit.Fr n0 L ∧ RoadKit.Keep h h' [x] ∧ RoadKit.Exa Z h' x ST ∧ RoadKit.Fld Z h' x ST "coder" "B" (.int 0) ∧
  ∃ (t : Addr) (kb : ClassId), n0 ≤ t ∧ h.size ≤ t ∧ ¬ t = x ∧ RoadKit.Fld Z h' x ST "value" "[B" (.ref t) ∧ RoadKit.Arv Z h' t kb .byte N (bs.map Value.int) (.int 0)
/-- **new String(chars) AT A CALL, FOR THE WRITER**: a char[] of n known ints, each 0 to 255 -/
theorem backV {p : Program} {l : Launch} {e : Env} {R : Room} {s : State} {args : Array Value} {below : List Frame} {len W : Nat} {Z : State} {a0 : Array Value} {h : Heap} (hZ : Z.Warmed39 s.vm) (hw : ∀ d ∈ words, d.before a0 Z = true) {kI : Nat} (wi : (Jvm.Cond.instantiable ST kI).before a0 Z = true)
    {x b : Addr} {kC : ClassId} {cs bs : List Int32} {d v0 c0 : Value} {z N : Int32} {n n0 : Nat} (hx0 : n0 ≤ x) (hh0 : n0 ≤ h.size) (E : RoadKit.Exa Z h x ST) (V : RoadKit.Fld Z h x ST "value" "[B" v0) (C : RoadKit.Fld Z h x ST "coder" "B" c0) (K : RoadKit.Arv Z h b kC .char N (cs.map Value.int) d) (S : RoadKit.Sta Z h ST "COMPACT_STRINGS" "Z" (.int z)) (hz : ¬ z = 0)
    (hn : cs.length = n) (hN : N = Int32.ofNat n) (l0 : 0 < n) (l2 : n ≤ 4000) (hp : ∀ c ∈ cs, ¬ c < 0 ∧ ¬ (255 : Int32) < c) (hb : bs = cs.map (fun c => c.toInt8.toInt32)) (hfr : 4 ≤ R.frames) (hlo : W + 65 ≤ R.locals) :
    Back l R p e below s args (⟨"java/lang/String", "<init>", "([C)V"⟩ : MethodName) len W (fun P a => a = #[.ref x, .ref b] ∧ P.U.heap = h ∧ P.cells + 1 ≤ R.cells ∧ P.slots + n ≤ R.slots)
      (fun P _ v B => ∃ L, QV Z x N bs h n0 v B.U.heap L ∧ B.locs = P.locs ++ L ∧ B.cells = P.cells + 1 ∧ B.slots = P.slots + n) := by
  subst hn hN hb
  refine Back.mono (backArv hZ hw wi E V C K S hz (n32 (by omega)) l0 (by omega) (fun c hc => (hp c hc).2) hfr hlo) (fun P a hp => hp) (fun P a v B hp hq => ?_)
  obtain ⟨L, ⟨q1, q2, q3, q4, q5, q6, q7, ⟨kb, v1, v2⟩, q9⟩, hl, hc, hs⟩ := hq
  exact ⟨L, ⟨q1, fun y hy => by rw [q2 y hy]; exact hx0, q3, q5, q7, h.size, kb, hh0, Nat.le_refl _, Nat.ne_of_gt E.lt, q6, by rw [List.map_map]; exact v2⟩, hl, hc, hs⟩
end StrChars.Road
namespace StrChars
open Jvm Sem ClassFile Op Lib Jvm.Stand Jvm.Free.XT Jvm.Free.ALB Jvm.Free.JM Jvm.Free
open Jvm.Lib.Cold (StaticIs)
def hi8 (x : Int32) : Int32 := lo8 (x >>> ((8 : Int32) &&& 31))
/-- what StringUTF16.getChar makes of two bytes -/
def pairCh (u v : Int32) : Int32 := (((u &&& 255) <<< ((0 : Int32) &&& 31)) ||| ((v &&& 255) <<< ((8 : Int32) &&& 31))).toUInt32.toUInt16.toUInt32.toInt32
theorem lo8_and (x : Int32) : (lo8 x &&& 255).toBitVec.toNat = x.toBitVec.toNat % 256 := by
  have h : (lo8 x).toBitVec = (x.toBitVec.signExtend 8).signExtend 32 := by rw [lo8, Int8.toBitVec_toInt32, Int32.toBitVec_toInt8]
  rw [Int32.toBitVec_and, BitVec.toNat_and, h]
  have e : ((x.toBitVec.signExtend 8).signExtend 32).toNat % 256 = x.toBitVec.toNat % 256 := by
    rw [BitVec.toNat_signExtend]
    have hlt := x.toBitVec.isLt
    simp only [BitVec.toNat_setWidth, BitVec.toNat_signExtend]
    split <;> split <;> omega
  rw [← e]
  exact Nat.and_two_pow_sub_one_eq_mod _ 8
theorem pair_says {c : Int32} (h0 : ¬ c < 0) (h1 : ¬ 65535 < c) : pairCh (lo8 c) (hi8 c) = c := by
  rw [Int32.lt_iff_toInt_lt] at h0 h1
  have e0 : (0 : Int32).toInt = 0 := rfl
  have e1 : (65535 : Int32).toInt = 65535 := rfl
  have hc : c.toInt = c.toBitVec.toNat := by
    have := c.toBitVec.isLt
    have e : c.toInt = c.toBitVec.toInt := rfl
    rw [e] at h0 h1
    rw [e]
    rw [BitVec.toInt_eq_toNat_cond] at h0 h1 ⊢
    split at h0 <;> split <;> omega
  have hn : c.toBitVec.toNat < 65536 := by omega
  have a1 := lo8_and c
  have a2 : (hi8 c &&& 255).toBitVec.toNat = c.toBitVec.toNat / 256 := by
    rw [hi8, lo8_and]
    have e : ((8 : Int32) &&& 31) = 8 := by decide
    rw [e, Int32.toBitVec_shiftRight]
    have e2 : ((8 : Int32).toBitVec.smod 32) = 8#32 := by decide
    rw [e2, BitVec.sshiftRight_eq', BitVec.toNat_sshiftRight_of_msb_false (by rw [BitVec.msb_eq_false_iff_two_mul_lt]; omega)]
    show c.toBitVec.toNat >>> 8 % 256 = _
    rw [Nat.shiftRight_eq_div_pow]
    omega
  unfold pairCh
  apply Int32.toBitVec_inj.mp
  apply BitVec.eq_of_toNat_eq
  have f0 : ((0 : Int32) &&& 31) = 0 := by decide
  have f8 : ((8 : Int32) &&& 31) = 8 := by decide
  rw [f0, f8]
  have g : (((lo8 c &&& 255) <<< (0 : Int32)) ||| ((hi8 c &&& 255) <<< (8 : Int32))).toBitVec.toNat = c.toBitVec.toNat := by
    rw [Int32.toBitVec_or, Int32.toBitVec_shiftLeft, Int32.toBitVec_shiftLeft]
    have s0 : ((0 : Int32).toBitVec.smod 32) = 0#32 := by decide
    have s8 : ((8 : Int32).toBitVec.smod 32) = 8#32 := by decide
    rw [s0, s8, BitVec.toNat_or]
    simp only [BitVec.shiftLeft_eq', BitVec.toNat_shiftLeft, a1, a2]
    show (c.toBitVec.toNat % 256) <<< 0 % 2 ^ 32 ||| (c.toBitVec.toNat / 256) <<< 8 % 2 ^ 32 = _
    rw [Nat.shiftLeft_zero, Nat.mod_eq_of_lt (show c.toBitVec.toNat % 256 < 2 ^ 32 by omega), Nat.mod_eq_of_lt (show (c.toBitVec.toNat / 256) <<< 8 < 2 ^ 32 by rw [Nat.shiftLeft_eq]; omega), Nat.or_comm, ← Nat.shiftLeft_add_eq_or_of_lt (by omega), Nat.shiftLeft_eq]
    omega
  show BitVec.toNat (((((lo8 c &&& 255) <<< (0 : Int32)) ||| ((hi8 c &&& 255) <<< (8 : Int32))).toBitVec.setWidth 16).setWidth 32) = _
  rw [BitVec.toNat_setWidth, BitVec.toNat_setWidth, g]
  omega
end StrChars
namespace StrChars
open Jvm Sem ClassFile Op Lib Jvm.Stand Jvm.Free.XT Jvm.Free.ALB Jvm.Free.JM Jvm.Free
open Jvm.Lib.Cold (StaticIs)
/-- the array's cell V codes the n chars f 0 .. f (n - 1) by the coder cd, as the JDK does: coder 1 just where some char is above 255 -/
def Cod (cd : Int32) (n : Nat) (f : Nat → Int32) (V : Cell) : Prop := (cd = 0 ∧ V.slots.size = n ∧ ∀ j, j < n → V.slots[j]? = some (.int (lo8 (f j))) ∧ ¬ 255 < f j) ∨ (cd = 1 ∧ V.slots.size = 2 * n ∧ (∀ j, j < n → V.slots[2 * j]? = some (.int (lo8 (f j))) ∧ V.slots[2 * j + 1]? = some (.int (hi8 (f j)))) ∧ ∃ j, j < n ∧ 255 < f j)
/-- **x is a String of the n chars f 0 .. f (n - 1)**, Latin-1 or UTF-16; its array at t has the cell V -/
def Txt (x t : Addr) (V : Cell) (cd : Int32) (n : Nat) (f : Nat → Int32) (U : State) : Prop := Exact "java/lang/String" x U ∧ Has x "java/lang/String" "value" "[B" (.ref t) U ∧ Has x "java/lang/String" "coder" "B" (.int cd) U ∧ XT.Arr .byte t V U ∧ Cod cd n f V ∧ ∀ j, j < n → ¬ f j < 0 ∧ ¬ 65535 < f j
theorem Txt.mv {x t : Addr} {V : Cell} {cd : Int32} {n : Nat} {f : Nat → Int32} {U U' : State} (h : Txt x t V cd n f U) (hal : U.vm.Alike U'.vm) (hh : U'.heap = U.heap) : Txt x t V cd n f U' := ⟨h.1.mv hal hh, h.2.1.mv hal hh, h.2.2.1.mv hal hh, h.2.2.2.1.mv hal hh, h.2.2.2.2⟩
end StrChars
namespace StrChars.Road
open Jvm Sem ClassFile Op Lib Jvm.Stand Jvm.Free Jvm.Free.XT
open Jvm.Lib.Cold (StaticIs)
theorem consq {a : Array Value} {s : State} {c : Jvm.Cond} {L : List Jvm.Cond} (h0 : c.before a s = true) (h : ∀ w ∈ L, w.before a s = true) : ∀ w ∈ c :: L, w.before a s = true := fun w hw => (List.mem_cons.mp hw).elim (fun e => e ▸ h0) (h w)
/-- the bytes of the chars cs, low before high -/
def wideBytes : List Int32 → List Value
  | [] => []
  | c :: cs => .int (lo8 c) :: .int (hi8 c) :: wideBytes cs
theorem wide_lo (d : Value) : ∀ (cs : List Int32) (j : Nat), j < cs.length → (wideBytes cs).getD (2 * j) d = .int (lo8 (cs.getD j 0))
  | [], j, h => absurd h (Nat.not_lt_zero j)
  | c :: cs, 0, _ => rfl
  | c :: cs, j + 1, h => by
    have q := wide_lo d cs j (by simpa using h)
    rw [show 2 * (j + 1) = 2 * j + 1 + 1 from by omega]
    simpa [wideBytes] using q
theorem wide_hi (d : Value) : ∀ (cs : List Int32) (j : Nat), j < cs.length → (wideBytes cs).getD (2 * j + 1) d = .int (hi8 (cs.getD j 0))
  | [], j, h => absurd h (Nat.not_lt_zero j)
  | c :: cs, 0, _ => rfl
  | c :: cs, j + 1, h => by
    have q := wide_hi d cs j (by simpa using h)
    rw [show 2 * (j + 1) + 1 = 2 * j + 1 + 1 + 1 from by omega]
    simpa [wideBytes] using q
theorem low_at (d : Value) (cs : List Int32) (j : Nat) (h : j < cs.length) : (cs.map fun c => Value.int (lo8 c)).getD j d = .int (lo8 (cs.getD j 0)) := by
  simp [List.getD_eq_getElem?_getD, h]
/-- an array of N2 bytes vs codes the chars cs by the coder cd -/
def CodA (cs : List Int32) (cd N2 : Int32) (vs : List Value) : Prop := (cd = 0 ∧ N2 = Int32.ofNat cs.length ∧ vs = (cs.map fun c => Value.int (lo8 c)) ∧ ∀ c ∈ cs, ¬ 255 < c) ∨ (cd = 1 ∧ N2 = Int32.ofNat (2 * cs.length) ∧ vs = wideBytes cs ∧ ∃ c ∈ cs, 255 < c)
theorem CodA.cod {cs : List Int32} {cd N2 : Int32} {vs : List Value} {V : Cell} (h : CodA cs cd N2 vs) (hn : 2 * cs.length < 2 ^ 31) (hs : V.slots.size = N2.toNatClampNeg) (hv : RoadKit.Has V vs (.int 0)) : Cod cd cs.length (fun j => cs.getD j 0) V := by
  rcases h with ⟨rfl, rfl, rfl, h⟩ | ⟨rfl, rfl, rfl, c, hc, hw⟩
  · rw [n32 (by omega)] at hs
    exact Or.inl ⟨rfl, hs, fun j hj => ⟨by rw [hv j (by omega), low_at _ _ _ hj], by
      have e : cs.getD j 0 = cs[j] := by simp [List.getD_eq_getElem?_getD, hj]
      show ¬ 255 < cs.getD j 0
      rw [e]; exact h _ (List.getElem_mem _)⟩⟩
  · rw [n32 (by omega)] at hs
    obtain ⟨j, hj, rfl⟩ := List.getElem_of_mem hc
    exact Or.inr ⟨rfl, hs, fun j hj => ⟨by rw [hv _ (by omega), wide_lo _ _ _ hj], by rw [hv _ (by omega), wide_hi _ _ _ hj]⟩, j, hj, by
      have e : cs.getD j 0 = cs[j] := by simp [List.getD_eq_getElem?_getD, hj]
      show 255 < cs.getD j 0
      rw [e]; exact hw⟩
/-- an object of exactly java/lang/String, its two fields found: as the laws ask it -/
theorem strObj {Z U : State} {a0 : Array Value} {kI : Nat} (wi : (Jvm.Cond.instantiable ST kI).before a0 Z = true) (al : Z.vm.Alike U.vm) {x : Addr} {v0 c0 : Value} (E : RoadKit.Exa Z U.heap x ST) (V : RoadKit.Fld Z U.heap x ST "value" "[B" v0) (C : RoadKit.Fld Z U.heap x ST "coder" "B" c0) :
    ∃ (D : Cell) (fV fC : Field), Blank ST x D U ∧ Found ST "value" "[B" fV U ∧ Found ST "coder" "B" fC U ∧ D.slots[fV.slot]? = some v0 ∧ D.slots[fC.slot]? = some c0 ∧ RoadKit.slotOf Z ST "value" "[B" = fV.slot ∧ RoadKit.slotOf Z ST "coder" "B" = fC.slot := by
  obtain ⟨D, cfV, kV, iV, fV, hD, gV, stV, knV, obV, asV, slV⟩ := V
  obtain ⟨D', cfC, kC, iC, fC, hD', gC, stC, -, -, asC, slC⟩ := C
  cases hD.symm.trans hD'
  obtain ⟨D2, kD, e1, e2, e3, e4, e5⟩ := E
  cases hD.symm.trans e1
  obtain ⟨c2, k2, i1, i2, i3, -⟩ := Cond.instantiable_spec wi
  cases e2.symm.trans i1
  cases e3.symm.trans i2
  obtain ⟨kU, u1, u2⟩ := al.2.2 _ _ e3
  exact ⟨D, fV, fC, ⟨hD, ⟨knV, fun q hq => by rw [hq] at obV; cases obV⟩, by rw [al.findClass]; exact e2, kU, u1, by rw [u2]; exact i3, by rw [u2]; exact e5 i3⟩, ⟨SBG.found_only al ⟨cfV, kV, iV, gV⟩, stV⟩, ⟨SBG.found_only al ⟨cfC, kC, iC, gC⟩, stC⟩, slV, slC, by simp [RoadKit.slotOf, gV], by simp [RoadKit.slotOf, gC]⟩
theorem sta_is {Z U : State} (al : Z.vm.Alike U.vm) {C n d : String} {v : Value} (S : RoadKit.Sta Z U.heap C n d v) : StaticIs U C n d v := by
  obtain ⟨cfS, iS, kS, fS, st, cS, t1, t2, t3, t4, t5, t6, t7⟩ := S
  exact StaticIs.there (s := { Z with heap := U.heap }) ⟨cfS, iS, kS, fS, st, cS, t1, t2, t3, t4, t5, (fun q => by rw [q] at t6; cases t6), t7⟩ al rfl
end StrChars.Road
namespace StrChars
open Jvm Sem ClassFile Op Lib Jvm.Stand Jvm.Free.XT Jvm.Free.ALB Jvm.Free.JM Jvm.Free
open Jvm.Lib.Cold (StaticIs)
/-- what place i of a byte[]'s cell holds -/
def yv (A : Cell) (i : Nat) : Int32 := match A.slots[i]? with | some (.int x) => x | _ => 0
theorem yv_get {a : Addr} {A : Cell} {U : State} (h : XT.Arr .byte a A U) (ht : Typed .byte A) {i : Nat} (hi : i < A.slots.size) : A.slots[i]? = some (.int (yv A i)) := by
  have e := Array.getElem?_eq_getElem hi
  have f := ht i _ e
  unfold yv; rw [e]
  generalize A.slots[i] = v at f
  cases v <;> simp [fits] at f ⊢
/-- the two arrays are equal, place for place -/
def EqC (A B : Cell) : Prop := A.slots.size = B.slots.size ∧ ∀ i, i < A.slots.size → yv A i = yv B i
/-- a boolean that says whether p -/
def Says01 (q : Prop) (r : Option Value) (s u : State) : Prop := ∃ v : Int32, r = some (.int v) ∧ u.heap = s.heap ∧ ((v = 1 ∧ q) ∨ (v = 0 ∧ ¬ q))
theorem Says01.mv {q : Prop} : ∀ r (U U' V V' : State), U'.heap = U.heap → V.vm.Alike V'.vm → V'.heap = V.heap → Says01 q r U V → Says01 q r U' V' :=
  fun r U U' V V' h1 _ h2 ⟨v, a, b, c⟩ => ⟨v, a, by rw [h1, h2]; exact b, c⟩
namespace LEq
def yN : MethodName := ⟨"java/lang/StringLatin1", "equals", "([B[B)Z"⟩
abbrev yB : ByteArray := jdk_43_method_13_code
theorem d0 : decode yB 0 = .ok (.aload_n 0, 1) := by decide +kernel
theorem d1 : decode yB 1 = .ok (.arraylength, 1) := by decide +kernel
theorem d2 : decode yB 2 = .ok (.aload_n 1, 1) := by decide +kernel
theorem d3 : decode yB 3 = .ok (.arraylength, 1) := by decide +kernel
theorem d4 : decode yB 4 = .ok (.if_icmp (.ne) 30, 3) := by decide +kernel
theorem d7 : decode yB 7 = .ok (.iconst 0, 1) := by decide +kernel
theorem d8 : decode yB 8 = .ok (.istore_n 2, 1) := by decide +kernel
theorem d9 : decode yB 9 = .ok (.iload_n 2, 1) := by decide +kernel
theorem d10 : decode yB 10 = .ok (.aload_n 0, 1) := by decide +kernel
theorem d11 : decode yB 11 = .ok (.arraylength, 1) := by decide +kernel
theorem d12 : decode yB 12 = .ok (.if_icmp (.ge) 20, 3) := by decide +kernel
theorem d15 : decode yB 15 = .ok (.aload_n 0, 1) := by decide +kernel
theorem d16 : decode yB 16 = .ok (.iload_n 2, 1) := by decide +kernel
theorem d17 : decode yB 17 = .ok (.baload, 1) := by decide +kernel
theorem d18 : decode yB 18 = .ok (.aload_n 1, 1) := by decide +kernel
theorem d19 : decode yB 19 = .ok (.iload_n 2, 1) := by decide +kernel
theorem d20 : decode yB 20 = .ok (.baload, 1) := by decide +kernel
theorem d21 : decode yB 21 = .ok (.if_icmp (.eq) 5, 3) := by decide +kernel
theorem d24 : decode yB 24 = .ok (.iconst 0, 1) := by decide +kernel
theorem d25 : decode yB 25 = .ok (.ireturn, 1) := by decide +kernel
theorem d26 : decode yB 26 = .ok (.iinc 2 1, 3) := by decide +kernel
theorem d29 : decode yB 29 = .ok (.goto (-20), 3) := by decide +kernel
theorem d32 : decode yB 32 = .ok (.iconst 1, 1) := by decide +kernel
theorem d33 : decode yB 33 = .ok (.ireturn, 1) := by decide +kernel
theorem d34 : decode yB 34 = .ok (.iconst 0, 1) := by decide +kernel
theorem d35 : decode yB 35 = .ok (.ireturn, 1) := by decide +kernel
def site : List Cond := []
def tab : Cond := tabOf yN yB 3 (some .boolean) site
def P (a : Addr) (A : Cell) (b : Addr) (B : Cell) (args : Array Value) (s : State) : Prop := args = #[.ref a, .ref b] ∧ XT.Arr .byte a A s ∧ Typed .byte A ∧ XT.Arr .byte b B s ∧ Typed .byte B
/-- whether two byte[] are equal, place for place -/
theorem law (l : Launch) (a : Addr) (A : Cell) (b : Addr) (B : Cell) : Law l yN 2 2 0 0 yB 3 (some .boolean) site (P a A b B) (Says01 (EqC A B)) [] 0 0 := by
  refine Law.of_walk (plainFor_of_name (by decide +kernel)) (by decide +kernel) (by decide +kernel) (by decide) (fun _ _ h => by rw [h.1]; rfl) (fun _ U U' hal hh h => ⟨h.1, h.2.1.mv hal hh, h.2.2.1, h.2.2.2.1.mv hal hh, h.2.2.2.2⟩) (fun r U U' V V' h1 hal h2 h => Says01.mv r U U' V V' h1 hal h2 h) ?_
  intro p e s m args below meth c s₁ X0 hexec hbytes hml hret hlk hnm hown hh0 W hP
  obtain ⟨rfl, hA, tA, hB, tB⟩ := hP
  have a31 := hA.2.2.2
  have b31 := hB.2.2.2
  have hA0 := hA.mv X0.warmed.alike hh0
  have hB0 := hB.mv X0.warmed.alike hh0
  have c1 : Steps p.tables e below (s₁.setTop (entryFrame m #[.ref a, .ref b] 3)) (s₁.setTop (mkF m 0 #[.val (.ref a), .val (.ref b), .unset] [])) := entry rfl
  have c2 : Steps p.tables e below (s₁.setTop (entryFrame m #[.ref a, .ref b] 3)) (s₁.setTop (mkF m 4 #[.val (.ref a), .val (.ref b), .unset] [.int (Int32.ofNat B.slots.size), .int (Int32.ofNat A.slots.size)])) := c1.trans (by
    refine XS.aloadN X0.here hexec rfl (hb hbytes d0) rfl rfl ?_
    refine X0.alen hexec hA0 rfl rfl (hb hbytes d1) ?_
    refine XS.aloadN X0.here hexec rfl (hb hbytes d2) rfl rfl ?_
    refine X0.alen hexec hB0 rfl rfl (hb hbytes d3) ?_
    exact Steps.refl _)
  by_cases hs : A.slots.size = B.slots.size
  · have c3 : Steps p.tables e below (s₁.setTop (entryFrame m #[.ref a, .ref b] 3)) (s₁.setTop (mkF m 9 #[.val (.ref a), .val (.ref b), .val (.int 0)] [])) := c2.trans (by
      refine XS.icmpNo X0.here hexec rfl (hb hbytes d4) rfl (ii_ne_f (by rw [hs])) ?_
      refine iconstV X0.here hexec rfl 0 (hb hbytes d7) (by decide) ?_
      refine XS.istoreN X0.here hexec rfl (hb hbytes d8) rfl rfl ?_
      exact Steps.refl _)
    have loop : ∀ (r i : Nat), i + r = A.slots.size → (∀ j, j < i → yv A j = yv B j) → Steps p.tables e below (s₁.setTop (entryFrame m #[.ref a, .ref b] 3)) (s₁.setTop (mkF m 9 #[.val (.ref a), .val (.ref b), .val (.int (Int32.ofNat i))] [])) → ∃ (pc : Nat) (Ls : Array Slot) (v : Int32), (pc = 25 ∨ pc = 33) ∧ ((v = 1 ∧ EqC A B) ∨ (v = 0 ∧ ¬ EqC A B)) ∧ Steps p.tables e below (s₁.setTop (entryFrame m #[.ref a, .ref b] 3)) (s₁.setTop (mkF m pc Ls [.int v])) := by
      intro r
      induction r with
      | zero =>
        intro i hi he cl
        exact ⟨33, _, 1, Or.inr rfl, Or.inl ⟨rfl, hs, fun j hj => he j (by omega)⟩, cl.trans (by
          refine XS.iloadN X0.here hexec rfl (hb hbytes d9) rfl ?_
          refine XS.aloadN X0.here hexec rfl (hb hbytes d10) rfl rfl ?_
          refine X0.alen hexec hA0 rfl rfl (hb hbytes d11) ?_
          refine XS.icmpYes X0.here hexec rfl (pc0 := 12) rfl (hb hbytes d12) rfl (ii_ge_t (nlt32 (by omega) (by omega))) (by decide) rfl ?_
          refine iconstV X0.here hexec rfl 1 (hb hbytes d32) (by decide) ?_
          exact Steps.refl _)⟩
      | succ r ih =>
        intro i hi he cl
        have c4 : Steps p.tables e below (s₁.setTop (entryFrame m #[.ref a, .ref b] 3)) (s₁.setTop (mkF m 21 #[.val (.ref a), .val (.ref b), .val (.int (Int32.ofNat i))] [.int (yv B i), .int (yv A i)])) := cl.trans (by
          refine XS.iloadN X0.here hexec rfl (hb hbytes d9) rfl ?_
          refine XS.aloadN X0.here hexec rfl (hb hbytes d10) rfl rfl ?_
          refine X0.alen hexec hA0 rfl rfl (hb hbytes d11) ?_
          refine XS.icmpNo X0.here hexec rfl (hb hbytes d12) rfl (ii_ge_f (lt32 (by omega) (by omega))) ?_
          refine XS.aloadN X0.here hexec rfl (hb hbytes d15) rfl rfl ?_
          refine XS.iloadN X0.here hexec rfl (hb hbytes d16) rfl ?_
          refine X0.aget hexec hA0 rfl (yv_get hA tA (i := i) (by omega)) rfl rfl (hb hbytes d17) ?_
          refine XS.aloadN X0.here hexec rfl (hb hbytes d18) rfl rfl ?_
          refine XS.iloadN X0.here hexec rfl (hb hbytes d19) rfl ?_
          refine X0.aget hexec hB0 rfl (yv_get hB tB (i := i) (by omega)) rfl rfl (hb hbytes d20) ?_
          exact Steps.refl _)
        by_cases hv : yv A i = yv B i
        · have c5 : Steps p.tables e below (s₁.setTop (entryFrame m #[.ref a, .ref b] 3)) (s₁.setTop (mkF m 9 #[.val (.ref a), .val (.ref b), .val (.int (Int32.ofNat i + 1))] [])) := c4.trans (by
            refine XS.icmpYes X0.here hexec rfl (pc0 := 21) rfl (hb hbytes d21) rfl (ii_eq_t hv) (by decide) rfl ?_
            refine iincV X0.here hexec rfl 1 (hb hbytes d26) (by decide) rfl rfl ?_
            refine XS.goto X0.here hexec rfl (pc0 := 29) rfl (hb hbytes d29) (by decide) rfl ?_
            exact Steps.refl _)
          rw [succ32] at c5
          exact ih (i + 1) (by omega) (fun j hj => by
            by_cases e : j = i
            · rw [e]; exact hv
            · exact he j (by omega)) c5
        · exact ⟨25, _, 0, Or.inl rfl, Or.inr ⟨rfl, fun q => hv (q.2 i (by omega))⟩, c4.trans (by
            refine XS.icmpNo X0.here hexec rfl (hb hbytes d21) rfl (ii_eq_f hv) ?_
            refine iconstV X0.here hexec rfl 0 (hb hbytes d24) (by decide) ?_
            exact Steps.refl _)⟩
    obtain ⟨pc, Ls, v, hpc, hv, cz⟩ := loop A.slots.size 0 (by omega) (fun j hj => absurd hj (Nat.not_lt_zero j)) c3
    have nv : narrow .boolean (.int v) = .int v := by rcases hv with ⟨rfl, -⟩ | ⟨rfl, -⟩ <;> rfl
    rcases hpc with rfl | rfl
    · exact ⟨s₁, some (.int v), _, _, _, X0, rfl, rfl, rfl, (fun h => by cases h), ⟨v, rfl, hh0, hv⟩, fun fs hl => cz.trans (X0.ireturnOut hexec hret nv (Or.inr (Or.inl rfl)) (hb hbytes d25) hl)⟩
    · exact ⟨s₁, some (.int v), _, _, _, X0, rfl, rfl, rfl, (fun h => by cases h), ⟨v, rfl, hh0, hv⟩, fun fs hl => cz.trans (X0.ireturnOut hexec hret nv (Or.inr (Or.inl rfl)) (hb hbytes d33) hl)⟩
  · have c3 : Steps p.tables e below (s₁.setTop (entryFrame m #[.ref a, .ref b] 3)) (s₁.setTop (mkF m 35 #[.val (.ref a), .val (.ref b), .unset] [.int 0])) := c2.trans (by
      refine XS.icmpYes X0.here hexec rfl (pc0 := 4) rfl (hb hbytes d4) rfl (ii_ne_t (ne32 a31 b31 hs)) (by decide) rfl ?_
      refine iconstV X0.here hexec rfl 0 (hb hbytes d34) (by decide) ?_
      exact Steps.refl _)
    exact ⟨s₁, some (.int 0), _, _, _, X0, rfl, rfl, rfl, (fun h => by cases h), ⟨0, rfl, hh0, Or.inr ⟨rfl, fun q => hs q.1⟩⟩, fun fs hl => c3.trans (X0.ireturnOut hexec hret rfl (Or.inr (Or.inl rfl)) (hb hbytes d35) hl)⟩
end LEq
theorem Cod.ty {cd : Int32} {n : Nat} {f : Nat → Int32} {V : Cell} (h : Cod cd n f V) : Typed .byte V := fun i v hv => by
  have hi : i < V.slots.size := (Array.getElem?_eq_some_iff.mp hv).1
  rcases h with ⟨-, k1, k2⟩ | ⟨-, k1, k2, -⟩
  · rw [(k2 i (by omega)).1] at hv; cases hv; exact fits_lo8 _
  · rcases Nat.mod_two_eq_zero_or_one i with e | e
    · obtain ⟨j, rfl⟩ : ∃ j, i = 2 * j := ⟨i / 2, by omega⟩
      rw [(k2 j (by omega)).1] at hv; cases hv; exact fits_lo8 _
    · obtain ⟨j, rfl⟩ : ∃ j, i = 2 * j + 1 := ⟨i / 2, by omega⟩
      rw [(k2 j (by omega)).2] at hv; cases hv; exact fits_lo8 _
/-- the same text -/
def SameT (n : Nat) (f : Nat → Int32) (k : Nat) (g : Nat → Int32) : Prop := n = k ∧ ∀ j, j < n → f j = g j
theorem lo8_inj {x y : Int32} (h0 : ¬ x < 0) (h1 : ¬ 255 < x) (k0 : ¬ y < 0) (k1 : ¬ 255 < y) (h : lo8 x = lo8 y) : x = y := by
  rw [← lo8_mask h0 h1, ← lo8_mask k0 k1, h]
/-- arrays coded by one coder are equal just where the texts are -/
theorem Cod.eqv {cd : Int32} {n k : Nat} {f g : Nat → Int32} {V V' : Cell} (h : Cod cd n f V) (h' : Cod cd k g V') (hf : ∀ j, j < n → ¬ f j < 0 ∧ ¬ 65535 < f j) (hg : ∀ j, j < k → ¬ g j < 0 ∧ ¬ 65535 < g j) : EqC V V' ↔ SameT n f k g := by
  have yvv : ∀ {W : Cell} {i : Nat} {x : Int32}, W.slots[i]? = some (.int x) → yv W i = x := fun q => by unfold yv; rw [q]
  rcases h with ⟨rfl, k1, k2⟩ | ⟨rfl, k1, k2, -⟩
  · rcases h' with ⟨-, m1, m2⟩ | ⟨e, -⟩
    · constructor
      · rintro ⟨e1, e2⟩
        refine ⟨by omega, fun j hj => ?_⟩
        have q := e2 j (by omega)
        rw [yvv (k2 j hj).1, yvv (m2 j (by omega)).1] at q
        exact lo8_inj (hf j hj).1 (k2 j hj).2 (hg j (by omega)).1 (m2 j (by omega)).2 q
      · rintro ⟨rfl, e2⟩
        refine ⟨by omega, fun j hj => ?_⟩
        rw [yvv (k2 j (by omega)).1, yvv (m2 j (by omega)).1, e2 j (by omega)]
    · exact absurd e (by decide)
  · rcases h' with ⟨e, -⟩ | ⟨-, m1, m2, -⟩
    · exact absurd e (by decide)
    · constructor
      · rintro ⟨e1, e2⟩
        refine ⟨by omega, fun j hj => ?_⟩
        have q1 := e2 (2 * j) (by omega)
        have q2 := e2 (2 * j + 1) (by omega)
        rw [yvv (k2 j hj).1, yvv (m2 j (by omega)).1] at q1
        rw [yvv (k2 j hj).2, yvv (m2 j (by omega)).2] at q2
        rw [← pair_says (hf j hj).1 (hf j hj).2, ← pair_says (hg j (by omega)).1 (hg j (by omega)).2, q1, q2]
      · rintro ⟨rfl, e2⟩
        refine ⟨by omega, fun i hi => ?_⟩
        rcases Nat.mod_two_eq_zero_or_one i with e | e
        · obtain ⟨j, rfl⟩ : ∃ j, i = 2 * j := ⟨i / 2, by omega⟩
          rw [yvv (k2 j (by omega)).1, yvv (m2 j (by omega)).1, e2 j (by omega)]
        · obtain ⟨j, rfl⟩ : ∃ j, i = 2 * j + 1 := ⟨i / 2, by omega⟩
          rw [yvv (k2 j (by omega)).2, yvv (m2 j (by omega)).2, e2 j (by omega)]
/-- two codings differ: so do the texts -/
theorem Cod.dif {cd cd' : Int32} {n k : Nat} {f g : Nat → Int32} {V V' : Cell} (h : Cod cd n f V) (h' : Cod cd' k g V') (hne : ¬ cd = cd') : ¬ SameT n f k g := by
  rintro ⟨rfl, e⟩
  rcases h with ⟨rfl, -, k2⟩ | ⟨rfl, -, -, j, hj, hw⟩
  · rcases h' with ⟨rfl, -⟩ | ⟨-, -, -, j, hj, hw⟩
    · exact hne rfl
    · exact (k2 j hj).2 (by rw [e j hj]; exact hw)
  · rcases h' with ⟨-, -, m2⟩ | ⟨rfl, -⟩
    · exact (m2 j hj).2 (by rw [← e j hj]; exact hw)
    · exact hne rfl
/-- an object of exactly C is an instance of C -/
theorem cinst {p : Program} {l : Launch} {e : Env} {R : Room} {s : State} {m : MethodId} {args : Array Value} {below : List Frame} {meth : Method} {c : Code} {T : State} {locs : List Loc} {cells slots : Nat} (X : Stand p l e R s m args below meth c T locs cells slots) (hexec : p.tables.exec = Jvm.exec) {own C : String} {index : Nat} (hown : s.vm.findClass own = some m.cls) (hlink : (Cond.classLink own index C).before args s = true) {a : Addr} (hE : Exact C a T)
    {g : JFrame} (hg : g.method = m) {rest : List Value} (hstack : g.stack = .ref a :: rest) (hdg : decode c.code g.pc = .ok (.instanceof index, 3)) :
    ∃ T', Stand p l e R s m args below meth c T' locs cells slots ∧ T'.heap = T.heap ∧ ∀ target, Steps p.tables e below (T'.setTop { g with pc := g.pc + 3, stack := .int 1 :: rest }) target → Steps p.tables e below (T.setTop g) target := by
  obtain ⟨cB, h1, D, h2, h3, h4⟩ := hE
  have h1' : s.vm.findClass C = some cB := by rw [← X.warmed.alike.findClass]; exact h1
  obtain ⟨vm', X', st⟩ := X.instanceofYes hexec hown hlink h2 h4 h1' (by rw [h3]; exact Jvm.Free.SB.assignable_self _ _) hg hstack hdg
  exact ⟨_, X', rfl, st⟩
theorem cself {p : Program} {l : Launch} {e : Env} {R : Room} {s : State} {m : MethodId} {args : Array Value} {below : List Frame} {meth : Method} {c : Code} {T : State} {locs : List Loc} {cells slots : Nat} (X : Stand p l e R s m args below meth c T locs cells slots) (hexec : p.tables.exec = Jvm.exec) {own C : String} {index : Nat} (hown : s.vm.findClass own = some m.cls) (hlink : (Cond.classLink own index C).before args s = true) {a : Addr} (hE : Exact C a T)
    {g : JFrame} (hg : g.method = m) {rest : List Value} (hstack : g.stack = .ref a :: rest) (hdg : decode c.code g.pc = .ok (.checkcast index, 3)) :
    ∃ T', Stand p l e R s m args below meth c T' locs cells slots ∧ T'.heap = T.heap ∧ ∀ target, Steps p.tables e below (T'.setTop { g with pc := g.pc + 3, stack := .ref a :: rest }) target → Steps p.tables e below (T.setTop g) target := by
  obtain ⟨cB, h1, D, h2, h3, h4⟩ := hE
  have h1' : s.vm.findClass C = some cB := by rw [← X.warmed.alike.findClass]; exact h1
  obtain ⟨vm', X', st⟩ := X.checkcastYes hexec hown hlink h2 h4 h1' (by rw [h3]; exact Jvm.Free.SB.assignable_self _ _) hg hstack hdg
  exact ⟨_, X', rfl, fun t h => st t (by rw [← hstack] at h; exact h)⟩
namespace SEq
def yN : MethodName := ⟨"java/lang/String", "equals", "(Ljava/lang/Object;)Z"⟩
abbrev yB : ByteArray := jdk_42_method_66_code
theorem d0 : decode yB 0 = .ok (.aload_n 0, 1) := by decide +kernel
theorem d1 : decode yB 1 = .ok (.aload_n 1, 1) := by decide +kernel
theorem d2 : decode yB 2 = .ok (.if_acmp (.ne) 5, 3) := by decide +kernel
theorem d5 : decode yB 5 = .ok (.iconst 1, 1) := by decide +kernel
theorem d6 : decode yB 6 = .ok (.ireturn, 1) := by decide +kernel
theorem d7 : decode yB 7 = .ok (.aload_n 1, 1) := by decide +kernel
theorem d8 : decode yB 8 = .ok (.instanceof 10, 3) := by decide +kernel
theorem d11 : decode yB 11 = .ok (.ifCond (.eq) 43, 3) := by decide +kernel
theorem d14 : decode yB 14 = .ok (.aload_n 1, 1) := by decide +kernel
theorem d15 : decode yB 15 = .ok (.checkcast 10, 3) := by decide +kernel
theorem d18 : decode yB 18 = .ok (.astore_n 2, 1) := by decide +kernel
theorem d19 : decode yB 19 = .ok (.getstatic 38, 3) := by decide +kernel
theorem d22 : decode yB 22 = .ok (.ifCond (.eq) 14, 3) := by decide +kernel
theorem d25 : decode yB 25 = .ok (.aload_n 0, 1) := by decide +kernel
theorem d26 : decode yB 26 = .ok (.getfield 15, 3) := by decide +kernel
theorem d29 : decode yB 29 = .ok (.aload_n 2, 1) := by decide +kernel
theorem d30 : decode yB 30 = .ok (.getfield 15, 3) := by decide +kernel
theorem d33 : decode yB 33 = .ok (.if_icmp (.ne) 21, 3) := by decide +kernel
theorem d36 : decode yB 36 = .ok (.aload_n 0, 1) := by decide +kernel
theorem d37 : decode yB 37 = .ok (.getfield 9, 3) := by decide +kernel
theorem d40 : decode yB 40 = .ok (.aload_n 2, 1) := by decide +kernel
theorem d41 : decode yB 41 = .ok (.getfield 9, 3) := by decide +kernel
theorem d44 : decode yB 44 = .ok (.invokestatic 541, 3) := by decide +kernel
theorem d47 : decode yB 47 = .ok (.ifCond (.eq) 7, 3) := by decide +kernel
theorem d50 : decode yB 50 = .ok (.iconst 1, 1) := by decide +kernel
theorem d51 : decode yB 51 = .ok (.goto 4, 3) := by decide +kernel
theorem d54 : decode yB 54 = .ok (.iconst 0, 1) := by decide +kernel
theorem d55 : decode yB 55 = .ok (.ireturn, 1) := by decide +kernel
def site : List Cond := [.classLink "java/lang/String" 10 "java/lang/String", .fieldLink "java/lang/String" 38 "java/lang/String" "COMPACT_STRINGS" "Z", .fieldLink "java/lang/String" 15 "java/lang/String" "coder" "B", .fieldLink "java/lang/String" 9 "java/lang/String" "value" "[B", LEq.tab] ++ staticW "java/lang/String" 541 LEq.yN
def tab : Cond := tabOf yN yB 3 (some .boolean) site
def P (x t : Addr) (V : Cell) (cd : Int32) (n : Nat) (f : Nat → Int32) (y t' : Addr) (V' : Cell) (cd' : Int32) (k : Nat) (g : Nat → Int32) (z : Int32) (args : Array Value) (s : State) : Prop := args = #[.ref x, .ref y] ∧ Txt x t V cd n f s ∧ Txt y t' V' cd' k g s ∧ StaticIs s "java/lang/String" "COMPACT_STRINGS" "Z" (.int z) ∧ ¬ z = 0
/-- equals(Object) of two Strings: whether the texts are the same -/
theorem law (l : Launch) (x t : Addr) (V : Cell) (cd : Int32) (n : Nat) (f : Nat → Int32) (y t' : Addr) (V' : Cell) (cd' : Int32) (k : Nat) (g : Nat → Int32) (z : Int32) : Law l yN 2 1 1 14 yB 3 (some .boolean) site (P x t V cd n f y t' V' cd' k g z) (Says01 (SameT n f k g)) [] 0 0 := by
  refine Law.of_walk (plainFor_of_name (by decide +kernel)) (by decide +kernel) (by decide +kernel) (by decide) (fun _ _ h => by rw [h.1]; rfl) (fun _ U U' hal hh h => ⟨h.1, h.2.1.mv hal hh, h.2.2.1.mv hal hh, h.2.2.2.1.there hal hh, h.2.2.2.2⟩) (fun r U U' V V' h1 hal h2 h => Says01.mv r U U' V V' h1 hal h2 h) ?_
  intro p e s m args below meth c s₁ X0 hexec hbytes hml hret hlk hnm hown hh0 W hP
  obtain ⟨rfl, hx, hy, s1, hz⟩ := hP
  have c1 : Steps p.tables e below (s₁.setTop (entryFrame m #[.ref x, .ref y] 3)) (s₁.setTop (mkF m 2 #[.val (.ref x), .val (.ref y), .unset] [.ref y, .ref x])) := Steps.trans (entry rfl) (by
    show Steps p.tables e below (s₁.setTop (mkF m 0 #[.val (.ref x), .val (.ref y), .unset] [])) _
    refine XS.aloadN X0.here hexec rfl (hb hbytes d0) rfl rfl ?_
    refine XS.aloadN X0.here hexec rfl (hb hbytes d1) rfl rfl ?_
    exact Steps.refl _)
  by_cases hxy : x = y
  · have c2 : Steps p.tables e below (s₁.setTop (entryFrame m #[.ref x, .ref y] 3)) (s₁.setTop (mkF m 6 #[.val (.ref x), .val (.ref y), .unset] [.int 1])) := c1.trans (by
      refine acmpNo X0.here hexec rfl (hb hbytes d2) rfl rfl rfl (by simp [acmp, hxy]) ?_
      refine iconstV X0.here hexec rfl 1 (hb hbytes d5) (by decide) ?_
      exact Steps.refl _)
    subst hxy
    have ec : cd = cd' := by
      obtain ⟨D, fd, a1, a2, a3⟩ := hx.2.2.1
      obtain ⟨D', fd', b1, b2, b3⟩ := hy.2.2.1
      cases a1.symm.trans b1
      obtain ⟨q1, q2, q3, q4⟩ := a2.1
      obtain ⟨r1, r2, r3, r4⟩ := b2.1
      cases q4.symm.trans r4
      cases a3.symm.trans b3; rfl
    have et : t = t' := by
      obtain ⟨D, fd, a1, a2, a3⟩ := hx.2.1
      obtain ⟨D', fd', b1, b2, b3⟩ := hy.2.1
      cases a1.symm.trans b1
      obtain ⟨q1, q2, q3, q4⟩ := a2.1
      obtain ⟨r1, r2, r3, r4⟩ := b2.1
      cases q4.symm.trans r4
      cases a3.symm.trans b3; rfl
    subst ec et
    have ev : V = V' := by cases hx.2.2.2.1.1.symm.trans hy.2.2.2.1.1; rfl
    subst ev
    have hs : SameT n f k g := (Cod.eqv hx.2.2.2.2.1 hy.2.2.2.2.1 hx.2.2.2.2.2 hy.2.2.2.2.2).mp ⟨rfl, fun _ _ => rfl⟩
    exact ⟨s₁, some (.int 1), _, _, _, X0, rfl, rfl, rfl, (fun h => by cases h), ⟨1, rfl, hh0, Or.inl ⟨rfl, hs⟩⟩, fun fs hl => c2.trans (X0.ireturnOut hexec hret rfl (Or.inr (Or.inl rfl)) (hb hbytes d6) hl)⟩
  · have c2 : Steps p.tables e below (s₁.setTop (entryFrame m #[.ref x, .ref y] 3)) (s₁.setTop (mkF m 8 #[.val (.ref x), .val (.ref y), .unset] [.ref y])) := c1.trans (by
      refine acmpYes X0.here hexec rfl (pc0 := 2) rfl (hb hbytes d2) rfl rfl rfl (by simp [acmp, hxy]) (by decide) rfl ?_
      refine XS.aloadN X0.here hexec rfl (hb hbytes d7) rfl rfl ?_
      exact Steps.refl _)
    obtain ⟨T3, X3, q3, st3⟩ := cinst X0 hexec hown (wk W (.classLink "java/lang/String" 10 "java/lang/String")) (hy.mv X0.warmed.alike hh0).1 (g := (mkF m 8 #[.val (.ref x), .val (.ref y), .unset] [.ref y])) rfl (rest := []) rfl (hb hbytes d8)
    have hh3 := q3.trans hh0
    have c4 : Steps p.tables e below (s₁.setTop (entryFrame m #[.ref x, .ref y] 3)) (T3.setTop (mkF m 15 #[.val (.ref x), .val (.ref y), .unset] [.ref y])) := (c2.trans (st3 _ (Steps.refl _))).trans (by
      refine XS.ifNo X3.here hexec rfl (hb hbytes d11) rfl (i0_eq_f (by decide)) ?_
      refine XS.aloadN X3.here hexec rfl (hb hbytes d14) rfl rfl ?_
      exact Steps.refl _)
    obtain ⟨T5, X5, q5, st5⟩ := cself X3 hexec hown (wk W (.classLink "java/lang/String" 10 "java/lang/String")) (hy.mv X3.warmed.alike hh3).1 (g := (mkF m 15 #[.val (.ref x), .val (.ref y), .unset] [.ref y])) rfl (rest := []) rfl (hb hbytes d15)
    have hh5 := q5.trans hh3
    have c6 : Steps p.tables e below (s₁.setTop (entryFrame m #[.ref x, .ref y] 3)) (T5.setTop (mkF m 19 #[.val (.ref x), .val (.ref y), .val (.ref y)] [])) := (c4.trans (st5 _ (Steps.refl _))).trans (by
      refine XS.astoreN X5.here hexec rfl (hb hbytes d18) rfl rfl rfl ?_
      exact Steps.refl _)
    obtain ⟨T7, X7, q7, st7⟩ := X5.sget hexec hown (wk W (.fieldLink "java/lang/String" 38 "java/lang/String" "COMPACT_STRINGS" "Z")) s1 (fun _ _ h => by rw [hh5]; exact h) (g := (mkF m 19 #[.val (.ref x), .val (.ref y), .val (.ref y)] [])) rfl (hb hbytes d19)
    have hh7 := q7.trans hh5
    have c8 : Steps p.tables e below (s₁.setTop (entryFrame m #[.ref x, .ref y] 3)) (T7.setTop (mkF m 26 #[.val (.ref x), .val (.ref y), .val (.ref y)] [.ref x])) := (c6.trans (st7 _ (Steps.refl _))).trans (by
      refine XS.ifNo X7.here hexec rfl (hb hbytes d22) rfl (i0_eq_f hz) ?_
      refine XS.aloadN X7.here hexec rfl (hb hbytes d25) rfl rfl ?_
      exact Steps.refl _)
    obtain ⟨T9, X9, q9, st9⟩ := X7.hget hexec hown (wk W (.fieldLink "java/lang/String" 15 "java/lang/String" "coder" "B")) (hx.mv X7.warmed.alike hh7).2.2.1 (g := (mkF m 26 #[.val (.ref x), .val (.ref y), .val (.ref y)] [.ref x])) rfl (rest := []) rfl (hb hbytes d26)
    have hh9 := q9.trans hh7
    have c10 : Steps p.tables e below (s₁.setTop (entryFrame m #[.ref x, .ref y] 3)) (T9.setTop (mkF m 30 #[.val (.ref x), .val (.ref y), .val (.ref y)] [.ref y, .int cd])) := (c8.trans (st9 _ (Steps.refl _))).trans (by
      refine XS.aloadN X9.here hexec rfl (hb hbytes d29) rfl rfl ?_
      exact Steps.refl _)
    obtain ⟨T11, X11, q11, st11⟩ := X9.hget hexec hown (wk W (.fieldLink "java/lang/String" 15 "java/lang/String" "coder" "B")) (hy.mv X9.warmed.alike hh9).2.2.1 (g := (mkF m 30 #[.val (.ref x), .val (.ref y), .val (.ref y)] [.ref y, .int cd])) rfl (rest := [.int cd]) rfl (hb hbytes d30)
    have hh11 := q11.trans hh9
    have c12 : Steps p.tables e below (s₁.setTop (entryFrame m #[.ref x, .ref y] 3)) (T11.setTop (mkF m 33 #[.val (.ref x), .val (.ref y), .val (.ref y)] [.int cd', .int cd])) := c10.trans (st11 _ (Steps.refl _))
    by_cases hcd : cd = cd'
    · subst hcd
      have c13 : Steps p.tables e below (s₁.setTop (entryFrame m #[.ref x, .ref y] 3)) (T11.setTop (mkF m 37 #[.val (.ref x), .val (.ref y), .val (.ref y)] [.ref x])) := c12.trans (by
        refine XS.icmpNo X11.here hexec rfl (hb hbytes d33) rfl (ii_ne_f rfl) ?_
        refine XS.aloadN X11.here hexec rfl (hb hbytes d36) rfl rfl ?_
        exact Steps.refl _)
      obtain ⟨T14, X14, q14, st14⟩ := X11.hget hexec hown (wk W (.fieldLink "java/lang/String" 9 "java/lang/String" "value" "[B")) (hx.mv X11.warmed.alike hh11).2.1 (g := (mkF m 37 #[.val (.ref x), .val (.ref y), .val (.ref y)] [.ref x])) rfl (rest := []) rfl (hb hbytes d37)
      have hh14 := q14.trans hh11
      have c15 : Steps p.tables e below (s₁.setTop (entryFrame m #[.ref x, .ref y] 3)) (T14.setTop (mkF m 41 #[.val (.ref x), .val (.ref y), .val (.ref y)] [.ref y, .ref t])) := (c13.trans (st14 _ (Steps.refl _))).trans (by
        refine XS.aloadN X14.here hexec rfl (hb hbytes d40) rfl rfl ?_
        exact Steps.refl _)
      obtain ⟨T16, X16, q16, st16⟩ := X14.hget hexec hown (wk W (.fieldLink "java/lang/String" 9 "java/lang/String" "value" "[B")) (hy.mv X14.warmed.alike hh14).2.1 (g := (mkF m 41 #[.val (.ref x), .val (.ref y), .val (.ref y)] [.ref y, .ref t])) rfl (rest := [.ref t]) rfl (hb hbytes d41)
      have hh16 := q16.trans hh14
      have c17 : Steps p.tables e below (s₁.setTop (entryFrame m #[.ref x, .ref y] 3)) (T16.setTop (mkF m 44 #[.val (.ref x), .val (.ref y), .val (.ref y)] [.ref t', .ref t])) := c15.trans (st16 _ (Steps.refl _))
      obtain ⟨v18, T18, X18, E18, g18⟩ := X16.callS hexec (LEq.law l t V t' V') hown (wks W (staticW "java/lang/String" 541 LEq.yN)) (wk W LEq.tab) (W := 0) (Nat.le_of_ble_eq_true rfl) (Nat.le_of_ble_eq_true rfl) (Nat.le_refl _) (Nat.le_refl _) (g := (mkF m 44 #[.val (.ref x), .val (.ref y), .val (.ref y)] [.ref t', .ref t])) rfl (by rw [hml]; rfl) c17 (argsL := [.ref t, .ref t']) (rest := []) rfl rfl (by show 2 * 0 + 0 ≤ _; decide) (hb hbytes d44) (⟨rfl, hx.2.2.2.1.mv X16.warmed.alike hh16, hx.2.2.2.2.1.ty, hy.2.2.2.1.mv X16.warmed.alike hh16, hy.2.2.2.2.1.ty⟩)
      obtain ⟨v, rfl, q18, hv⟩ := E18
      have iff := Cod.eqv hx.2.2.2.2.1 hy.2.2.2.2.1 hx.2.2.2.2.2 hy.2.2.2.2.2
      rcases hv with ⟨rfl, he⟩ | ⟨rfl, he⟩
      · have c19 : Steps p.tables e below (s₁.setTop (entryFrame m #[.ref x, .ref y] 3)) (T18.setTop (mkF m 55 #[.val (.ref x), .val (.ref y), .val (.ref y)] [.int 1])) := Steps.trans g18 (by
          refine XS.ifNo X18.here hexec rfl (hb hbytes d47) rfl (i0_eq_f (by decide)) ?_
          refine iconstV X18.here hexec rfl 1 (hb hbytes d50) (by decide) ?_
          refine XS.goto X18.here hexec rfl (pc0 := 51) rfl (hb hbytes d51) (by decide) rfl ?_
          exact Steps.refl _)
        exact ⟨T18, some (.int 1), _, _, _, X18, rfl, rfl, rfl, (fun h => by cases h), ⟨1, rfl, q18.trans hh16, Or.inl ⟨rfl, iff.mp he⟩⟩, fun fs hl => c19.trans (X18.ireturnOut hexec hret rfl (Or.inr (Or.inl rfl)) (hb hbytes d55) hl)⟩
      · have c19 : Steps p.tables e below (s₁.setTop (entryFrame m #[.ref x, .ref y] 3)) (T18.setTop (mkF m 55 #[.val (.ref x), .val (.ref y), .val (.ref y)] [.int 0])) := Steps.trans g18 (by
          refine XS.ifYes X18.here hexec rfl (pc0 := 47) rfl (hb hbytes d47) rfl (i0_eq_t rfl) (by decide) rfl ?_
          refine iconstV X18.here hexec rfl 0 (hb hbytes d54) (by decide) ?_
          exact Steps.refl _)
        exact ⟨T18, some (.int 0), _, _, _, X18, rfl, rfl, rfl, (fun h => by cases h), ⟨0, rfl, q18.trans hh16, Or.inr ⟨rfl, fun q => he (iff.mpr q)⟩⟩, fun fs hl => c19.trans (X18.ireturnOut hexec hret rfl (Or.inr (Or.inl rfl)) (hb hbytes d55) hl)⟩
    · have c13 : Steps p.tables e below (s₁.setTop (entryFrame m #[.ref x, .ref y] 3)) (T11.setTop (mkF m 55 #[.val (.ref x), .val (.ref y), .val (.ref y)] [.int 0])) := c12.trans (by
        refine XS.icmpYes X11.here hexec rfl (pc0 := 33) rfl (hb hbytes d33) rfl (ii_ne_t hcd) (by decide) rfl ?_
        refine iconstV X11.here hexec rfl 0 (hb hbytes d54) (by decide) ?_
        exact Steps.refl _)
      exact ⟨T11, some (.int 0), _, _, _, X11, rfl, rfl, rfl, (fun h => by cases h), ⟨0, rfl, hh11, Or.inr ⟨rfl, Cod.dif hx.2.2.2.2.1 hy.2.2.2.2.1 hcd⟩⟩, fun fs hl => c13.trans (X11.ireturnOut hexec hret rfl (Or.inr (Or.inl rfl)) (hb hbytes d55) hl)⟩
theorem pays {l : Launch} {R : Room} {p : Program} {e : Env} {below : List Frame} {s : State} {sargs : Array Value} {len W : Nat} (x t : Addr) (V : Cell) (cd : Int32) (n : Nat) (f : Nat → Int32) (y t' : Addr) (V' : Cell) (cd' : Int32) (k : Nat) (g : Nat → Int32) (z : Int32) (htab : tab.before sargs s = true) (hfr : 2 ≤ R.frames) (hlo : W + 28 ≤ R.locals) :
    Back l R p e below s sargs yN len W (fun A₁ a₁ => A₁.cells + 0 ≤ R.cells ∧ A₁.slots + 0 ≤ R.slots ∧ P x t V cd n f y t' V' cd' k g z a₁ A₁.U) (fun A₁ _ v₁ B₁ => Says01 (SameT n f k g) v₁ A₁.U B₁.U ∧ B₁.locs = A₁.locs ++ [] ∧ B₁.cells = A₁.cells + 0 ∧ B₁.slots = A₁.slots + 0) :=
  (law l x t V cd n f y t' V' cd' k g z).pays htab hfr (by omega)
end SEq
end StrChars
namespace StrChars.Road
open Jvm Sem ClassFile Op Lib Jvm.Stand Jvm.Free Jvm.Free.XT
open Jvm.Lib.Cold (StaticIs)
/-- the words of String.equals(Object) -/
abbrev wordsEq : List Jvm.Cond := [.code SEq.yN SEq.yB 3 (some .boolean), .initialized ST, .classLink ST 10 ST, .fieldLink ST 38 ST "COMPACT_STRINGS" "Z", .fieldLink ST 15 ST "coder" "B", .fieldLink ST 9 ST "value" "[B", .methodLink ST 541 LEq.yN, .static LEq.yN, .code LEq.yN LEq.yB 3 (some .boolean), .initialized "java/lang/StringLatin1"]
theorem tabEq_of {a : Array Value} {s : State} (h : ∀ w ∈ wordsEq, w.before a s = true) : SEq.tab.before a s = true := by
  have hl : LEq.tab.before a s = true := unparts (wk h (.code LEq.yN LEq.yB 3 (some .boolean))) (wks h (.initialized LEq.yN.cls :: LEq.site))
  have q := consq hl h
  exact unparts (wk q (.code SEq.yN SEq.yB 3 (some .boolean))) (wks q (.initialized SEq.yN.cls :: SEq.site))
theorem movedEq {Z s : State} {a0 args : Array Value} (hZ : Z.Warmed39 s.vm) (hw : ∀ d ∈ wordsEq, d.before a0 Z = true) : ∀ d ∈ wordsEq, d.before args s = true := fun d hd => by
  have t : ∀ d ∈ wordsEq, (d.onTables && d.keepsFace) = true := by decide +kernel
  exact RoadKit.mv hZ (hw d hd) (t d hd)
/-- the road's facts of a String, as the laws ask it -/
theorem txt_of {Z U : State} {a0 : Array Value} {kI : Nat} (wi : (Jvm.Cond.instantiable ST kI).before a0 Z = true) (al : Z.vm.Alike U.vm) {x t : Addr} {kb : ClassId} {cs : List Int32} {cd N2 : Int32} {vs : List Value} (E : RoadKit.Exa Z U.heap x ST) (V : RoadKit.Fld Z U.heap x ST "value" "[B" (.ref t)) (C : RoadKit.Fld Z U.heap x ST "coder" "B" (.int cd)) (K : RoadKit.Arv Z U.heap t kb .byte N2 vs (.int 0)) (hc : CodA cs cd N2 vs) (hb : ∀ c ∈ cs, ¬ c < 0 ∧ ¬ (65535 : Int32) < c) (l2 : cs.length ≤ 4000) :
    ∃ A, Txt x t A cd cs.length (fun j => cs.getD j 0) U := by
  obtain ⟨A, K1, K2, K3, K4, K5, K6⟩ := K
  have hcod := hc.cod (by omega) K3 K5
  obtain ⟨D, fV, fC, hB, F1, F2, g1, g2, -, -⟩ := strObj wi al E V C
  exact ⟨A, ⟨_, hB.2.2.1, D, hB.1, rfl, by cases q : D.vm <;> first | rfl | exact absurd q (hB.2.1.2 _)⟩, Has.of hB F1 g1, Has.of hB F2 g2, ⟨K1.1, State.isArrayOf_alike al K1.2.1, K1.2.2, by rcases hcod with ⟨-, q, -⟩ | ⟨-, q, -⟩ <;> omega⟩, hcod, fun j hj => by
    have e : cs.getD j 0 = cs[j] := by simp [List.getD_eq_getElem?_getD, hj]
    show ¬ cs.getD j 0 < 0 ∧ ¬ 65535 < cs.getD j 0
    rw [e]; exact hb _ (List.getElem_mem _)⟩
theorem same_list (cs ds : List Int32) : SameT cs.length (fun j => cs.getD j 0) ds.length (fun j => ds.getD j 0) ↔ cs = ds := by
  constructor
  · rintro ⟨e, q⟩
    refine List.ext_getElem e fun j h1 h2 => ?_
    have := q j h1
    simpa [List.getD_eq_getElem?_getD, h1, h2] using this
  · rintro rfl
    exact ⟨rfl, fun _ _ => rfl⟩
/-- **equals(Object) OF TWO SUCH STRINGS**: 1 just where the chars are the same -/
theorem eqW {p : Program} {l : Launch} {e : Env} {R : Room} {s : State} {args : Array Value} {below : List Frame} {len W : Nat} {Z : State} {a0 : Array Value} {h : Heap} (hZ : Z.Warmed39 s.vm) (hw : ∀ d ∈ wordsEq, d.before a0 Z = true) {kI : Nat} (wi : (Jvm.Cond.instantiable ST kI).before a0 Z = true)
    {x t : Addr} {kb : ClassId} {cs : List Int32} {cd N2 : Int32} {vs : List Value} (E : RoadKit.Exa Z h x ST) (V : RoadKit.Fld Z h x ST "value" "[B" (.ref t)) (C : RoadKit.Fld Z h x ST "coder" "B" (.int cd)) (K : RoadKit.Arv Z h t kb .byte N2 vs (.int 0)) (hc : CodA cs cd N2 vs) (hb : ∀ c ∈ cs, ¬ c < 0 ∧ ¬ (65535 : Int32) < c) (l2 : cs.length ≤ 4000)
    {y t' : Addr} {kb' : ClassId} {ds : List Int32} {cd' N2' : Int32} {vs' : List Value} (E' : RoadKit.Exa Z h y ST) (V' : RoadKit.Fld Z h y ST "value" "[B" (.ref t')) (C' : RoadKit.Fld Z h y ST "coder" "B" (.int cd')) (K' : RoadKit.Arv Z h t' kb' .byte N2' vs' (.int 0)) (hc' : CodA ds cd' N2' vs') (hb' : ∀ c ∈ ds, ¬ c < 0 ∧ ¬ (65535 : Int32) < c) (l2' : ds.length ≤ 4000)
    {z : Int32} (S : RoadKit.Sta Z h ST "COMPACT_STRINGS" "Z" (.int z)) (hz : ¬ z = 0) (hfr : 2 ≤ R.frames) (hlo : W + 28 ≤ R.locals) :
    Back l R p e below s args (⟨"java/lang/String", "equals", "(Ljava/lang/Object;)Z"⟩ : MethodName) len W (fun P a => a = #[.ref x, .ref y] ∧ P.U.heap = h ∧ P.cells + 0 ≤ R.cells ∧ P.slots + 0 ≤ R.slots)
      (fun P _ v B => ∃ L, (((v = some (.int 1) ∧ cs = ds) ∨ (v = some (.int 0) ∧ ¬ cs = ds)) ∧ L = [] ∧ B.U.heap = h) ∧ B.locs = P.locs ++ L ∧ B.cells = P.cells + 0 ∧ B.slots = P.slots + 0) := by
  intro m meth c P g ig mk a X hg hsize hdg hW hn hp'
  obtain ⟨rfl, rfl, r1, r2⟩ := hp'
  have al : Z.vm.Alike P.U.vm := hZ.alike.trans X.warmed.alike
  obtain ⟨A, hx⟩ := txt_of wi al E V C K hc hb l2
  obtain ⟨A', hy⟩ := txt_of wi al E' V' C' K' hc' hb' l2'
  obtain ⟨v, B, X', ⟨⟨w, hv, hh, hq⟩, hl, hk, hs⟩, st⟩ := SEq.pays x t A cd cs.length (fun j => cs.getD j 0) y t' A' cd' ds.length (fun j => ds.getD j 0) z (tabEq_of (movedEq hZ hw)) hfr hlo m meth c P g ig mk _ X hg hsize hdg hW hn ⟨r1, r2, rfl, hx, hy, sta_is al S, hz⟩
  refine ⟨v, B, X', ⟨[], ⟨?_, rfl, hh⟩, hl, hk, hs⟩, st⟩
  rcases hq with ⟨rfl, q⟩ | ⟨rfl, q⟩
  · exact Or.inl ⟨hv, (same_list cs ds).mp q⟩
  · exact Or.inr ⟨hv, fun e => q ((same_list cs ds).mpr e)⟩
end StrChars.Road
namespace StrChars.Road
open Jvm Sem ClassFile Op Lib Jvm.Stand Jvm.Free Jvm.Free.XT
open Jvm.Lib.Cold (StaticIs)
/-- what backV says of its String, as the contracts of this text ask it: cs's low bytes, coder 0 -/
theorem codOf {cs : List Int32} {n : Nat} (hn : cs.length = n) (hb : ∀ c ∈ cs, ¬ 255 < c) : CodA cs 0 (Int32.ofNat n) ((cs.map lo8).map Value.int) := Or.inl ⟨rfl, by rw [hn], by simp [List.map_map, Function.comp_def], hb⟩
end StrChars.Road
end Jvm.Pilot.@@N@@
namespace Jvm.Own
open Sem ClassFile Op Lib Jvm.Stand Jvm.Free Jvm.LawKit Jvm.RoadKit
/-- the walk goes on from here and ends in P -/
def Go (p : Program) (e : Env) (below : List Frame) (P : Outcome → State → Prop) (T : State) (g : JFrame) : Prop :=
  ∃ U o, Steps p.tables e below (T.setTop g) U ∧ U.status = .running ∧ Ended U below o ∧ P o U
abbrev PP (s : State) (Q : Option Value → Heap → List Loc → Prop) (K J : Nat) (o : Outcome) (U : State) : Prop := ∃ v L, o = .returned v ∧ Q v U.heap L ∧ FrameEnd s o U L K J
abbrev PS (Z : State) (EL : List (String × Nat)) (s : State) (Q : Option Value → Heap → List Loc → Prop) (K J : Nat) (o : Outcome) (U : State) : Prop := ∃ v L, o = .returned v ∧ Q v U.heap L ∧ CHr Z EL s.vm s.heap U.vm U.heap ∧ ReturnedEndW s o U L K J
abbrev CtP (l : Launch) (y : MethodName) (bytes : ByteArray) (mx : Nat) (ret : Option FieldType) (ws : List Jvm.Cond) (rm : Room) (Z : State) (as' : Array Value) (h0 : Heap) (Q : Option Value → Heap → List Loc → Prop) : Prop :=
  MetFree l y (head1 (Jvm.Cond.code y bytes mx ret :: ws) rm) (fun a U => a = as' ∧ Z.Warmed39 U.vm ∧ U.heap = h0) (fun _ _ _ _ _ => True) (fun _ U o U' => PP U Q rm.cells rm.slots o U')
abbrev CtS (l : Launch) (y : MethodName) (bytes : ByteArray) (mx : Nat) (ret : Option FieldType) (ws : List Jvm.Cond) (rm : Room) (Z : State) (EL : List (String × Nat)) (SL : List Addr) (as' : Array Value) (h0 : Heap) (Q : Option Value → Heap → List Loc → Prop) : Prop :=
  MetFree l y (head1 (Jvm.Cond.code y bytes mx ret :: ws) rm) (fun a U => a = as' ∧ Z.Warmed39 U.vm ∧ U.heap = h0 ∧ CHv Z EL U.vm h0 ∧ ∀ x ∈ SL, Safe Z EL U.vm h0 x) (fun _ _ _ _ _ => True) (fun _ U o U' => PS Z EL U Q rm.cells rm.slots o U')
abbrev PL (s : State) (Q : Option Value → Heap → List Loc → Prop) (K J : Nat) (o : Outcome) (U : State) : Prop := ∃ v L, o = .returned v ∧ Q v U.heap L ∧ ReturnedEndW s o U L K J
abbrev CtL (l : Launch) (y : MethodName) (bytes : ByteArray) (mx : Nat) (ret : Option FieldType) (ws : List Jvm.Cond) (rm : Room) (Z : State) (EL : List (String × Nat)) (as' : Array Value) (h0 : Heap) (Q : Option Value → Heap → List Loc → Prop) : Prop :=
  MetFree l y (head1 (Jvm.Cond.code y bytes mx ret :: ws) rm) (fun a U => a = as' ∧ Z.Warmed39 U.vm ∧ U.heap = h0 ∧ CHv Z EL U.vm h0) (fun _ _ _ _ _ => True) (fun _ U o U' => PL U Q rm.cells rm.slots o U')
abbrev Pays (l : Launch) (R : Room) (p : Program) (e : Env) (below : List Frame) (s : State) (args : Array Value) (y : MethodName) (len W : Nat) (as' : Array Value) (h : Heap) (k j : Nat) (Q : Option Value → Heap → List Loc → Prop) : Prop :=
  Back l R p e below s args y len W (fun A a => a = as' ∧ A.U.heap = h ∧ A.cells + k ≤ R.cells ∧ A.slots + j ≤ R.slots) (fun A _ v B => ∃ L, Q v B.U.heap L ∧ B.locs = A.locs ++ L ∧ B.cells = A.cells + k ∧ B.slots = A.slots + j)
abbrev PaysS (l : Launch) (R : Room) (p : Program) (e : Env) (below : List Frame) (s : State) (vm0 : Vm) (args : Array Value) (y : MethodName) (len W : Nat) (as' : Array Value) (h : Heap) (k j : Nat) (Z : State) (EL : List (String × Nat)) (Q : Option Value → Heap → List Loc → Prop) : Prop :=
  BackS l R p e below (s.setVm vm0) args y len W (fun A a => a = as' ∧ A.U.heap = h ∧ A.cells + k ≤ R.cells ∧ A.slots + j ≤ R.slots) (fun A _ v B => ∃ L, Q v B.U.heap L ∧ B.locs = A.locs ++ L ∧ B.cells = A.cells + k ∧ B.slots = A.slots + j ∧ CHr Z EL vm0 h B.U.vm B.U.heap)
section Own
variable {p : Program} {l : Launch} {e : Env} {R : Room} {s : State} {m : MethodId} {args : Array Value} {below : List Frame} {meth : Method} {c : Code} {T : State} {locs : List Loc} {cells slots : Nat} {P : Outcome → State → Prop} {pc : Nat} {Ls : Array Slot} {st : List Value} {Z : State} {a0 : Array Value} {h : Heap} {EL : List (String × Nat)} {vm0 : Vm} {k0 : Nat} {SL : List Addr} {Q : Option Value → Heap → List Loc → Prop}
theorem Go.of {T' : State} {g g' : JFrame} (h : ∀ t, Steps p.tables e below (T'.setTop g') t → Steps p.tables e below (T.setTop g) t) (k : Go p e below P T' g') : Go p e below P T g := by
  obtain ⟨U, o, h1, h2⟩ := k
  exact ⟨U, o, h _ h1, h2⟩
theorem Go.tr {T' : State} {g g' : JFrame} (h : Steps p.tables e below (T.setTop g) (T'.setTop g')) (k : Go p e below P T' g') : Go p e below P T g := Go.of (fun _ q => h.trans q) k
theorem CtP.walk {y : MethodName} {bytes : ByteArray} {mx : Nat} {ret : Option FieldType} {ws : List Jvm.Cond} {rm : Room} {as' : Array Value} {h0 : Heap} (hpn : plainFor y = true) (hef : ∀ m, entryFrame m as' mx = mkF m 0 Ls [])
    (k : ∀ (p : Program) (e : Env) (s : State) (m : MethodId) (below : List Frame) (meth : Method) (c : Code) (T : State), p.tables.exec = Jvm.exec → c.code = bytes → c.maxLocals = mx → s.vm.findClass y.cls = some m.cls → meth.name = y.name → meth.sig.returnType = ret → meth.locks = false → Z.Warmed39 s.vm →
      Stand p l e rm s m as' below meth c T [] 0 0 → T.heap = h0 → Go p e below (PP s Q rm.cells rm.slots) T (mkF m 0 Ls [])) : CtP l y bytes mx ret ws rm Z as' h0 Q := by
  refine MetFree.of_bodySF hpn hisR ?_
  intro p e s m args below meth c s₁ Bd hml hP hK
  obtain ⟨rfl, hZ, hh⟩ := hP
  obtain ⟨U, o, h1, h2, h3, h4⟩ := k p e s m below meth c s₁ Bd.exec Bd.bytes hml (findClass_of_methodNamed Bd.named) (name_of_methodNamed Bd.named Bd.method).1 Bd.returns Bd.notSynchronized hZ (Stand.of_body Bd) (by rw [← hh, Bd.state]; rfl)
  exact ⟨U, o, castTop (hef m) h1, h2, h3, h4⟩
theorem CtS.walk {y : MethodName} {bytes : ByteArray} {mx : Nat} {ret : Option FieldType} {ws : List Jvm.Cond} {rm : Room} {as' : Array Value} {h0 : Heap} (hpn : plainFor y = true) (hef : ∀ m, entryFrame m as' mx = mkF m 0 Ls [])
    (k : ∀ (p : Program) (e : Env) (s : State) (m : MethodId) (below : List Frame) (meth : Method) (c : Code) (T : State) (vm : Vm) (k0 : Nat), p.tables.exec = Jvm.exec → c.code = bytes → c.maxLocals = mx → vm.findClass y.cls = some m.cls → meth.name = y.name → meth.sig.returnType = ret → meth.locks = false → Z.Warmed39 vm →
      Stand p l e rm (s.setVm vm) m as' below meth c T [] 0 0 → T.heap = h0 → s.Since vm k0 → k0 ≤ h0.size → CHr Z EL s.vm s.heap vm h0 → (∀ x ∈ SL, Safe Z EL vm h0 x) → Go p e below (PS Z EL s Q rm.cells rm.slots) T (mkF m 0 Ls [])) : CtS l y bytes mx ret ws rm Z EL SL as' h0 Q := by
  refine MetFree.of_bodySF hpn hisR ?_
  intro p e s m args below meth c s₁ Bd hml hP hK
  obtain ⟨rfl, hZ, hh, hC, hSL⟩ := hP
  obtain ⟨U, o, h1, h2, h3, h4⟩ := k p e s m below meth c s₁ s.vm h0.size Bd.exec Bd.bytes hml (findClass_of_methodNamed Bd.named) (name_of_methodNamed Bd.named Bd.method).1 Bd.returns Bd.notSynchronized hZ (Stand.of_body Bd) (by rw [← hh, Bd.state]; rfl) ((State.WarmedH.refl s).since _) (Nat.le_refl _) (by rw [hh]; exact CHr.refl hC) hSL
  exact ⟨U, o, castTop (hef m) h1, h2, h3, h4⟩
theorem CtL.walk {y : MethodName} {bytes : ByteArray} {mx : Nat} {ret : Option FieldType} {ws : List Jvm.Cond} {rm : Room} {as' : Array Value} {h0 : Heap} (hpn : plainFor y = true) (hef : ∀ m, entryFrame m as' mx = mkF m 0 Ls [])
    (k : ∀ (p : Program) (e : Env) (s : State) (m : MethodId) (below : List Frame) (meth : Method) (c : Code) (T : State) (vm : Vm) (k0 : Nat), p.tables.exec = Jvm.exec → c.code = bytes → c.maxLocals = mx → vm.findClass y.cls = some m.cls → meth.name = y.name → meth.sig.returnType = ret → meth.locks = false → Z.Warmed39 vm →
      Stand p l e rm (s.setVm vm) m as' below meth c T [] 0 0 → T.heap = h0 → s.Since vm k0 → k0 ≤ h0.size → CHr Z EL s.vm s.heap vm h0 → Go p e below (PL s Q rm.cells rm.slots) T (mkF m 0 Ls [])) : CtL l y bytes mx ret ws rm Z EL as' h0 Q := by
  refine MetFree.of_bodySF hpn hisR ?_
  intro p e s m args below meth c s₁ Bd hml hP hK
  obtain ⟨rfl, hZ, hh, hC⟩ := hP
  obtain ⟨U, o, h1, h2, h3, h4⟩ := k p e s m below meth c s₁ s.vm h0.size Bd.exec Bd.bytes hml (findClass_of_methodNamed Bd.named) (name_of_methodNamed Bd.named Bd.method).1 Bd.returns Bd.notSynchronized hZ (Stand.of_body Bd) (by rw [← hh, Bd.state]; rfl) ((State.WarmedH.refl s).since _) (Nat.le_refl _) (by rw [hh]; exact CHr.refl hC)
  exact ⟨U, o, castTop (hef m) h1, h2, h3, h4⟩
theorem payP {y : MethodName} {bytes : ByteArray} {mx : Nat} {ret : Option FieldType} {rm : Room} {as' : Array Value} {len W : Nat} (hM : CtP l y bytes mx ret [] rm Z as' h Q) (hZ : Z.Warmed39 s.vm) (wc : (Jvm.Cond.code y bytes mx ret).before a0 Z = true) (wz : (Jvm.Cond.initialized y.cls).before a0 Z = true) (hf : rm.frames + 1 ≤ R.frames) (hl : W + (mx + 11) + rm.locals ≤ R.locals) :
    Pays l R p e below s args y len W as' h rm.cells rm.slots Q := backOf hM hZ wc wz hf hl
theorem payS {y : MethodName} {bytes : ByteArray} {mx : Nat} {ret : Option FieldType} {rm : Room} {as' : Array Value} {len W : Nat} (hM : CtS l y bytes mx ret [] rm Z EL SL as' h Q) (hZ : Z.Warmed39 vm0) (wc : (Jvm.Cond.code y bytes mx ret).before a0 Z = true) (wz : (Jvm.Cond.initialized y.cls).before a0 Z = true) (hf : rm.frames + 1 ≤ R.frames) (hl : W + (mx + 11) + rm.locals ≤ R.locals) (hEL : EW Z a0 EL) (H : CHv Z EL vm0 h) (hSL : ∀ x ∈ SL, x < h.size ∧ Safe Z EL vm0 h x) :
    PaysS l R p e below s vm0 args y len W as' h rm.cells rm.slots Z EL Q :=
  BackS.of_freeW (bytes := bytes) (maxL := mx) (ret := ret) (E := fun _ first o t L k n => k = rm.cells ∧ n = rm.slots ∧ (∃ v, o = .returned v ∧ Q v t.heap L) ∧ CHr Z EL first.vm first.heap t.vm t.heap) hM hf hl
    (fun m meth c A a Y hp => have hU : Z.Warmed39 A.U.vm := wtrans (s := s.setVm vm0) hZ Y.warmed
      ⟨by show (Jvm.Cond.and _ .tt).before a A.U = true; rw [Jvm.Cond.before_and, mv hU wc]; rfl, mv hU wc, mv hU wz, hp.2.2.1, hp.2.2.2⟩)
    (fun m meth c A a g mk Y hp => ⟨hp.1, wtrans (s := s.setVm vm0) hZ Y.warmed, hp.2.1, (CHv.at Y hZ hEL H).1, fun x hx => (CHv.at Y hZ hEL H).safe (hSL x hx).1 (hSL x hx).2⟩) (fun _ _ _ _ _ _ _ _ _ => trivial)
    (fun _ _ _ _ ⟨v, L, h1, h2, h3, h4⟩ => ⟨L, _, _, h4, rfl, rfl, ⟨v, h1, h2⟩, h3⟩)
    (fun m meth c A a g mk v t L k n Y hp _ _ ⟨e1, e2, ⟨v', e3, e4⟩, e5⟩ => by
      cases e3; subst e1 e2
      refine ⟨L, e4, rfl, rfl, rfl, (CHv.at Y hZ hEL H).trans ?_⟩
      rw [← hp.2.1]; exact e5)
/-! the ends -/
theorem gRetP {w : Value} {t : FieldType} {i : Instr} {K J : Nat} (X : Stand p l e R s m args below meth c T locs cells slots) (hx : p.tables.exec = Jvm.exec) (hlk : meth.locks = false) (hret : meth.sig.returnType = some t) (hn : narrow t w = w)
    (hi : (i = .ireturn ∧ (t = .int ∨ t = .boolean ∨ t = .byte ∨ t = .char ∨ t = .short) ∧ ∃ z, w = .int z) ∨ (i = .lreturn ∧ t = .long ∧ ∃ z, w = .long z) ∨ (i = .dreturn ∧ t = .double ∧ ∃ z, w = .double z) ∨ (i = .freturn ∧ t = .float ∧ ∃ z, w = .float z) ∨ (i = .areturn ∧ t.isReference = true ∧ w.isRef = true))
    (hd : decode c.code pc = .ok (i, 1)) (eT : T.heap = h) (hK : cells ≤ K) (hJ : slots ≤ J) (hQ : Q (some w) h locs) : Go p e below (PP s Q K J) T (mkF m pc Ls (w :: st)) := by
  obtain ⟨fs, hr, hrun, hended, hW, hsame⟩ := X.leave (v := some w) (fun h => by rw [hret] at h; cases h)
  exact ⟨_, _, retOut X hx hret hn hi hd hr, hrun, hended, _, _, rfl, by show Q (some w) T.heap locs; rw [eT]; exact hQ, ⟨_, rfl⟩, hW, hsame.mono hK hJ⟩
theorem gRetP0 {K J : Nat} (X : Stand p l e R s m args below meth c T locs cells slots) (hx : p.tables.exec = Jvm.exec) (hlk : meth.locks = false) (hret : meth.sig.returnType = none)
    (hd : decode c.code pc = .ok (.return_, 1)) (eT : T.heap = h) (hK : cells ≤ K) (hJ : slots ≤ J) (hQ : Q none h locs) : Go p e below (PP s Q K J) T (mkF m pc Ls []) := by
  obtain ⟨fs, hr, hrun, hended, hW, hsame⟩ := X.leave (v := none) (fun _ => rfl)
  exact ⟨_, _, X.returnOut hx hret hd hr, hrun, hended, _, _, rfl, by show Q none T.heap locs; rw [eT]; exact hQ, ⟨_, rfl⟩, hW, hsame.mono hK hJ⟩
theorem monoW {s t : State} {o : Outcome} {L : List Loc} {k n K J : Nat} (q : ReturnedEndW s o t L k n) (hK : k ≤ K) (hJ : n ≤ J) : ReturnedEndW s o t L K J := ⟨q.1, q.2.1, q.2.2.1, q.2.2.2.mono hK hJ⟩
theorem gRetS {w : Value} {t : FieldType} {i : Instr} {K J : Nat} (X : Stand p l e R (s.setVm vm0) m args below meth c T locs cells slots) (hx : p.tables.exec = Jvm.exec) (hlk : meth.locks = false) (hret : meth.sig.returnType = some t) (hn : narrow t w = w)
    (hi : (i = .ireturn ∧ (t = .int ∨ t = .boolean ∨ t = .byte ∨ t = .char ∨ t = .short) ∧ ∃ z, w = .int z) ∨ (i = .lreturn ∧ t = .long ∧ ∃ z, w = .long z) ∨ (i = .dreturn ∧ t = .double ∧ ∃ z, w = .double z) ∨ (i = .freturn ∧ t = .float ∧ ∃ z, w = .float z) ∨ (i = .areturn ∧ t.isReference = true ∧ w.isRef = true))
    (hd : decode c.code pc = .ok (i, 1)) (eT : T.heap = h) (hS : s.Since vm0 k0) (hk : k0 ≤ h.size) (hZ : Z.Warmed39 vm0) (hEL : EW Z a0 EL) (C : CHr Z EL s.vm s.heap vm0 h) (hK : cells ≤ K) (hJ : slots ≤ J) (hQ : Q (some w) h locs) : Go p e below (PS Z EL s Q K J) T (mkF m pc Ls (w :: st)) := by
  subst eT
  obtain ⟨fs, hr, hrun, hended, hW⟩ := X.leaveW hS hk (v := some w) (fun h => by rw [hret] at h; cases h) hlk
  exact ⟨_, _, retOut X hx hret hn hi hd hr, hrun, hended, _, _, rfl, hQ, C.trans (show CHr Z EL vm0 T.heap T.vm T.heap from CHv.at X hZ hEL C.1), monoW hW hK hJ⟩
theorem gRetS0 {K J : Nat} (X : Stand p l e R (s.setVm vm0) m args below meth c T locs cells slots) (hx : p.tables.exec = Jvm.exec) (hlk : meth.locks = false) (hret : meth.sig.returnType = none)
    (hd : decode c.code pc = .ok (.return_, 1)) (eT : T.heap = h) (hS : s.Since vm0 k0) (hk : k0 ≤ h.size) (hZ : Z.Warmed39 vm0) (hEL : EW Z a0 EL) (C : CHr Z EL s.vm s.heap vm0 h) (hK : cells ≤ K) (hJ : slots ≤ J) (hQ : Q none h locs) : Go p e below (PS Z EL s Q K J) T (mkF m pc Ls []) := by
  subst eT
  obtain ⟨fs, hr, hrun, hended, hW⟩ := X.leaveW hS hk (v := none) (fun _ => rfl) hlk
  exact ⟨_, _, X.returnOut hx hret hd hr, hrun, hended, _, _, rfl, hQ, C.trans (show CHr Z EL vm0 T.heap T.vm T.heap from CHv.at X hZ hEL C.1), monoW hW hK hJ⟩
theorem gRetL {w : Value} {t : FieldType} {i : Instr} {K J : Nat} (X : Stand p l e R (s.setVm vm0) m args below meth c T locs cells slots) (hx : p.tables.exec = Jvm.exec) (hlk : meth.locks = false) (hret : meth.sig.returnType = some t) (hn : narrow t w = w)
    (hi : (i = .ireturn ∧ (t = .int ∨ t = .boolean ∨ t = .byte ∨ t = .char ∨ t = .short) ∧ ∃ z, w = .int z) ∨ (i = .lreturn ∧ t = .long ∧ ∃ z, w = .long z) ∨ (i = .dreturn ∧ t = .double ∧ ∃ z, w = .double z) ∨ (i = .freturn ∧ t = .float ∧ ∃ z, w = .float z) ∨ (i = .areturn ∧ t.isReference = true ∧ w.isRef = true))
    (hd : decode c.code pc = .ok (i, 1)) (eT : T.heap = h) (hS : s.Since vm0 k0) (hk : k0 ≤ h.size) (hK : cells ≤ K) (hJ : slots ≤ J) (hQ : Q (some w) h locs) : Go p e below (PL s Q K J) T (mkF m pc Ls (w :: st)) := by
  subst eT
  obtain ⟨fs, hr, hrun, hended, hW⟩ := X.leaveW hS hk (v := some w) (fun h => by rw [hret] at h; cases h) hlk
  exact ⟨_, _, retOut X hx hret hn hi hd hr, hrun, hended, _, _, rfl, hQ, monoW hW hK hJ⟩
theorem selP {y : MethodName} (nf : NotFace s y) (hpriv : s.PrivateAt y) (hinst : (Jvm.Cond.instanceMethod y).before args s = true) (hy : y.cls ≠ "java/lang/invoke/MethodHandle" ∧ y.cls ≠ "java/lang/invoke/VarHandle") : (Jvm.Cond.selects y.cls y y).before args s = true := by
  obtain ⟨mk, methM, hnamed, hmethM, -, -⟩ := Cond.instanceMethod_spec hinst
  obtain ⟨kr, h1, h2⟩ := nf mk hnamed
  exact selects_self_of_private (findClass_of_methodNamed hnamed) h1 h2 hpriv hinst hy
/-! single steps -/
theorem gaload (X : Stand p l e R s m args below meth c T locs cells slots) (hx : p.tables.exec = Jvm.exec) {k : Nat} {v : Value} (pc' : Nat) (hd : decode c.code pc = .ok (.aload k, 2)) (hp : pc + 2 = pc') (hl : Ls[k]? = some (.val v)) (hv : v.isRef = true) (r : Go p e below P T (mkF m pc' Ls (v :: st))) : Go p e below P T (mkF m pc Ls (st)) := by
  subst hp; exact Go.of (fun _ q => XS.aload X.here hx rfl hd hl hv q) r
theorem galoadN (X : Stand p l e R s m args below meth c T locs cells slots) (hx : p.tables.exec = Jvm.exec) {k : Fin 4} {v : Value} (pc' : Nat) (hd : decode c.code pc = .ok (.aload_n k, 1)) (hp : pc + 1 = pc') (hl : Ls[k.val]? = some (.val v)) (hv : v.isRef = true) (r : Go p e below P T (mkF m pc' Ls (v :: st))) : Go p e below P T (mkF m pc Ls (st)) := by
  subst hp; exact Go.of (fun _ q => XS.aloadN X.here hx rfl hd hl hv q) r
theorem giload (X : Stand p l e R s m args below meth c T locs cells slots) (hx : p.tables.exec = Jvm.exec) {k : Nat} {v : Int32} (pc' : Nat) (hd : decode c.code pc = .ok (.iload k, 2)) (hp : pc + 2 = pc') (hl : Ls[k]? = some (.val (.int v))) (r : Go p e below P T (mkF m pc' Ls (.int v :: st))) : Go p e below P T (mkF m pc Ls (st)) := by
  subst hp; exact Go.of (fun _ q => XS.iload X.here hx rfl hd hl q) r
theorem giloadN (X : Stand p l e R s m args below meth c T locs cells slots) (hx : p.tables.exec = Jvm.exec) {k : Fin 4} {v : Int32} (pc' : Nat) (hd : decode c.code pc = .ok (.iload_n k, 1)) (hp : pc + 1 = pc') (hl : Ls[k.val]? = some (.val (.int v))) (r : Go p e below P T (mkF m pc' Ls (.int v :: st))) : Go p e below P T (mkF m pc Ls (st)) := by
  subst hp; exact Go.of (fun _ q => XS.iloadN X.here hx rfl hd hl q) r
theorem gistore (X : Stand p l e R s m args below meth c T locs cells slots) (hx : p.tables.exec = Jvm.exec) {k : Nat} {x : Int32} (l' : Array Slot) (pc' : Nat) (hd : decode c.code pc = .ok (.istore k, 2)) (hp : pc + 2 = pc') (hl : storeLocals Ls k (.int x) = some l') (r : Go p e below P T (mkF m pc' l' (st))) : Go p e below P T (mkF m pc Ls (.int x :: st)) := by
  subst hp; exact Go.of (fun _ q => XS.istore X.here hx rfl hd rfl hl q) r
theorem gistoreN (X : Stand p l e R s m args below meth c T locs cells slots) (hx : p.tables.exec = Jvm.exec) {k : Fin 4} {x : Int32} (l' : Array Slot) (pc' : Nat) (hd : decode c.code pc = .ok (.istore_n k, 1)) (hp : pc + 1 = pc') (hl : storeLocals Ls k.val (.int x) = some l') (r : Go p e below P T (mkF m pc' l' (st))) : Go p e below P T (mkF m pc Ls (.int x :: st)) := by
  subst hp; exact Go.of (fun _ q => XS.istoreN X.here hx rfl hd rfl hl q) r
theorem gastore (X : Stand p l e R s m args below meth c T locs cells slots) (hx : p.tables.exec = Jvm.exec) {k : Nat} {x : Value} (l' : Array Slot) (pc' : Nat) (hd : decode c.code pc = .ok (.astore k, 2)) (hp : pc + 2 = pc') (hv : x.isRef = true) (hl : storeLocals Ls k x = some l') (r : Go p e below P T (mkF m pc' l' (st))) : Go p e below P T (mkF m pc Ls (x :: st)) := by
  subst hp; exact Go.of (fun _ q => XS.astore X.here hx rfl hd rfl hv hl q) r
theorem gastoreN (X : Stand p l e R s m args below meth c T locs cells slots) (hx : p.tables.exec = Jvm.exec) {k : Fin 4} {x : Value} (l' : Array Slot) (pc' : Nat) (hd : decode c.code pc = .ok (.astore_n k, 1)) (hp : pc + 1 = pc') (hv : x.isRef = true) (hl : storeLocals Ls k.val x = some l') (r : Go p e below P T (mkF m pc' l' (st))) : Go p e below P T (mkF m pc Ls (x :: st)) := by
  subst hp; exact Go.of (fun _ q => XS.astoreN X.here hx rfl hd rfl hv hl q) r
theorem giconst (X : Stand p l e R s m args below meth c T locs cells slots) (hx : p.tables.exec = Jvm.exec) {i : Int} (v : Int32) (pc' : Nat) (hd : decode c.code pc = .ok (.iconst i, 1)) (hp : pc + 1 = pc') (hv : Int32.ofInt i = v) (r : Go p e below P T (mkF m pc' Ls (.int v :: st))) : Go p e below P T (mkF m pc Ls (st)) := by
  subst hp; exact Go.of (fun _ q => XS.iconst X.here hx rfl hd (by rw [hv]; exact q)) r
theorem gbipush (X : Stand p l e R s m args below meth c T locs cells slots) (hx : p.tables.exec = Jvm.exec) {i : Int} (v : Int32) (pc' : Nat) (hd : decode c.code pc = .ok (.bipush i, 2)) (hp : pc + 2 = pc') (hv : (Int8.ofInt i).toInt32 = v) (r : Go p e below P T (mkF m pc' Ls (.int v :: st))) : Go p e below P T (mkF m pc Ls (st)) := by
  subst hp; exact Go.of (fun _ q => XS.bipush X.here hx rfl hd (by rw [hv]; exact q)) r
theorem gsipush (X : Stand p l e R s m args below meth c T locs cells slots) (hx : p.tables.exec = Jvm.exec) {i : Int} (v : Int32) (pc' : Nat) (hd : decode c.code pc = .ok (.sipush i, 3)) (hp : pc + 3 = pc') (hv : (Int16.ofInt i).toInt32 = v) (r : Go p e below P T (mkF m pc' Ls (.int v :: st))) : Go p e below P T (mkF m pc Ls (st)) := by
  subst hp; exact Go.of (fun _ q => XS.sipush X.here hx rfl hd (by rw [hv]; exact q)) r
theorem gaconstNull (X : Stand p l e R s m args below meth c T locs cells slots) (hx : p.tables.exec = Jvm.exec) (pc' : Nat) (hd : decode c.code pc = .ok (.aconst_null, 1)) (hp : pc + 1 = pc') (r : Go p e below P T (mkF m pc' Ls (.null :: st))) : Go p e below P T (mkF m pc Ls (st)) := by
  subst hp; exact Go.of (fun _ q => XS.aconstNull X.here hx rfl hd q) r
theorem giadd (X : Stand p l e R s m args below meth c T locs cells slots) (hx : p.tables.exec = Jvm.exec) {x y : Int32} (pc' : Nat) (hd : decode c.code pc = .ok (.iadd, 1)) (hp : pc + 1 = pc') (r : Go p e below P T (mkF m pc' Ls (.int (x + y) :: st))) : Go p e below P T (mkF m pc Ls (.int y :: .int x :: st)) := by
  subst hp; exact Go.of (fun _ q => XS.iadd X.here hx rfl hd rfl q) r
theorem gisub (X : Stand p l e R s m args below meth c T locs cells slots) (hx : p.tables.exec = Jvm.exec) {x y : Int32} (pc' : Nat) (hd : decode c.code pc = .ok (.isub, 1)) (hp : pc + 1 = pc') (r : Go p e below P T (mkF m pc' Ls (.int (x - y) :: st))) : Go p e below P T (mkF m pc Ls (.int y :: .int x :: st)) := by
  subst hp; exact Go.of (fun _ q => XS.isub X.here hx rfl hd rfl q) r
theorem giand (X : Stand p l e R s m args below meth c T locs cells slots) (hx : p.tables.exec = Jvm.exec) {x y : Int32} (pc' : Nat) (hd : decode c.code pc = .ok (.iand, 1)) (hp : pc + 1 = pc') (r : Go p e below P T (mkF m pc' Ls (.int (x &&& y) :: st))) : Go p e below P T (mkF m pc Ls (.int y :: .int x :: st)) := by
  subst hp; exact Go.of (fun _ q => XS.iand X.here hx rfl hd rfl q) r
theorem gishl (X : Stand p l e R s m args below meth c T locs cells slots) (hx : p.tables.exec = Jvm.exec) {x y : Int32} (pc' : Nat) (hd : decode c.code pc = .ok (.ishl, 1)) (hp : pc + 1 = pc') (r : Go p e below P T (mkF m pc' Ls (.int (x <<< (y &&& 31)) :: st))) : Go p e below P T (mkF m pc Ls (.int y :: .int x :: st)) := by
  subst hp; exact Go.of (fun _ q => XS.ishl X.here hx rfl hd rfl q) r
theorem gishr (X : Stand p l e R s m args below meth c T locs cells slots) (hx : p.tables.exec = Jvm.exec) {x y : Int32} (pc' : Nat) (hd : decode c.code pc = .ok (.ishr, 1)) (hp : pc + 1 = pc') (r : Go p e below P T (mkF m pc' Ls (.int (x >>> (y &&& 31)) :: st))) : Go p e below P T (mkF m pc Ls (.int y :: .int x :: st)) := by
  subst hp; exact Go.of (fun _ q => XS.ishr X.here hx rfl hd rfl q) r
theorem gi2c (X : Stand p l e R s m args below meth c T locs cells slots) (hx : p.tables.exec = Jvm.exec) {x : Int32} (pc' : Nat) (hd : decode c.code pc = .ok (.i2c, 1)) (hp : pc + 1 = pc') (r : Go p e below P T (mkF m pc' Ls (.int (x.toUInt32.toUInt16.toUInt32.toInt32) :: st))) : Go p e below P T (mkF m pc Ls (.int x :: st)) := by
  subst hp; exact Go.of (fun _ q => XS.i2c X.here hx rfl hd rfl q) r
theorem gpop (X : Stand p l e R s m args below meth c T locs cells slots) (hx : p.tables.exec = Jvm.exec) {x : Value} (pc' : Nat) (hd : decode c.code pc = .ok (.pop, 1)) (hp : pc + 1 = pc') (hc : x.category = 1) (r : Go p e below P T (mkF m pc' Ls (st))) : Go p e below P T (mkF m pc Ls (x :: st)) := by
  subst hp; exact Go.of (fun _ q => XS.pop X.here hx rfl hd rfl hc q) r
theorem gdup (X : Stand p l e R s m args below meth c T locs cells slots) (hx : p.tables.exec = Jvm.exec) {x : Value} (pc' : Nat) (hd : decode c.code pc = .ok (.dup, 1)) (hp : pc + 1 = pc') (hc : x.category = 1) (r : Go p e below P T (mkF m pc' Ls (x :: x :: st))) : Go p e below P T (mkF m pc Ls (x :: st)) := by
  subst hp; exact Go.of (fun _ q => XS.dup X.here hx rfl hd rfl hc q) r
theorem ggoto (X : Stand p l e R s m args below meth c T locs cells slots) (hx : p.tables.exec = Jvm.exec) {o : Int} (pc' : Nat) (hd : decode c.code pc = .ok (.goto o, 3)) (ho : 0 ≤ (pc : Int) + o) (hp : ((pc : Int) + o).toNat = pc') (r : Go p e below P T (mkF m pc' Ls (st))) : Go p e below P T (mkF m pc Ls (st)) :=
  Go.of (fun _ q => XS.goto X.here hx rfl rfl hd ho hp q) r
theorem gifYes (X : Stand p l e R s m args below meth c T locs cells slots) (hx : p.tables.exec = Jvm.exec) {o : Int} {cd : ClassFile.Cond} {x : Int32} (pc' : Nat) (hd : decode c.code pc = .ok (.ifCond cd o, 3)) (hc : ifCond.holds cd x = true) (ho : 0 ≤ (pc : Int) + o) (hp : ((pc : Int) + o).toNat = pc') (r : Go p e below P T (mkF m pc' Ls (st))) : Go p e below P T (mkF m pc Ls (.int x :: st)) :=
  Go.of (fun _ q => XS.ifYes X.here hx rfl rfl hd rfl hc ho hp q) r
theorem gifNo (X : Stand p l e R s m args below meth c T locs cells slots) (hx : p.tables.exec = Jvm.exec) {o : Int} {cd : ClassFile.Cond} {x : Int32} (pc' : Nat) (hd : decode c.code pc = .ok (.ifCond cd o, 3)) (hp : pc + 3 = pc') (hc : ifCond.holds cd x = false) (r : Go p e below P T (mkF m pc' Ls (st))) : Go p e below P T (mkF m pc Ls (.int x :: st)) := by
  subst hp; exact Go.of (fun _ q => XS.ifNo X.here hx rfl hd rfl hc q) r
theorem gicmpYes (X : Stand p l e R s m args below meth c T locs cells slots) (hx : p.tables.exec = Jvm.exec) {o : Int} {cd : ClassFile.Cond} {x y : Int32} (pc' : Nat) (hd : decode c.code pc = .ok (.if_icmp cd o, 3)) (hc : if_icmp.holds cd x y = true) (ho : 0 ≤ (pc : Int) + o) (hp : ((pc : Int) + o).toNat = pc') (r : Go p e below P T (mkF m pc' Ls (st))) : Go p e below P T (mkF m pc Ls (.int y :: .int x :: st)) :=
  Go.of (fun _ q => XS.icmpYes X.here hx rfl rfl hd rfl hc ho hp q) r
theorem gicmpNo (X : Stand p l e R s m args below meth c T locs cells slots) (hx : p.tables.exec = Jvm.exec) {o : Int} {cd : ClassFile.Cond} {x y : Int32} (pc' : Nat) (hd : decode c.code pc = .ok (.if_icmp cd o, 3)) (hp : pc + 3 = pc') (hc : if_icmp.holds cd x y = false) (r : Go p e below P T (mkF m pc' Ls (st))) : Go p e below P T (mkF m pc Ls (.int y :: .int x :: st)) := by
  subst hp; exact Go.of (fun _ q => XS.icmpNo X.here hx rfl hd rfl hc q) r
theorem gifnonnullYes (X : Stand p l e R s m args below meth c T locs cells slots) (hx : p.tables.exec = Jvm.exec) {o : Int} {b : Addr} (pc' : Nat) (hd : decode c.code pc = .ok (.ifnonnull o, 3)) (ho : 0 ≤ (pc : Int) + o) (hp : ((pc : Int) + o).toNat = pc') (r : Go p e below P T (mkF m pc' Ls (st))) : Go p e below P T (mkF m pc Ls (.ref b :: st)) :=
  Go.of (fun _ q => XS.ifnonnullYes X.here hx rfl rfl hd rfl ho hp q) r
theorem gifnonnullNo (X : Stand p l e R s m args below meth c T locs cells slots) (hx : p.tables.exec = Jvm.exec) {o : Int} (pc' : Nat) (hd : decode c.code pc = .ok (.ifnonnull o, 3)) (hp : pc + 3 = pc') (r : Go p e below P T (mkF m pc' Ls (st))) : Go p e below P T (mkF m pc Ls (.null :: st)) := by
  subst hp; exact Go.of (fun _ q => XS.ifnonnullNo X.here hx rfl hd rfl q) r
theorem gldcI (X : Stand p l e R s m args below meth c T locs cells slots) (hx : p.tables.exec = Jvm.exec) (hZ : Z.Warmed39 s.vm) {own : String} {index : Nat} {v : Int32} (hown : s.vm.findClass own = some m.cls) (w : (Jvm.Cond.constant own index v).before a0 Z = true) (pc' : Nat) (hd : decode c.code pc = .ok (.ldc index, 2)) (hp : pc + 2 = pc') (r : Go p e below P T (mkF m pc' Ls (.int v :: st))) : Go p e below P T (mkF m pc Ls (st)) := by
  subst hp; exact Go.of (fun _ q => X.ldcInt hx hown (mvT hZ w) (g := mkF m pc Ls st) rfl hd _ q) r
theorem garrlen (X : Stand p l e R s m args below meth c T locs cells slots) (hx : p.tables.exec = Jvm.exec) (hZ : Z.Warmed39 s.vm) (eT : T.heap = h) {a : Addr} {k : ClassId} {ty : FieldType} {z : Int32} {vs : List Value} {dv : Value} (A : Arv Z h a k ty z vs dv) (pc' : Nat) (hd : decode c.code pc = .ok (.arraylength, 1)) (hp : pc + 1 = pc') (r : Go p e below P T (mkF m pc' Ls (.int z :: st))) : Go p e below P T (mkF m pc Ls (.ref a :: st)) := by
  subst hp
  obtain ⟨cl, A1, -, S1, N1, -, -⟩ := A
  refine Go.of (fun _ q => X.arraylength hx (by rw [eT]; exact A1.1) (State.isArrayOf_alike hZ.alike A1.2.1) (g := mkF m pc Ls (.ref a :: st)) rfl rfl hd _ (by rw [len_of S1 N1]; exact q)) r
theorem ggetF (X : Stand p l e R s m args below meth c T locs cells slots) (hx : p.tables.exec = Jvm.exec) (hZ : Z.Warmed39 s.vm) {own R0 O n d host : String} {index : Nat} (hown : s.vm.findClass own = some m.cls) (w : (Jvm.Cond.fieldLink own index R0 n d).before a0 Z = true ∨ (Jvm.Cond.fieldLinkNest own index R0 n d host).before a0 Z = true) (via : Via Z R0 O n d) (eT : T.heap = h) {a : Addr} {v : Value} (F : Fld Z h a O n d v) (pc' : Nat) (hd : decode c.code pc = .ok (.getfield index, 3)) (hp : pc + 3 = pc') (r : ∀ T', Stand p l e R s m args below meth c T' locs cells slots → T'.heap = h → Go p e below P T' (mkF m pc' Ls (v :: st))) : Go p e below P T (mkF m pc Ls (.ref a :: st)) := by
  subst hp
  obtain ⟨T', X', e', stp⟩ := getF X hx hZ hown w via eT F (g := mkF m pc Ls (.ref a :: st)) rfl rfl hd
  exact Go.of stp (r T' X' e')
theorem ggetS (X : Stand p l e R s m args below meth c T locs cells slots) (hx : p.tables.exec = Jvm.exec) (hZ : Z.Warmed39 s.vm) {own R0 O n d host : String} {index : Nat} (hown : s.vm.findClass own = some m.cls) (w : (Jvm.Cond.fieldLink own index R0 n d).before a0 Z = true ∨ (Jvm.Cond.fieldLinkNest own index R0 n d host).before a0 Z = true) (via : Via Z R0 O n d) (eT : T.heap = h) {v : Value} (F : Sta Z h O n d v) (pc' : Nat) (hd : decode c.code pc = .ok (.getstatic index, 3)) (hp : pc + 3 = pc') (r : ∀ T', Stand p l e R s m args below meth c T' locs cells slots → T'.heap = h → Go p e below P T' (mkF m pc' Ls (v :: st))) : Go p e below P T (mkF m pc Ls st) := by
  subst hp
  obtain ⟨T', X', e', stp⟩ := getS2 X hx hZ hown w via eT F (g := mkF m pc Ls st) rfl hd
  exact Go.of stp (r T' X' e')
theorem gputF (X : Stand p l e R s m args below meth c T locs cells slots) (hx : p.tables.exec = Jvm.exec) (hZ : Z.Warmed39 s.vm) {own R0 O n d host : String} {index : Nat} (hown : s.vm.findClass own = some m.cls) (w : (Jvm.Cond.fieldLink own index R0 n d).before a0 Z = true ∨ (Jvm.Cond.fieldLinkNest own index R0 n d host).before a0 Z = true) (via : Via Z R0 O n d) (eT : T.heap = h) {C : String} {kk : Nat} {ty : FieldType} {a : Addr} {v old : Value} (F : Fld Z h a O n d old) (E : Exa Z h a C) (L : (Jvm.Cond.lays C O n d).before a0 Z = true ∨ ((Jvm.Cond.laysFinal C O n d).before a0 Z = true ∧ own = O ∧ meth.name = "<init>")) (wi : (Jvm.Cond.instantiable C kk).before a0 Z = true) (hty : parseFieldDescriptor d = some ty) (hn : narrow ty v = v) (hf : fits ty v = true) {n0 : Nat} (N : Fr n0 locs) (ge : n0 ≤ a) (pc' : Nat) (hd : decode c.code pc = .ok (.putfield index, 3)) (hp : pc + 3 = pc') (r : ∀ T' h' L', Stand p l e R s m args below meth c T' L' cells slots → T'.heap = h' → Fr n0 L' → Wr h h' a (Jvm.RoadKit.slotOf Z O n d) v → Go p e below P T' (mkF m pc' Ls st)) : Go p e below P T (mkF m pc Ls (v :: .ref a :: st)) := by
  subst hp
  obtain ⟨T', h', X', e', W', stp⟩ := putF X hx hZ hown w via eT F E L wi hty hn hf (g := mkF m pc Ls (v :: .ref a :: st)) rfl rfl hd
  exact Go.of stp (r T' h' _ X' e' (Fr.snoc X' N ge) W')
theorem gnewO (X : Stand p l e R s m args below meth c T locs cells slots) (hx : p.tables.exec = Jvm.exec) (hZ : Z.Warmed39 s.vm) {own C : String} {index n : Nat} (hown : s.vm.findClass own = some m.cls) (w : (Jvm.Cond.classLink own index C).before a0 Z = true) (wi : (Jvm.Cond.instantiable C n).before a0 Z = true) (wz : (Jvm.Cond.initialized C).before a0 Z = true) (eT : T.heap = h) (cells' slots' : Nat) (hcl : cells + 1 = cells') (hsl : slots + n = slots') (hc : cells' ≤ R.cells) (hl : slots' ≤ R.slots) (pc' : Nat) (hd : decode c.code pc = .ok (.new index, 3)) (hp : pc + 3 = pc') (r : ∀ T' h' a, Stand p l e R s m args below meth c T' locs cells' slots' → T'.heap = h' → a = h.size → Ext h h' → Exa Z h' a C → (∀ {O nm d : String} {ty : FieldType}, Laid Z a0 C O nm d → parseFieldDescriptor d = some ty → Fld Z h' a O nm d (defaultValue ty)) → Go p e below P T' (mkF m pc' Ls (.ref a :: st))) : Go p e below P T (mkF m pc Ls st) := by
  subst hp hcl hsl
  obtain ⟨T', h', X', e', E', A', D', -, stp⟩ := newO X hx hZ hown w wi wz eT (g := mkF m pc Ls st) rfl hd hc hl
  exact Go.of stp (r T' h' _ X' e' rfl E' A' D')
theorem gnewP (X : Stand p l e R s m args below meth c T locs cells slots) (hx : p.tables.exec = Jvm.exec) (hZ : Z.Warmed39 s.vm) {aty : ArrayType} (w : (Jvm.Cond.arrayClass (newarray.typeOf aty)).before a0 Z = true) (eT : T.heap = h) {n : Int32} (hn : ¬ n < 0) (cap : Nat) (hcap : n.toNatClampNeg ≤ cap) (hb : cap * 8 ≤ 536870912) (cells' slots' : Nat) (hcl : cells + 1 = cells') (hsl : slots + cap = slots') (hc : cells' ≤ R.cells) (hl : slots' ≤ R.slots) (pc' : Nat) (hd : decode c.code pc = .ok (.newarray aty, 2)) (hp : pc + 2 = pc') (r : ∀ T' h' a k, Stand p l e R s m args below meth c T' locs cells' slots' → T'.heap = h' → a = h.size → Ext h h' → Arv Z h' a k (newarray.typeOf aty) n [] (defaultValue (newarray.typeOf aty)) → Go p e below P T' (mkF m pc' Ls (.ref a :: st))) : Go p e below P T (mkF m pc Ls (.int n :: st)) := by
  subst hp hcl hsl
  obtain ⟨T', h', k, X', e', E', A', stp⟩ := newP X hx hZ w eT (g := mkF m pc Ls (.int n :: st)) rfl hd rfl hn hcap hb hc hl
  exact Go.of stp (r T' h' _ k X' e' rfl E' (Arv.new A' hn))
theorem gcastore (X : Stand p l e R s m args below meth c T locs cells slots) (hx : p.tables.exec = Jvm.exec) (hZ : Z.Warmed39 s.vm) (eT : T.heap = h) {a : Addr} {k : ClassId} {z j x : Int32} {vs : List Value} {dv : Value} (A : Arv Z h a k .char z vs dv) (hj : ¬ j < 0) (hj2 : j < z) (i : Nat) (hji : j.toNatClampNeg = i) (hi : i < vs.length) {n0 : Nat} (N : Fr n0 locs) (ge : n0 ≤ a) (pc' : Nat) (hd : decode c.code pc = .ok (.castore, 1)) (hp : pc + 1 = pc') (r : ∀ T' h' L', Stand p l e R s m args below meth c T' L' cells slots → T'.heap = h' → Fr n0 L' → Wr h h' a j.toNatClampNeg (.int (nar .char x)) → Arv Z h' a k .char z (vs.set i (.int (nar .char x))) dv → Go p e below P T' (mkF m pc' Ls st)) : Go p e below P T (mkF m pc Ls (.int x :: .int j :: .ref a :: st)) := by
  subst hp
  obtain ⟨cl, A1, q1, S1, N1, H1, G1⟩ := A
  have hin := inb_of S1 ⟨hj, hj2⟩
  obtain ⟨T', h', X', e', W', stp⟩ := stC X hx hZ eT A1 hin (g := mkF m pc Ls (.int x :: .int j :: .ref a :: st)) rfl rfl hd
  exact Go.of stp (r T' h' _ X' e' (Fr.snoc X' N ge) W' (Arv.set A1 q1 S1 N1 H1 G1 (fits_nar_char x) W' i hji hi))
theorem ginitO (X : Stand p l e R s m args below meth c T locs cells slots) (hx : p.tables.exec = Jvm.exec) (hZ : Z.Warmed39 s.vm) {own : String} {idx : Nat} (hown : s.vm.findClass own = some m.cls) (w1 : (Jvm.Cond.methodLink own idx Lib.objectInit).before a0 Z = true) (w2 : (Jvm.Cond.instanceMethod Lib.objectInit).before a0 Z = true) (w3 : (Jvm.Cond.code Lib.objectInit ⟨#[0xb1]⟩ 1 none).before a0 Z = true) (eT : T.heap = h) (hsz : Ls.size = c.maxLocals) {a : Addr} (hf : 1 ≤ R.frames) (W : Nat) (hW : (st.map fun v => v.category).sum ≤ W) (hl : W + 12 ≤ R.locals) (pc' : Nat) (hd : decode c.code pc = .ok (.invokespecial idx, 3)) (hp : pc + 3 = pc') (r : ∀ T', Stand p l e R s m args below meth c T' locs cells slots → T'.heap = h → Go p e below P T' (mkF m pc' Ls st)) : Go p e below P T (mkF m pc Ls (.ref a :: st)) := by
  subst hp
  obtain ⟨T', X', e', stp⟩ := initO X hx hZ hown w1 w2 w3 eT (g := mkF m pc Ls (.ref a :: st)) rfl hsz rfl hd hf (W := W) (by show 2 * 0 + _ ≤ _; omega) hl
  exact Go.of stp (r T' X' e')
theorem nf_sel {C : String} {x0 z0 y : MethodName} (w : (Jvm.Cond.selects C x0 z0).before args s = true) (e : z0.cls = y.cls) : NotFace s y := fun r0 h0 => by
  obtain ⟨c2, r2, m2, q1, q2, q3, q4, kP, hkP, hkPi⟩ := Cond.selects_spec w
  have f1 := findClass_of_methodNamed q3
  rw [e] at f1
  have e2 : r0.cls = m2.cls := Option.some.inj ((findClass_of_methodNamed h0).symm.trans f1)
  exact ⟨kP, by rw [e2]; exact hkP, hkPi⟩
theorem sm_sel {C : String} {x0 z0 y : MethodName} (wd : (Jvm.Cond.instanceMethod y).before args s = true) (w : (Jvm.Cond.selects C x0 z0).before args s = true) (e : z0.cls = y.cls) (hy : y.cls ≠ "java/lang/invoke/MethodHandle" ∧ y.cls ≠ "java/lang/invoke/VarHandle") : (Jvm.Cond.sameMethod y.cls y.cls y.name y.desc).before args s = true := by
  obtain ⟨mk, methM, hnamed, -⟩ := Cond.instanceMethod_spec wd
  obtain ⟨k, h1, h2⟩ := nf_sel w e mk hnamed
  have e3 : s.methodNamed? ⟨y.cls, y.name, y.desc⟩ = some mk := hnamed
  simp [Cond.before, Cond.holds, Cond.value, findClass_of_methodNamed hnamed, State.methodFound?_of_named hnamed hy, e3, h1, h2]
theorem gcpA (X : Stand p l e R s m args below meth c T locs cells slots) (hx : p.tables.exec = Jvm.exec) (hZ : Z.Warmed39 s.vm) {own : String} {index : Nat} (hown : s.vm.findClass own = some m.cls) (w1 : (Jvm.Cond.methodLink own index Jvm.Stand.acN).before a0 Z = true) (w2 : (Jvm.Cond.native Jvm.Stand.acN).before a0 Z = true) (w3 : (Jvm.Cond.static Jvm.Stand.acN).before a0 Z = true) (w4 : (Jvm.Cond.initialized "java/lang/System").before a0 Z = true) (eT : T.heap = h) (hsz : Ls.size = c.maxLocals) {a b : Addr} {k k' : ClassId} {ty : FieldType} {z z' sp dp nn : Int32} {vs vd : List Value} {dv dd : Value} (A : Arv Z h a k ty z vs dv) (B : Arv Z h b k' ty z' vd dd) (hty : refKind ty = false) (spn dpn nnn : Nat) (e1 : sp.toNatClampNeg = spn) (e2 : dp.toNatClampNeg = dpn) (e3 : nn.toNatClampNeg = nnn) (h1 : ¬ sp < 0) (h2 : ¬ dp < 0) (h3 : ¬ nn < 0) (h4 : spn + nnn ≤ z.toNatClampNeg) (h5 : dpn + nnn ≤ z'.toNatClampNeg) (hl : dpn + nnn ≤ vd.length) (rs : List Value) (hr : vd.take dpn ++ ((List.range nnn).map fun i => vs.getD (spn + i) dv) ++ vd.drop (dpn + nnn) = rs) {n0 : Nat} (N : Fr n0 locs) (ge : n0 ≤ b) (hf : 1 ≤ R.frames) (W : Nat) (hW : (st.map fun v => v.category).sum ≤ W) (hlo : W + (nativeFrameWords "java/lang/System" "arraycopy" 5 + 11) ≤ R.locals) (pc' : Nat) (hd : decode c.code pc = .ok (.invokestatic index, 3)) (hp : pc + 3 = pc') (r : ∀ T' h' L', Stand p l e R s m args below meth c T' L' cells slots → T'.heap = h' → Fr n0 L' → Keep h h' [b] → Arv Z h' b k' ty z' rs dd → Go p e below P T' (mkF m pc' Ls st)) : Go p e below P T (mkF m pc Ls (.int nn :: .int dp :: .ref b :: .int sp :: .ref a :: st)) := by
  subst hp e1 e2 e3 hr
  obtain ⟨T', h', L', X', e', N', K', A', stp⟩ := cpA X hx hZ hown w1 w2 w3 w4 eT A B (Or.inl ⟨rfl, hty⟩) h1 h2 h3 h4 h5 rfl hl N ge (g := mkF m pc Ls (.int nn :: .int dp :: .ref b :: .int sp :: .ref a :: st)) rfl hsz rfl hd hf (W := W) (by show 2 * 0 + _ ≤ _; omega) hlo
  exact Go.of stp (r T' h' L' X' e' N' K' A')
theorem gspecial (X : Stand p l e R s m args below meth c T locs cells slots) (hx : p.tables.exec = Jvm.exec) (hZ : Z.Warmed39 s.vm) {own : String} {index : Nat} (hown : s.vm.findClass own = some m.cls) {y : MethodName} (hy1 : y.name = "<init>") (w1 : (Jvm.Cond.methodLink own index y).before a0 Z = true) (w2 : (Jvm.Cond.instanceMethod y).before a0 Z = true) {bytes : ByteArray} {maxL : Nat} (w3 : (Jvm.Cond.code y bytes maxL none).before a0 Z = true) (hy : y.cls ≠ "java/lang/invoke/MethodHandle" ∧ y.cls ≠ "java/lang/invoke/VarHandle") {W k j : Nat} {argsL : List Value} {a : Addr} (hK : Pays l R p e below s args y 3 W (.ref a :: argsL).toArray h k j Q) (eT : T.heap = h) (hsz : Ls.size = c.maxLocals) (hlen : ∀ sig, parseMethodDescriptor y.desc = some sig → argsL.length = sig.parameters.length) {stk : List Value} (hs : stk = argsL.reverse ++ .ref a :: st) (hW : (st.map fun v => v.category).sum ≤ W) (cells' slots' : Nat) (hcl : cells + k = cells') (hsl : slots + j = slots') (hc : cells' ≤ R.cells) (hl : slots' ≤ R.slots) (pc' : Nat) (hd : decode c.code pc = .ok (.invokespecial index, 3)) (hp : pc + 3 = pc') (r : ∀ v T' h' L' Lc, Stand p l e R s m args below meth c T' L' cells' slots' → T'.heap = h' → L' = locs ++ Lc → Q v h' Lc → Go p e below P T' (mkF m pc' Ls (v.toList ++ st))) : Go p e below P T (mkF m pc Ls stk) := by
  subst hp hcl hsl
  obtain ⟨v, vm₁, ⟨T', L', k', n'⟩, -, X', ⟨Lc, hQ, h1, h2, h3⟩, hst⟩ := X.specialBack hx hy1 hown (mvT hZ w1) (mvT hZ w2) (mvT hZ w3) hy hK (g := mkF m pc Ls stk) rfl hsz (Steps.refl _) hlen hs (by show 2 * 0 + _ ≤ _; omega) hd (fun _ _ => ⟨rfl, eT, hc, hl⟩)
  dsimp only at X' hQ h1 h2 h3 hst
  subst h1 h2 h3
  exact Go.tr hst (r v T' _ _ Lc X' rfl rfl hQ)
theorem gvirtual (X : Stand p l e R s m args below meth c T locs cells slots) (hx : p.tables.exec = Jvm.exec) (hZ : Z.Warmed39 s.vm) {own : String} {index : Nat} (hown : s.vm.findClass own = some m.cls) {C : String} {y z : MethodName} (w1 : (Jvm.Cond.methodLink own index y).before a0 Z = true) (w2 : (Jvm.Cond.declares y).before a0 Z = true) (nf : NotFace s y) (w3 : (Jvm.Cond.selects C y z).before a0 Z = true) (w4 : (Jvm.Cond.instanceMethod z).before a0 Z = true) (hy : y.cls ≠ "java/lang/invoke/MethodHandle" ∧ y.cls ≠ "java/lang/invoke/VarHandle") {a : Addr} (E : Exa Z h a C) {W k j : Nat} {argsL : List Value} (hK : Pays l R p e below s args z 3 W (.ref a :: argsL).toArray h k j Q) (eT : T.heap = h) (hsz : Ls.size = c.maxLocals) (hlen : ∀ sig, parseMethodDescriptor y.desc = some sig → argsL.length = sig.parameters.length) {stk : List Value} (hs : stk = argsL.reverse ++ .ref a :: st) (hW : (st.map fun v => v.category).sum ≤ W) (cells' slots' : Nat) (hcl : cells + k = cells') (hsl : slots + j = slots') (hc : cells' ≤ R.cells) (hl : slots' ≤ R.slots) (pc' : Nat) (hd : decode c.code pc = .ok (.invokevirtual index, 3)) (hp : pc + 3 = pc') (r : ∀ v T' h' L' Lc, Stand p l e R s m args below meth c T' L' cells' slots' → T'.heap = h' → L' = locs ++ Lc → Q v h' Lc → Go p e below P T' (mkF m pc' Ls (v.toList ++ st))) : Go p e below P T (mkF m pc Ls stk) := by
  subst hp hcl hsl
  obtain ⟨v, vm₁, ⟨T', L', k', n'⟩, -, X', ⟨Lc, hQ, h1, h2, h3⟩, hst⟩ := X.virtualBack hx hown (mvT hZ w1) (mvT hZ w2) nf (mvT hZ w3) (mvT hZ w4) hy hK (isOf hZ eT E).choose_spec.choose_spec.1 (isOf hZ eT E).choose_spec.choose_spec.2.2 (g := mkF m pc Ls stk) rfl hsz (Steps.refl _) hlen hs (by show 2 * 0 + _ ≤ _; omega) hd (fun _ _ => ⟨rfl, eT, hc, hl⟩)
  dsimp only at X' hQ h1 h2 h3 hst
  subst h1 h2 h3
  exact Go.tr hst (r v T' _ _ Lc X' rfl rfl hQ)
theorem gstatic (X : Stand p l e R s m args below meth c T locs cells slots) (hx : p.tables.exec = Jvm.exec) (hZ : Z.Warmed39 s.vm) {own : String} {index : Nat} (hown : s.vm.findClass own = some m.cls) {y : MethodName} {bytes : ByteArray} {maxL : Nat} {ret : Option FieldType} (w1 : (Jvm.Cond.methodLink own index y).before a0 Z = true) (w2 : (Jvm.Cond.static y).before a0 Z = true) (w3 : (Jvm.Cond.initialized y.cls).before a0 Z = true) (w4 : (Jvm.Cond.code y bytes maxL ret).before a0 Z = true) (hy : y.cls ≠ "java/lang/invoke/MethodHandle" ∧ y.cls ≠ "java/lang/invoke/VarHandle") {W k j : Nat} {argsL : List Value} (hK : Pays l R p e below s args y 3 W argsL.toArray h k j Q) (eT : T.heap = h) (hsz : Ls.size = c.maxLocals) (hlen : ∀ sig, parseMethodDescriptor y.desc = some sig → argsL.length = sig.parameters.length) {stk : List Value} (hs : stk = argsL.reverse ++ st) (hW : (st.map fun v => v.category).sum ≤ W) (cells' slots' : Nat) (hcl : cells + k = cells') (hsl : slots + j = slots') (hc : cells' ≤ R.cells) (hl : slots' ≤ R.slots) (pc' : Nat) (hd : decode c.code pc = .ok (.invokestatic index, 3)) (hp : pc + 3 = pc') (r : ∀ v T' h' L' Lc, Stand p l e R s m args below meth c T' L' cells' slots' → T'.heap = h' → L' = locs ++ Lc → Q v h' Lc → Go p e below P T' (mkF m pc' Ls (v.toList ++ st))) : Go p e below P T (mkF m pc Ls stk) := by
  subst hp hcl hsl
  obtain ⟨v, vm₁, ⟨T', L', k', n'⟩, -, X', ⟨Lc, hQ, h1, h2, h3⟩, hst⟩ := Jvm.LawKit.callS X hx hown (mvT hZ w1) (mvT hZ w2) (mvT hZ w3) (mvT hZ w4) hy hK (g := mkF m pc Ls stk) rfl hsz hlen hs (by show 2 * 0 + _ ≤ _; omega) hd (fun _ _ => ⟨rfl, eT, hc, hl⟩)
  dsimp only at X' hQ h1 h2 h3 hst
  subst h1 h2 h3
  exact Go.of hst (r v T' _ _ Lc X' rfl rfl hQ)
theorem gspecialS (X : Stand p l e R (s.setVm vm0) m args below meth c T locs cells slots) (hx : p.tables.exec = Jvm.exec) (hZ : Z.Warmed39 vm0) {own : String} {index : Nat} (hown : vm0.findClass own = some m.cls) {y : MethodName} (hy1 : y.name = "<init>") (w1 : (Jvm.Cond.methodLink own index y).before a0 Z = true) (w2 : (Jvm.Cond.instanceMethod y).before a0 Z = true) {bytes : ByteArray} {maxL : Nat} (w3 : (Jvm.Cond.code y bytes maxL none).before a0 Z = true) (hy : y.cls ≠ "java/lang/invoke/MethodHandle" ∧ y.cls ≠ "java/lang/invoke/VarHandle") {W k j : Nat} {argsL : List Value} {a : Addr} (hS : s.Since vm0 k0) (hk : k0 ≤ h.size) (hK : PaysS l R p e below s vm0 args y 3 W (.ref a :: argsL).toArray h k j Z EL Q) (eT : T.heap = h) (hsz : Ls.size = c.maxLocals) (hlen : ∀ sig, parseMethodDescriptor y.desc = some sig → argsL.length = sig.parameters.length) {stk : List Value} (hs : stk = argsL.reverse ++ .ref a :: st) (hW : (st.map fun v => v.category).sum ≤ W) (cells' slots' : Nat) (hcl : cells + k = cells') (hsl : slots + j = slots') (hc : cells' ≤ R.cells) (hl : slots' ≤ R.slots) (pc' : Nat) (hd : decode c.code pc = .ok (.invokespecial index, 3)) (hp : pc + 3 = pc') (r : ∀ v T' h' L' Lc vm1 k1, Stand p l e R (s.setVm vm1) m args below meth c T' L' cells' slots' → T'.heap = h' → L' = locs ++ Lc → s.Since vm1 k1 → k1 ≤ h'.size → Z.Warmed39 vm1 → vm1.findClass own = some m.cls → CHr Z EL vm0 h vm1 h' → Q v h' Lc → Go p e below P T' (mkF m pc' Ls (v.toList ++ st))) : Go p e below P T (mkF m pc Ls stk) := by
  subst hp hcl hsl
  subst eT
  obtain ⟨v, vm₁, ⟨T', L', k', n'⟩, -, X', hS', hgr, ⟨Lc, hQ, h1, h2, h3, hC⟩, hst⟩ := X.specialBackS hx hy1 hown (mvT hZ w1) (mvT hZ w2) (mvT hZ w3) hy hK (g := mkF m pc Ls stk) rfl hsz (Steps.refl _) hlen hs (by show 2 * 0 + _ ≤ _; omega) hd (fun _ _ => ⟨rfl, rfl, hc, hl⟩)
  dsimp only at X' hS' hgr hQ h1 h2 h3 hC hst
  subst h1 h2 h3
  obtain ⟨X2, hS2, hZ2, ho2⟩ := rebS (Z := Z) (own := own) hS hk X' hS' hgr hZ hown
  exact Go.tr hst (r v T' _ _ Lc _ _ X2 rfl rfl hS2 (Nat.le_refl _) hZ2 ho2 hC hQ)
theorem gvirtualS (X : Stand p l e R (s.setVm vm0) m args below meth c T locs cells slots) (hx : p.tables.exec = Jvm.exec) (hZ : Z.Warmed39 vm0) {own : String} {index : Nat} (hown : vm0.findClass own = some m.cls) {C : String} {y z : MethodName} (w1 : (Jvm.Cond.methodLink own index y).before a0 Z = true) (w2 : (Jvm.Cond.declares y).before a0 Z = true) (nf : NotFace (s.setVm vm0) y) (w3 : (Jvm.Cond.selects C y z).before a0 Z = true) (w4 : (Jvm.Cond.instanceMethod z).before a0 Z = true) (hy : y.cls ≠ "java/lang/invoke/MethodHandle" ∧ y.cls ≠ "java/lang/invoke/VarHandle") {a : Addr} (E : Exa Z h a C) {W k j : Nat} {argsL : List Value} (hS : s.Since vm0 k0) (hk : k0 ≤ h.size) (hK : PaysS l R p e below s vm0 args z 3 W (.ref a :: argsL).toArray h k j Z EL Q) (eT : T.heap = h) (hsz : Ls.size = c.maxLocals) (hlen : ∀ sig, parseMethodDescriptor y.desc = some sig → argsL.length = sig.parameters.length) {stk : List Value} (hs : stk = argsL.reverse ++ .ref a :: st) (hW : (st.map fun v => v.category).sum ≤ W) (cells' slots' : Nat) (hcl : cells + k = cells') (hsl : slots + j = slots') (hc : cells' ≤ R.cells) (hl : slots' ≤ R.slots) (pc' : Nat) (hd : decode c.code pc = .ok (.invokevirtual index, 3)) (hp : pc + 3 = pc') (r : ∀ v T' h' L' Lc vm1 k1, Stand p l e R (s.setVm vm1) m args below meth c T' L' cells' slots' → T'.heap = h' → L' = locs ++ Lc → s.Since vm1 k1 → k1 ≤ h'.size → Z.Warmed39 vm1 → vm1.findClass own = some m.cls → CHr Z EL vm0 h vm1 h' → Q v h' Lc → Go p e below P T' (mkF m pc' Ls (v.toList ++ st))) : Go p e below P T (mkF m pc Ls stk) := by
  subst hp hcl hsl
  subst eT
  obtain ⟨v, vm₁, ⟨T', L', k', n'⟩, -, X', hS', hgr, ⟨Lc, hQ, h1, h2, h3, hC⟩, hst⟩ := X.virtualBackS hx hown (mvT hZ w1) (mvT hZ w2) nf (mvT hZ w3) (mvT hZ w4) hy hK (isOf hZ rfl E).choose_spec.choose_spec.1 (isOf hZ rfl E).choose_spec.choose_spec.2.2 (g := mkF m pc Ls stk) rfl hsz (Steps.refl _) hlen hs (by show 2 * 0 + _ ≤ _; omega) hd (fun _ _ => ⟨rfl, rfl, hc, hl⟩)
  dsimp only at X' hS' hgr hQ h1 h2 h3 hC hst
  subst h1 h2 h3
  obtain ⟨X2, hS2, hZ2, ho2⟩ := rebS (Z := Z) (own := own) hS hk X' hS' hgr hZ hown
  exact Go.tr hst (r v T' _ _ Lc _ _ X2 rfl rfl hS2 (Nat.le_refl _) hZ2 ho2 hC hQ)
theorem gpriv (X : Stand p l e R s m args below meth c T locs cells slots) (hx : p.tables.exec = Jvm.exec) (hZ : Z.Warmed39 s.vm) {own : String} {index : Nat} (hown : s.vm.findClass own = some m.cls) {y : MethodName} {bytes : ByteArray} {maxL : Nat} {ret : Option FieldType} (w1 : (Jvm.Cond.methodLink own index y).before a0 Z = true) (w2 : (Jvm.Cond.instanceMethod y).before a0 Z = true) (nf : NotFace s y) (w4 : (Jvm.Cond.privateMethod y).before a0 Z = true) (w5 : (Jvm.Cond.code y bytes maxL ret).before a0 Z = true) (hy : y.cls ≠ "java/lang/invoke/MethodHandle" ∧ y.cls ≠ "java/lang/invoke/VarHandle") {a : Addr} {C : String} (E : Exa Z h a C) {W k j : Nat} {argsL : List Value} (hK : Pays l R p e below s args y 3 W (.ref a :: argsL).toArray h k j Q) (eT : T.heap = h) (hsz : Ls.size = c.maxLocals) (hlen : ∀ sig, parseMethodDescriptor y.desc = some sig → argsL.length = sig.parameters.length) {stk : List Value} (hs : stk = argsL.reverse ++ .ref a :: st) (hW : (st.map fun v => v.category).sum ≤ W) (cells' slots' : Nat) (hcl : cells + k = cells') (hsl : slots + j = slots') (hc : cells' ≤ R.cells) (hl : slots' ≤ R.slots) (pc' : Nat) (hd : decode c.code pc = .ok (.invokevirtual index, 3)) (hp : pc + 3 = pc') (r : ∀ v T' h' L' Lc, Stand p l e R s m args below meth c T' L' cells' slots' → T'.heap = h' → L' = locs ++ Lc → Q v h' Lc → Go p e below P T' (mkF m pc' Ls (v.toList ++ st))) : Go p e below P T (mkF m pc Ls stk) := by
  subst hp hcl hsl
  obtain ⟨v, vm₁, ⟨T', L', k', n'⟩, -, X', ⟨Lc, hQ, h1, h2, h3⟩, hst⟩ := X.privateBack hx hown (mvT hZ w1) (mvT hZ w2) (selP nf (Cond.privateMethod_at (mvP hZ w4 (args := #[]))) (mvT hZ w2) hy) (Cond.privateMethod_at (mvP hZ w4 (args := #[]))) (mvT hZ w5) hy hK (g := mkF m pc Ls stk) rfl hsz (Steps.refl _) (by rw [eT]; exact E.cell.choose_spec.1) E.cell.choose_spec.2 hlen hs (by show 2 * 0 + _ ≤ _; omega) hd (fun _ _ => ⟨rfl, eT, hc, hl⟩)
  dsimp only at X' hQ h1 h2 h3 hst
  subst h1 h2 h3
  exact Go.tr hst (r v T' _ _ Lc X' rfl rfl hQ)
theorem gsuper (X : Stand p l e R s m args below meth c T locs cells slots) (hx : p.tables.exec = Jvm.exec) (hZ : Z.Warmed39 s.vm) {own : String} {index : Nat} (hown : s.vm.findClass own = some m.cls) {y : MethodName} {bytes : ByteArray} {maxL : Nat} {ret : Option FieldType} {K : String} (w1 : (Jvm.Cond.methodLink own index y).before a0 Z = true) (w2 : (Jvm.Cond.sameMethod y.cls y.cls y.name y.desc).before a0 Z = true) (w3 : (Jvm.Cond.instanceMethod y).before a0 Z = true) (w4 : (Jvm.Cond.superclass own y.cls).before a0 Z = true) (hy1 : y.name ≠ "<init>") (wc : (Jvm.Cond.code y bytes maxL ret).before a0 Z = true) {a : Addr} (F : Ins Z h a K true) {W k j : Nat} {argsL : List Value} (hK : Pays l R p e below s args y 3 W (.ref a :: argsL).toArray h k j Q) (eT : T.heap = h) (hsz : Ls.size = c.maxLocals) (hlen : ∀ sig, parseMethodDescriptor y.desc = some sig → argsL.length = sig.parameters.length) {stk : List Value} (hs : stk = argsL.reverse ++ .ref a :: st) (hW : (st.map fun v => v.category).sum ≤ W) (cells' slots' : Nat) (hcl : cells + k = cells') (hsl : slots + j = slots') (hc : cells' ≤ R.cells) (hl : slots' ≤ R.slots) (pc' : Nat) (hd : decode c.code pc = .ok (.invokespecial index, 3)) (hp : pc + 3 = pc') (r : ∀ v T' h' L' Lc, Stand p l e R s m args below meth c T' L' cells' slots' → T'.heap = h' → L' = locs ++ Lc → Q v h' Lc → Go p e below P T' (mkF m pc' Ls (v.toList ++ st))) : Go p e below P T (mkF m pc Ls stk) := by
  subst hp hcl hsl
  obtain ⟨v, vm₁, ⟨T', L', k', n'⟩, -, X', ⟨Lc, hQ, h1, h2, h3⟩, hst⟩ := superBack X hx hZ hown w1 w2 w3 w4 hy1 hK eT F (g := mkF m pc Ls stk) rfl hsz wc hlen hs (by show 2 * 0 + _ ≤ _; omega) hd (fun _ _ => ⟨rfl, eT, hc, hl⟩)
  dsimp only at X' hQ h1 h2 h3 hst
  subst h1 h2 h3
  exact Go.tr hst (r v T' _ _ Lc X' rfl rfl hQ)
theorem gldcV (X : Stand p l e R (s.setVm vm0) m args below meth c T locs cells slots) (hx : p.tables.exec = Jvm.exec) (hZ : Z.Warmed39 vm0) {own text : String} {index : Nat} (hown : vm0.findClass own = some m.cls) (w : (Jvm.Cond.stringLink own index text).before a0 Z = true) (wS : ∀ a ∈ Bundle.stringAtoms, a.before a0 Z = true) (eT : T.heap = h) (hS : s.Since vm0 k0) (hk : k0 ≤ h.size) (hEL : EW Z a0 EL) (hmem : (own, index) ∈ EL) (H : CHv Z EL vm0 h) (vs : List Value) (z : Int32) (ht : (∀ c ∈ text.toList, c.toNat < 256) ∧ text.toList.map (fun c => Value.int (Jvm.Lit.byteI c.toNat.toUInt16)) = vs) (hz : ¬ z < 0) (hzl : z.toNatClampNeg = vs.length) (n : Nat) (hn : 4 * text.toList.length ≤ n) (hbig : n ≤ 536870912) (cells' slots' : Nat) (hcl : cells + 2 = cells') (hsl : slots + (n + 4) = slots') (hc : cells' ≤ R.cells) (hl : slots' ≤ R.slots) (pc' : Nat) (hd : decode c.code pc = .ok (.ldc index, 2)) (hp : pc + 2 = pc') (r : ∀ a T' h' vm1 k1 b kb, Stand p l e R (s.setVm vm1) m args below meth c T' locs cells' slots' → T'.heap = h' → Ext h h' → s.Since vm1 k1 → k1 ≤ h'.size → Z.Warmed39 vm1 → vm1.findClass own = some m.cls → CHr Z EL vm0 h vm1 h' → Lit (s.setVm vm1) own index a → Exa Z h' a "java/lang/String" → Fld Z h' a "java/lang/String" "coder" "B" (.int 0) → Fld Z h' a "java/lang/String" "value" "[B" (.ref b) → Arv Z h' b kb .byte z vs (.int 0) → (∀ x, Safe Z EL vm1 h' x → x ≠ a ∧ x ≠ b) → Go p e below P T' (mkF m pc' Ls (.ref a :: st))) : Go p e below P T (mkF m pc Ls st) := by
  subst hp hcl hsl
  obtain ⟨a, T', h', k1, b, kb, X', e', E', hS', hk', hZ', ho', q1, q2, q3, q4, -, -, hC', hL', hne, stp⟩ := ldcCH X hx hZ hown w wS eT hS hk hEL hmem H ht hz hzl (g := mkF m pc Ls st) rfl hd hn hbig hc hl
  exact Go.of stp (r a T' h' _ k1 b kb X' e' E' hS' hk' hZ' ho' hC' hL' q1 q2 q3 q4 hne)
end Own
end Jvm.Own
namespace Jvm.Pilot.@@N@@
open Jvm Jvm.ClassFile Sem Op Lib Jvm.Free Jvm.Stand Jvm.LawKit Jvm.RoadKit Bundle Jvm.Own Jvm.Pilot.@@N@@.Jvm.D
abbrev HW_ (a0 : Array Value) (Z : State) : Prop := ∀ d ∈ tables_1, d.before a0 Z = true
theorem own_c0 {P : Int32 → Prop} : ∀ c ∈ ([] : List Int32), P c := fun _ z => nomatch z
theorem own_cS {P : Int32 → Prop} {y : Int32} {L : List Int32} (h : P y) (r : ∀ c ∈ L, P c) : ∀ c ∈ y :: L, P c := fun c z => (List.mem_cons.mp z).elim (fun u => u ▸ h) (r c)
theorem own_lo (x : Int32) : ∃ k : Fin 256, x &&& (255 : Int32) = Int32.ofNat k.val := by
  have h : (x &&& 255).toBitVec.toNat < 256 := by
    simp only [Int32.toBitVec_and, BitVec.toNat_and]
    exact Nat.lt_succ_of_le Nat.and_le_right
  refine ⟨⟨_, h⟩, ?_⟩
  apply Int32.toBitVec_inj.mp
  show _ = BitVec.ofNat 32 _
  rw [BitVec.ofNat_toNat]; simp
theorem own_rng (x : Int32) : ¬ (x &&& (255 : Int32)) < 0 ∧ ¬ (255 : Int32) < (x &&& (255 : Int32)) := by
  obtain ⟨k, e⟩ := own_lo x
  rw [e]; clear e; revert k; decide +kernel
theorem own_i2c8 (x : Int32) : (x &&& (255 : Int32)).toUInt32.toUInt16.toUInt32.toInt32 = (x &&& (255 : Int32)) := by
  obtain ⟨k, e⟩ := own_lo x
  rw [e]; clear e; revert k; decide +kernel
theorem own_nar8 (x : Int32) : nar .char (x &&& (255 : Int32)) = (x &&& (255 : Int32)) := own_i2c8 x
theorem own_nar16 (x : Int32) : nar .char (x &&& (255 : Int32)).toUInt32.toUInt16.toUInt32.toInt32 = (x &&& (255 : Int32)) := by rw [own_i2c8]; exact own_i2c8 x
theorem own_narb (x : Int32) : nar .byte x.toInt8.toInt32 = x.toInt8.toInt32 := by show x.toInt8.toInt32.toInt8.toInt32 = _; rw [Int8.toInt8_toInt32]
theorem own_up (cs : List Int32) (h : ∀ c ∈ cs, ¬ c < 0 ∧ ¬ (255 : Int32) < c) : ∀ c ∈ cs, ¬ c < 0 ∧ ¬ (65535 : Int32) < c := fun c hc => ⟨(h c hc).1, fun q => (h c hc).2 (by rw [Int32.lt_iff_toInt_lt] at q ⊢; have e1 : (65535 : Int32).toInt = 65535 := rfl; have e2 : (255 : Int32).toInt = 255 := rfl; omega)⟩
theorem own_wS {a0 : Array Value} {Z : State} (hw : HW_ a0 Z) : ∀ a ∈ Bundle.stringAtoms, a.before a0 Z = true := fun d hd => hw d ((by decide +kernel : ∀ d ∈ Bundle.stringAtoms, d ∈ tables_1) d hd)
theorem own_hws {a0 : Array Value} {Z : State} (hw : HW_ a0 Z) : ∀ d ∈ StrChars.Road.words, d.before a0 Z = true := fun d hd => hw d ((by decide +kernel : ∀ d ∈ StrChars.Road.words, d ∈ tables_1) d hd)
theorem own_heq {a0 : Array Value} {Z : State} (hw : HW_ a0 Z) : ∀ d ∈ StrChars.Road.wordsEq, d.before a0 Z = true := fun d hd => hw d ((by decide +kernel : ∀ d ∈ StrChars.Road.wordsEq, d ∈ tables_1) d hd)
theorem own_w0 {a0 : Array Value} {Z : State} (hw : HW_ a0 Z) : (Jvm.Cond.classLink "com/example/sessionsmith/sessionsmith/SchemaProblemToStringPinLaw" (7 : Nat) "java/lang/String").before a0 Z = true := hw _ (List.mem_of_getElem? (i := 0) rfl)
theorem own_w1 {a0 : Array Value} {Z : State} (hw : HW_ a0 Z) : (Jvm.Cond.instantiable "java/lang/String" (4 : Nat)).before a0 Z = true := hw _ (List.mem_of_getElem? (i := 1) rfl)
theorem own_w2 {a0 : Array Value} {Z : State} (hw : HW_ a0 Z) : (Jvm.Cond.initialized "java/lang/String").before a0 Z = true := hw _ (List.mem_of_getElem? (i := 2) rfl)
theorem own_w3 {a0 : Array Value} {Z : State} (hw : HW_ a0 Z) : (Jvm.Cond.arrayClass Jvm.ClassFile.FieldType.char).before a0 Z = true := hw _ (List.mem_of_getElem? (i := 3) rfl)
theorem own_w4 {a0 : Array Value} {Z : State} (hw : HW_ a0 Z) : (Jvm.Cond.methodLink "com/example/sessionsmith/sessionsmith/SchemaProblemToStringPinLaw" (9 : Nat) ({ cls := "java/lang/String", name := "<init>", desc := "([C)V" } : Jvm.MethodName)).before a0 Z = true := hw _ (List.mem_of_getElem? (i := 4) rfl)
theorem own_w5 {a0 : Array Value} {Z : State} (hw : HW_ a0 Z) : (Jvm.Cond.instanceMethod ({ cls := "java/lang/String", name := "<init>", desc := "([C)V" } : Jvm.MethodName)).before a0 Z = true := hw _ (List.mem_of_getElem? (i := 5) rfl)
theorem own_w6 {a0 : Array Value} {Z : State} (hw : HW_ a0 Z) : (Jvm.Cond.code ({ cls := "java/lang/String", name := "<init>", desc := "([C)V" } : Jvm.MethodName) jdk_42_method_3_code (2 : Nat) (Option.none : Option Jvm.ClassFile.FieldType)).before a0 Z = true := hw _ (List.mem_of_getElem? (i := 6) rfl)
theorem own_w11 {a0 : Array Value} {Z : State} (hw : HW_ a0 Z) : (Jvm.Cond.methodLink "java/lang/String" (1 : Nat) ({ cls := "java/lang/Object", name := "<init>", desc := "()V" } : Jvm.MethodName)).before a0 Z = true := hw _ (List.mem_of_getElem? (i := 11) rfl)
theorem own_w12 {a0 : Array Value} {Z : State} (hw : HW_ a0 Z) : (Jvm.Cond.instanceMethod ({ cls := "java/lang/Object", name := "<init>", desc := "()V" } : Jvm.MethodName)).before a0 Z = true := hw _ (List.mem_of_getElem? (i := 12) rfl)
theorem own_w13 {a0 : Array Value} {Z : State} (hw : HW_ a0 Z) : (Jvm.Cond.code ({ cls := "java/lang/Object", name := "<init>", desc := "()V" } : Jvm.MethodName) object_method_1_code (1 : Nat) (Option.none : Option Jvm.ClassFile.FieldType)).before a0 Z = true := hw _ (List.mem_of_getElem? (i := 13) rfl)
theorem own_w14 {a0 : Array Value} {Z : State} (hw : HW_ a0 Z) : (Jvm.Cond.fieldLink "java/lang/String" (38 : Nat) "java/lang/String" "COMPACT_STRINGS" "Z").before a0 Z = true := hw _ (List.mem_of_getElem? (i := 14) rfl)
theorem own_w19 {a0 : Array Value} {Z : State} (hw : HW_ a0 Z) : (Jvm.Cond.arrayClass Jvm.ClassFile.FieldType.byte).before a0 Z = true := hw _ (List.mem_of_getElem? (i := 19) rfl)
theorem own_w26 {a0 : Array Value} {Z : State} (hw : HW_ a0 Z) : (Jvm.Cond.fieldLink "java/lang/String" (15 : Nat) "java/lang/String" "coder" "B").before a0 Z = true := hw _ (List.mem_of_getElem? (i := 26) rfl)
theorem own_w27 {a0 : Array Value} {Z : State} (hw : HW_ a0 Z) : (Jvm.Cond.laysFinal "java/lang/String" "java/lang/String" "coder" "B").before a0 Z = true := hw _ (List.mem_of_getElem? (i := 27) rfl)
theorem own_w28 {a0 : Array Value} {Z : State} (hw : HW_ a0 Z) : (Jvm.Cond.fieldLink "java/lang/String" (9 : Nat) "java/lang/String" "value" "[B").before a0 Z = true := hw _ (List.mem_of_getElem? (i := 28) rfl)
theorem own_w29 {a0 : Array Value} {Z : State} (hw : HW_ a0 Z) : (Jvm.Cond.laysFinal "java/lang/String" "java/lang/String" "value" "[B").before a0 Z = true := hw _ (List.mem_of_getElem? (i := 29) rfl)
theorem own_w30 {a0 : Array Value} {Z : State} (hw : HW_ a0 Z) : (Jvm.Cond.methodLink "com/example/sessionsmith/sessionsmith/SchemaProblemToStringPinLaw" (12 : Nat) ({ cls := "com/example/sessionsmith/sessionsmith/SchemaProblemToStringPinLaw", name := "putTableWord", desc := "([CI)V" } : Jvm.MethodName)).before a0 Z = true := hw _ (List.mem_of_getElem? (i := 30) rfl)
theorem own_w31 {a0 : Array Value} {Z : State} (hw : HW_ a0 Z) : (Jvm.Cond.static ({ cls := "com/example/sessionsmith/sessionsmith/SchemaProblemToStringPinLaw", name := "putTableWord", desc := "([CI)V" } : Jvm.MethodName)).before a0 Z = true := hw _ (List.mem_of_getElem? (i := 31) rfl)
theorem own_w32 {a0 : Array Value} {Z : State} (hw : HW_ a0 Z) : (Jvm.Cond.initialized "com/example/sessionsmith/sessionsmith/SchemaProblemToStringPinLaw").before a0 Z = true := hw _ (List.mem_of_getElem? (i := 32) rfl)
theorem own_w33 {a0 : Array Value} {Z : State} (hw : HW_ a0 Z) : (Jvm.Cond.code ({ cls := "com/example/sessionsmith/sessionsmith/SchemaProblemToStringPinLaw", name := "putTableWord", desc := "([CI)V" } : Jvm.MethodName) method_3_code (2 : Nat) (Option.none : Option Jvm.ClassFile.FieldType)).before a0 Z = true := hw _ (List.mem_of_getElem? (i := 33) rfl)
theorem own_w34 {a0 : Array Value} {Z : State} (hw : HW_ a0 Z) : (Jvm.Cond.methodLink "com/example/sessionsmith/sessionsmith/SchemaProblemToStringPinLaw" (18 : Nat) ({ cls := "com/example/sessionsmith/sessionsmith/SchemaProblemToStringPinLaw", name := "putIsMissing", desc := "([CI)V" } : Jvm.MethodName)).before a0 Z = true := hw _ (List.mem_of_getElem? (i := 34) rfl)
theorem own_w35 {a0 : Array Value} {Z : State} (hw : HW_ a0 Z) : (Jvm.Cond.static ({ cls := "com/example/sessionsmith/sessionsmith/SchemaProblemToStringPinLaw", name := "putIsMissing", desc := "([CI)V" } : Jvm.MethodName)).before a0 Z = true := hw _ (List.mem_of_getElem? (i := 35) rfl)
theorem own_w36 {a0 : Array Value} {Z : State} (hw : HW_ a0 Z) : (Jvm.Cond.code ({ cls := "com/example/sessionsmith/sessionsmith/SchemaProblemToStringPinLaw", name := "putIsMissing", desc := "([CI)V" } : Jvm.MethodName) method_2_code (2 : Nat) (Option.none : Option Jvm.ClassFile.FieldType)).before a0 Z = true := hw _ (List.mem_of_getElem? (i := 36) rfl)
theorem own_w37 {a0 : Array Value} {Z : State} (hw : HW_ a0 Z) : (Jvm.Cond.classLink "com/example/sessionsmith/sessionsmith/SchemaProblemToStringPinLaw" (21 : Nat) "com/example/sessionsmith/sessionsmith/SchemaProblem").before a0 Z = true := hw _ (List.mem_of_getElem? (i := 37) rfl)
theorem own_w38 {a0 : Array Value} {Z : State} (hw : HW_ a0 Z) : (Jvm.Cond.instantiable "com/example/sessionsmith/sessionsmith/SchemaProblem" (2 : Nat)).before a0 Z = true := hw _ (List.mem_of_getElem? (i := 38) rfl)
theorem own_w39 {a0 : Array Value} {Z : State} (hw : HW_ a0 Z) : (Jvm.Cond.initialized "com/example/sessionsmith/sessionsmith/SchemaProblem").before a0 Z = true := hw _ (List.mem_of_getElem? (i := 39) rfl)
theorem own_w40 {a0 : Array Value} {Z : State} (hw : HW_ a0 Z) : (Jvm.Cond.methodLink "com/example/sessionsmith/sessionsmith/SchemaProblemToStringPinLaw" (23 : Nat) ({ cls := "com/example/sessionsmith/sessionsmith/SchemaProblem", name := "<init>", desc := "(Ljava/lang/String;Ljava/lang/String;)V" } : Jvm.MethodName)).before a0 Z = true := hw _ (List.mem_of_getElem? (i := 40) rfl)
theorem own_w41 {a0 : Array Value} {Z : State} (hw : HW_ a0 Z) : (Jvm.Cond.instanceMethod ({ cls := "com/example/sessionsmith/sessionsmith/SchemaProblem", name := "<init>", desc := "(Ljava/lang/String;Ljava/lang/String;)V" } : Jvm.MethodName)).before a0 Z = true := hw _ (List.mem_of_getElem? (i := 41) rfl)
theorem own_w42 {a0 : Array Value} {Z : State} (hw : HW_ a0 Z) : (Jvm.Cond.code ({ cls := "com/example/sessionsmith/sessionsmith/SchemaProblem", name := "<init>", desc := "(Ljava/lang/String;Ljava/lang/String;)V" } : Jvm.MethodName) prog_8_method_1_code (3 : Nat) (Option.none : Option Jvm.ClassFile.FieldType)).before a0 Z = true := hw _ (List.mem_of_getElem? (i := 42) rfl)
theorem own_w43 {a0 : Array Value} {Z : State} (hw : HW_ a0 Z) : (Jvm.Cond.methodLink "com/example/sessionsmith/sessionsmith/SchemaProblem" (1 : Nat) ({ cls := "java/lang/Record", name := "<init>", desc := "()V" } : Jvm.MethodName)).before a0 Z = true := hw _ (List.mem_of_getElem? (i := 43) rfl)
theorem own_w44 {a0 : Array Value} {Z : State} (hw : HW_ a0 Z) : (Jvm.Cond.instanceMethod ({ cls := "java/lang/Record", name := "<init>", desc := "()V" } : Jvm.MethodName)).before a0 Z = true := hw _ (List.mem_of_getElem? (i := 44) rfl)
theorem own_w46 {a0 : Array Value} {Z : State} (hw : HW_ a0 Z) : (Jvm.Cond.initialized "java/lang/Record").before a0 Z = true := hw _ (List.mem_of_getElem? (i := 46) rfl)
theorem own_w47 {a0 : Array Value} {Z : State} (hw : HW_ a0 Z) : (Jvm.Cond.code ({ cls := "java/lang/Record", name := "<init>", desc := "()V" } : Jvm.MethodName) jdk_30_method_1_code (1 : Nat) (Option.none : Option Jvm.ClassFile.FieldType)).before a0 Z = true := hw _ (List.mem_of_getElem? (i := 47) rfl)
theorem own_w48 {a0 : Array Value} {Z : State} (hw : HW_ a0 Z) : (Jvm.Cond.methodLink "java/lang/Record" (1 : Nat) ({ cls := "java/lang/Object", name := "<init>", desc := "()V" } : Jvm.MethodName)).before a0 Z = true := hw _ (List.mem_of_getElem? (i := 48) rfl)
theorem own_w49 {a0 : Array Value} {Z : State} (hw : HW_ a0 Z) : (Jvm.Cond.stringLink "com/example/sessionsmith/sessionsmith/SchemaProblem" (7 : Nat) "table").before a0 Z = true := hw _ (List.mem_of_getElem? (i := 49) rfl)
theorem own_w52 {a0 : Array Value} {Z : State} (hw : HW_ a0 Z) : (Jvm.Cond.methodLink "com/example/sessionsmith/sessionsmith/SchemaProblem" (9 : Nat) ({ cls := "java/util/Objects", name := "requireNonNull", desc := "(Ljava/lang/Object;Ljava/lang/String;)Ljava/lang/Object;" } : Jvm.MethodName)).before a0 Z = true := hw _ (List.mem_of_getElem? (i := 52) rfl)
theorem own_w53 {a0 : Array Value} {Z : State} (hw : HW_ a0 Z) : (Jvm.Cond.static ({ cls := "java/util/Objects", name := "requireNonNull", desc := "(Ljava/lang/Object;Ljava/lang/String;)Ljava/lang/Object;" } : Jvm.MethodName)).before a0 Z = true := hw _ (List.mem_of_getElem? (i := 53) rfl)
theorem own_w54 {a0 : Array Value} {Z : State} (hw : HW_ a0 Z) : (Jvm.Cond.initialized "java/util/Objects").before a0 Z = true := hw _ (List.mem_of_getElem? (i := 54) rfl)
theorem own_w55 {a0 : Array Value} {Z : State} (hw : HW_ a0 Z) : (Jvm.Cond.code ({ cls := "java/util/Objects", name := "requireNonNull", desc := "(Ljava/lang/Object;Ljava/lang/String;)Ljava/lang/Object;" } : Jvm.MethodName) jdk_31_method_11_code (2 : Nat) (Option.some (Jvm.ClassFile.FieldType.object "java/lang/Object"))).before a0 Z = true := hw _ (List.mem_of_getElem? (i := 55) rfl)
theorem own_w56 {a0 : Array Value} {Z : State} (hw : HW_ a0 Z) : (Jvm.Cond.fieldLink "com/example/sessionsmith/sessionsmith/SchemaProblem" (15 : Nat) "com/example/sessionsmith/sessionsmith/SchemaProblem" "table" "Ljava/lang/String;").before a0 Z = true := hw _ (List.mem_of_getElem? (i := 56) rfl)
theorem own_w57 {a0 : Array Value} {Z : State} (hw : HW_ a0 Z) : (Jvm.Cond.laysFinal "com/example/sessionsmith/sessionsmith/SchemaProblem" "com/example/sessionsmith/sessionsmith/SchemaProblem" "table" "Ljava/lang/String;").before a0 Z = true := hw _ (List.mem_of_getElem? (i := 57) rfl)
theorem own_w58 {a0 : Array Value} {Z : State} (hw : HW_ a0 Z) : (Jvm.Cond.fieldLink "com/example/sessionsmith/sessionsmith/SchemaProblem" (20 : Nat) "com/example/sessionsmith/sessionsmith/SchemaProblem" "column" "Ljava/lang/String;").before a0 Z = true := hw _ (List.mem_of_getElem? (i := 58) rfl)
theorem own_w59 {a0 : Array Value} {Z : State} (hw : HW_ a0 Z) : (Jvm.Cond.laysFinal "com/example/sessionsmith/sessionsmith/SchemaProblem" "com/example/sessionsmith/sessionsmith/SchemaProblem" "column" "Ljava/lang/String;").before a0 Z = true := hw _ (List.mem_of_getElem? (i := 59) rfl)
theorem own_w60 {a0 : Array Value} {Z : State} (hw : HW_ a0 Z) : (Jvm.Cond.methodLink "com/example/sessionsmith/sessionsmith/SchemaProblemToStringPinLaw" (26 : Nat) ({ cls := "com/example/sessionsmith/sessionsmith/SchemaProblem", name := "toString", desc := "()Ljava/lang/String;" } : Jvm.MethodName)).before a0 Z = true := hw _ (List.mem_of_getElem? (i := 60) rfl)
theorem own_w61 {a0 : Array Value} {Z : State} (hw : HW_ a0 Z) : (Jvm.Cond.declares ({ cls := "com/example/sessionsmith/sessionsmith/SchemaProblem", name := "toString", desc := "()Ljava/lang/String;" } : Jvm.MethodName)).before a0 Z = true := hw _ (List.mem_of_getElem? (i := 61) rfl)
theorem own_w62 {a0 : Array Value} {Z : State} (hw : HW_ a0 Z) : (Jvm.Cond.instanceMethod ({ cls := "com/example/sessionsmith/sessionsmith/SchemaProblem", name := "toString", desc := "()Ljava/lang/String;" } : Jvm.MethodName)).before a0 Z = true := hw _ (List.mem_of_getElem? (i := 62) rfl)
theorem own_w63 {a0 : Array Value} {Z : State} (hw : HW_ a0 Z) : (Jvm.Cond.selects "com/example/sessionsmith/sessionsmith/SchemaProblem" ({ cls := "com/example/sessionsmith/sessionsmith/SchemaProblem", name := "toString", desc := "()Ljava/lang/String;" } : Jvm.MethodName) ({ cls := "com/example/sessionsmith/sessionsmith/SchemaProblem", name := "toString", desc := "()Ljava/lang/String;" } : Jvm.MethodName)).before a0 Z = true := hw _ (List.mem_of_getElem? (i := 63) rfl)
theorem own_w64 {a0 : Array Value} {Z : State} (hw : HW_ a0 Z) : (Jvm.Cond.code ({ cls := "com/example/sessionsmith/sessionsmith/SchemaProblem", name := "toString", desc := "()Ljava/lang/String;" } : Jvm.MethodName) prog_8_method_2_code (1 : Nat) (Option.some (Jvm.ClassFile.FieldType.object "java/lang/String"))).before a0 Z = true := hw _ (List.mem_of_getElem? (i := 64) rfl)
theorem own_w65 {a0 : Array Value} {Z : State} (hw : HW_ a0 Z) : (Jvm.Cond.classLink "com/example/sessionsmith/sessionsmith/SchemaProblem" (23 : Nat) "java/lang/StringBuilder").before a0 Z = true := hw _ (List.mem_of_getElem? (i := 65) rfl)
theorem own_w66 {a0 : Array Value} {Z : State} (hw : HW_ a0 Z) : (Jvm.Cond.instantiable "java/lang/StringBuilder" (4 : Nat)).before a0 Z = true := hw _ (List.mem_of_getElem? (i := 66) rfl)
theorem own_w67 {a0 : Array Value} {Z : State} (hw : HW_ a0 Z) : (Jvm.Cond.initialized "java/lang/StringBuilder").before a0 Z = true := hw _ (List.mem_of_getElem? (i := 67) rfl)
theorem own_w68 {a0 : Array Value} {Z : State} (hw : HW_ a0 Z) : (Jvm.Cond.methodLink "com/example/sessionsmith/sessionsmith/SchemaProblem" (25 : Nat) ({ cls := "java/lang/StringBuilder", name := "<init>", desc := "()V" } : Jvm.MethodName)).before a0 Z = true := hw _ (List.mem_of_getElem? (i := 68) rfl)
theorem own_w69 {a0 : Array Value} {Z : State} (hw : HW_ a0 Z) : (Jvm.Cond.instanceMethod ({ cls := "java/lang/StringBuilder", name := "<init>", desc := "()V" } : Jvm.MethodName)).before a0 Z = true := hw _ (List.mem_of_getElem? (i := 69) rfl)
theorem own_w70 {a0 : Array Value} {Z : State} (hw : HW_ a0 Z) : (Jvm.Cond.code ({ cls := "java/lang/StringBuilder", name := "<init>", desc := "()V" } : Jvm.MethodName) jdk_67_method_1_code (1 : Nat) (Option.none : Option Jvm.ClassFile.FieldType)).before a0 Z = true := hw _ (List.mem_of_getElem? (i := 70) rfl)
theorem own_w71 {a0 : Array Value} {Z : State} (hw : HW_ a0 Z) : (Jvm.Cond.methodLink "java/lang/StringBuilder" (1 : Nat) ({ cls := "java/lang/AbstractStringBuilder", name := "<init>", desc := "(I)V" } : Jvm.MethodName)).before a0 Z = true := hw _ (List.mem_of_getElem? (i := 71) rfl)
theorem own_w72 {a0 : Array Value} {Z : State} (hw : HW_ a0 Z) : (Jvm.Cond.instanceMethod ({ cls := "java/lang/AbstractStringBuilder", name := "<init>", desc := "(I)V" } : Jvm.MethodName)).before a0 Z = true := hw _ (List.mem_of_getElem? (i := 72) rfl)
theorem own_w75 {a0 : Array Value} {Z : State} (hw : HW_ a0 Z) : (Jvm.Cond.initialized "java/lang/AbstractStringBuilder").before a0 Z = true := hw _ (List.mem_of_getElem? (i := 75) rfl)
theorem own_w76 {a0 : Array Value} {Z : State} (hw : HW_ a0 Z) : (Jvm.Cond.code ({ cls := "java/lang/AbstractStringBuilder", name := "<init>", desc := "(I)V" } : Jvm.MethodName) jdk_68_method_2_code (2 : Nat) (Option.none : Option Jvm.ClassFile.FieldType)).before a0 Z = true := hw _ (List.mem_of_getElem? (i := 76) rfl)
theorem own_w77 {a0 : Array Value} {Z : State} (hw : HW_ a0 Z) : (Jvm.Cond.methodLink "java/lang/AbstractStringBuilder" (3 : Nat) ({ cls := "java/lang/Object", name := "<init>", desc := "()V" } : Jvm.MethodName)).before a0 Z = true := hw _ (List.mem_of_getElem? (i := 77) rfl)
theorem own_w78 {a0 : Array Value} {Z : State} (hw : HW_ a0 Z) : (Jvm.Cond.fieldLink "java/lang/AbstractStringBuilder" (18 : Nat) "java/lang/String" "COMPACT_STRINGS" "Z").before a0 Z = true := hw _ (List.mem_of_getElem? (i := 78) rfl)
theorem own_w79 {a0 : Array Value} {Z : State} (hw : HW_ a0 Z) : (Jvm.Cond.fieldLink "java/lang/AbstractStringBuilder" (15 : Nat) "java/lang/AbstractStringBuilder" "value" "[B").before a0 Z = true := hw _ (List.mem_of_getElem? (i := 79) rfl)
theorem own_w80 {a0 : Array Value} {Z : State} (hw : HW_ a0 Z) : (Jvm.Cond.lays "java/lang/StringBuilder" "java/lang/AbstractStringBuilder" "value" "[B").before a0 Z = true := hw _ (List.mem_of_getElem? (i := 80) rfl)
theorem own_w81 {a0 : Array Value} {Z : State} (hw : HW_ a0 Z) : (Jvm.Cond.fieldLink "java/lang/AbstractStringBuilder" (22 : Nat) "java/lang/AbstractStringBuilder" "coder" "B").before a0 Z = true := hw _ (List.mem_of_getElem? (i := 81) rfl)
theorem own_w82 {a0 : Array Value} {Z : State} (hw : HW_ a0 Z) : (Jvm.Cond.lays "java/lang/StringBuilder" "java/lang/AbstractStringBuilder" "coder" "B").before a0 Z = true := hw _ (List.mem_of_getElem? (i := 82) rfl)
theorem own_w83 {a0 : Array Value} {Z : State} (hw : HW_ a0 Z) : (Jvm.Cond.stringLink "com/example/sessionsmith/sessionsmith/SchemaProblem" (26 : Nat) "table ").before a0 Z = true := hw _ (List.mem_of_getElem? (i := 83) rfl)
theorem own_w84 {a0 : Array Value} {Z : State} (hw : HW_ a0 Z) : (Jvm.Cond.methodLink "com/example/sessionsmith/sessionsmith/SchemaProblem" (28 : Nat) ({ cls := "java/lang/StringBuilder", name := "append", desc := "(Ljava/lang/String;)Ljava/lang/StringBuilder;" } : Jvm.MethodName)).before a0 Z = true := hw _ (List.mem_of_getElem? (i := 84) rfl)
theorem own_w85 {a0 : Array Value} {Z : State} (hw : HW_ a0 Z) : (Jvm.Cond.declares ({ cls := "java/lang/StringBuilder", name := "append", desc := "(Ljava/lang/String;)Ljava/lang/StringBuilder;" } : Jvm.MethodName)).before a0 Z = true := hw _ (List.mem_of_getElem? (i := 85) rfl)
theorem own_w86 {a0 : Array Value} {Z : State} (hw : HW_ a0 Z) : (Jvm.Cond.instanceMethod ({ cls := "java/lang/StringBuilder", name := "append", desc := "(Ljava/lang/String;)Ljava/lang/StringBuilder;" } : Jvm.MethodName)).before a0 Z = true := hw _ (List.mem_of_getElem? (i := 86) rfl)
theorem own_w87 {a0 : Array Value} {Z : State} (hw : HW_ a0 Z) : (Jvm.Cond.selects "java/lang/StringBuilder" ({ cls := "java/lang/StringBuilder", name := "append", desc := "(Ljava/lang/String;)Ljava/lang/StringBuilder;" } : Jvm.MethodName) ({ cls := "java/lang/StringBuilder", name := "append", desc := "(Ljava/lang/String;)Ljava/lang/StringBuilder;" } : Jvm.MethodName)).before a0 Z = true := hw _ (List.mem_of_getElem? (i := 87) rfl)
theorem own_w88 {a0 : Array Value} {Z : State} (hw : HW_ a0 Z) : (Jvm.Cond.code ({ cls := "java/lang/StringBuilder", name := "append", desc := "(Ljava/lang/String;)Ljava/lang/StringBuilder;" } : Jvm.MethodName) jdk_67_method_7_code (2 : Nat) (Option.some (Jvm.ClassFile.FieldType.object "java/lang/StringBuilder"))).before a0 Z = true := hw _ (List.mem_of_getElem? (i := 88) rfl)
theorem own_w89 {a0 : Array Value} {Z : State} (hw : HW_ a0 Z) : (Jvm.Cond.methodLink "java/lang/StringBuilder" (29 : Nat) ({ cls := "java/lang/AbstractStringBuilder", name := "append", desc := "(Ljava/lang/String;)Ljava/lang/AbstractStringBuilder;" } : Jvm.MethodName)).before a0 Z = true := hw _ (List.mem_of_getElem? (i := 89) rfl)
theorem own_w90 {a0 : Array Value} {Z : State} (hw : HW_ a0 Z) : (Jvm.Cond.instanceMethod ({ cls := "java/lang/AbstractStringBuilder", name := "append", desc := "(Ljava/lang/String;)Ljava/lang/AbstractStringBuilder;" } : Jvm.MethodName)).before a0 Z = true := hw _ (List.mem_of_getElem? (i := 90) rfl)
theorem own_w91 {a0 : Array Value} {Z : State} (hw : HW_ a0 Z) : (Jvm.Cond.superclass "java/lang/StringBuilder" "java/lang/AbstractStringBuilder").before a0 Z = true := hw _ (List.mem_of_getElem? (i := 91) rfl)
theorem own_w93 {a0 : Array Value} {Z : State} (hw : HW_ a0 Z) : (Jvm.Cond.code ({ cls := "java/lang/AbstractStringBuilder", name := "append", desc := "(Ljava/lang/String;)Ljava/lang/AbstractStringBuilder;" } : Jvm.MethodName) jdk_68_method_22_code (3 : Nat) (Option.some (Jvm.ClassFile.FieldType.object "java/lang/AbstractStringBuilder"))).before a0 Z = true := hw _ (List.mem_of_getElem? (i := 93) rfl)
theorem own_w94 {a0 : Array Value} {Z : State} (hw : HW_ a0 Z) : (Jvm.Cond.methodLink "java/lang/AbstractStringBuilder" (32 : Nat) ({ cls := "java/lang/String", name := "length", desc := "()I" } : Jvm.MethodName)).before a0 Z = true := hw _ (List.mem_of_getElem? (i := 94) rfl)
theorem own_w95 {a0 : Array Value} {Z : State} (hw : HW_ a0 Z) : (Jvm.Cond.declares ({ cls := "java/lang/String", name := "length", desc := "()I" } : Jvm.MethodName)).before a0 Z = true := hw _ (List.mem_of_getElem? (i := 95) rfl)
theorem own_w96 {a0 : Array Value} {Z : State} (hw : HW_ a0 Z) : (Jvm.Cond.instanceMethod ({ cls := "java/lang/String", name := "length", desc := "()I" } : Jvm.MethodName)).before a0 Z = true := hw _ (List.mem_of_getElem? (i := 96) rfl)
theorem own_w97 {a0 : Array Value} {Z : State} (hw : HW_ a0 Z) : (Jvm.Cond.selects "java/lang/String" ({ cls := "java/lang/String", name := "length", desc := "()I" } : Jvm.MethodName) ({ cls := "java/lang/String", name := "length", desc := "()I" } : Jvm.MethodName)).before a0 Z = true := hw _ (List.mem_of_getElem? (i := 97) rfl)
theorem own_w98 {a0 : Array Value} {Z : State} (hw : HW_ a0 Z) : (Jvm.Cond.code ({ cls := "java/lang/String", name := "length", desc := "()I" } : Jvm.MethodName) jdk_42_method_54_code (1 : Nat) (Option.some Jvm.ClassFile.FieldType.int)).before a0 Z = true := hw _ (List.mem_of_getElem? (i := 98) rfl)
theorem own_w99 {a0 : Array Value} {Z : State} (hw : HW_ a0 Z) : (Jvm.Cond.methodLink "java/lang/String" (335 : Nat) ({ cls := "java/lang/String", name := "coder", desc := "()B" } : Jvm.MethodName)).before a0 Z = true := hw _ (List.mem_of_getElem? (i := 99) rfl)
theorem own_w100 {a0 : Array Value} {Z : State} (hw : HW_ a0 Z) : (Jvm.Cond.declares ({ cls := "java/lang/String", name := "coder", desc := "()B" } : Jvm.MethodName)).before a0 Z = true := hw _ (List.mem_of_getElem? (i := 100) rfl)
theorem own_w101 {a0 : Array Value} {Z : State} (hw : HW_ a0 Z) : (Jvm.Cond.instanceMethod ({ cls := "java/lang/String", name := "coder", desc := "()B" } : Jvm.MethodName)).before a0 Z = true := hw _ (List.mem_of_getElem? (i := 101) rfl)
theorem own_w102 {a0 : Array Value} {Z : State} (hw : HW_ a0 Z) : (Jvm.Cond.selects "java/lang/String" ({ cls := "java/lang/String", name := "coder", desc := "()B" } : Jvm.MethodName) ({ cls := "java/lang/String", name := "coder", desc := "()B" } : Jvm.MethodName)).before a0 Z = true := hw _ (List.mem_of_getElem? (i := 102) rfl)
theorem own_w103 {a0 : Array Value} {Z : State} (hw : HW_ a0 Z) : (Jvm.Cond.code ({ cls := "java/lang/String", name := "coder", desc := "()B" } : Jvm.MethodName) jdk_42_method_152_code (1 : Nat) (Option.some Jvm.ClassFile.FieldType.byte)).before a0 Z = true := hw _ (List.mem_of_getElem? (i := 103) rfl)
theorem own_w104 {a0 : Array Value} {Z : State} (hw : HW_ a0 Z) : (Jvm.Cond.fieldLink "java/lang/AbstractStringBuilder" (79 : Nat) "java/lang/AbstractStringBuilder" "count" "I").before a0 Z = true := hw _ (List.mem_of_getElem? (i := 104) rfl)
theorem own_w105 {a0 : Array Value} {Z : State} (hw : HW_ a0 Z) : (Jvm.Cond.lays "java/lang/StringBuilder" "java/lang/AbstractStringBuilder" "count" "I").before a0 Z = true := hw _ (List.mem_of_getElem? (i := 105) rfl)
theorem own_w106 {a0 : Array Value} {Z : State} (hw : HW_ a0 Z) : (Jvm.Cond.methodLink "java/lang/AbstractStringBuilder" (100 : Nat) ({ cls := "java/lang/AbstractStringBuilder", name := "ensureCapacityInternal", desc := "(I)V" } : Jvm.MethodName)).before a0 Z = true := hw _ (List.mem_of_getElem? (i := 106) rfl)
theorem own_w107 {a0 : Array Value} {Z : State} (hw : HW_ a0 Z) : (Jvm.Cond.instanceMethod ({ cls := "java/lang/AbstractStringBuilder", name := "ensureCapacityInternal", desc := "(I)V" } : Jvm.MethodName)).before a0 Z = true := hw _ (List.mem_of_getElem? (i := 107) rfl)
theorem own_w108 {a0 : Array Value} {Z : State} (hw : HW_ a0 Z) : (Jvm.Cond.privateMethod ({ cls := "java/lang/AbstractStringBuilder", name := "ensureCapacityInternal", desc := "(I)V" } : Jvm.MethodName)).before a0 Z = true := hw _ (List.mem_of_getElem? (i := 108) rfl)
theorem own_w109 {a0 : Array Value} {Z : State} (hw : HW_ a0 Z) : (Jvm.Cond.selects "java/lang/StringBuilder" ({ cls := "java/lang/AbstractStringBuilder", name := "ensureCapacityInternal", desc := "(I)V" } : Jvm.MethodName) ({ cls := "java/lang/AbstractStringBuilder", name := "ensureCapacityInternal", desc := "(I)V" } : Jvm.MethodName)).before a0 Z = true := hw _ (List.mem_of_getElem? (i := 109) rfl)
theorem own_w110 {a0 : Array Value} {Z : State} (hw : HW_ a0 Z) : (Jvm.Cond.code ({ cls := "java/lang/AbstractStringBuilder", name := "ensureCapacityInternal", desc := "(I)V" } : Jvm.MethodName) jdk_68_method_9_code (3 : Nat) (Option.none : Option Jvm.ClassFile.FieldType)).before a0 Z = true := hw _ (List.mem_of_getElem? (i := 110) rfl)
theorem own_w111 {a0 : Array Value} {Z : State} (hw : HW_ a0 Z) : (Jvm.Cond.methodLink "java/lang/AbstractStringBuilder" (208 : Nat) ({ cls := "java/lang/AbstractStringBuilder", name := "putStringAt", desc := "(ILjava/lang/String;)V" } : Jvm.MethodName)).before a0 Z = true := hw _ (List.mem_of_getElem? (i := 111) rfl)
theorem own_w112 {a0 : Array Value} {Z : State} (hw : HW_ a0 Z) : (Jvm.Cond.instanceMethod ({ cls := "java/lang/AbstractStringBuilder", name := "putStringAt", desc := "(ILjava/lang/String;)V" } : Jvm.MethodName)).before a0 Z = true := hw _ (List.mem_of_getElem? (i := 112) rfl)
theorem own_w113 {a0 : Array Value} {Z : State} (hw : HW_ a0 Z) : (Jvm.Cond.privateMethod ({ cls := "java/lang/AbstractStringBuilder", name := "putStringAt", desc := "(ILjava/lang/String;)V" } : Jvm.MethodName)).before a0 Z = true := hw _ (List.mem_of_getElem? (i := 113) rfl)
theorem own_w115 {a0 : Array Value} {Z : State} (hw : HW_ a0 Z) : (Jvm.Cond.code ({ cls := "java/lang/AbstractStringBuilder", name := "putStringAt", desc := "(ILjava/lang/String;)V" } : Jvm.MethodName) jdk_68_method_73_code (3 : Nat) (Option.none : Option Jvm.ClassFile.FieldType)).before a0 Z = true := hw _ (List.mem_of_getElem? (i := 115) rfl)
theorem own_w116 {a0 : Array Value} {Z : State} (hw : HW_ a0 Z) : (Jvm.Cond.methodLink "java/lang/AbstractStringBuilder" (397 : Nat) ({ cls := "java/lang/AbstractStringBuilder", name := "inflateIfNeededFor", desc := "(Ljava/lang/String;)V" } : Jvm.MethodName)).before a0 Z = true := hw _ (List.mem_of_getElem? (i := 116) rfl)
theorem own_w117 {a0 : Array Value} {Z : State} (hw : HW_ a0 Z) : (Jvm.Cond.instanceMethod ({ cls := "java/lang/AbstractStringBuilder", name := "inflateIfNeededFor", desc := "(Ljava/lang/String;)V" } : Jvm.MethodName)).before a0 Z = true := hw _ (List.mem_of_getElem? (i := 117) rfl)
theorem own_w118 {a0 : Array Value} {Z : State} (hw : HW_ a0 Z) : (Jvm.Cond.privateMethod ({ cls := "java/lang/AbstractStringBuilder", name := "inflateIfNeededFor", desc := "(Ljava/lang/String;)V" } : Jvm.MethodName)).before a0 Z = true := hw _ (List.mem_of_getElem? (i := 118) rfl)
theorem own_w120 {a0 : Array Value} {Z : State} (hw : HW_ a0 Z) : (Jvm.Cond.code ({ cls := "java/lang/AbstractStringBuilder", name := "inflateIfNeededFor", desc := "(Ljava/lang/String;)V" } : Jvm.MethodName) jdk_68_method_71_code (2 : Nat) (Option.none : Option Jvm.ClassFile.FieldType)).before a0 Z = true := hw _ (List.mem_of_getElem? (i := 120) rfl)
theorem own_w121 {a0 : Array Value} {Z : State} (hw : HW_ a0 Z) : (Jvm.Cond.methodLink "java/lang/AbstractStringBuilder" (40 : Nat) ({ cls := "java/lang/String", name := "coder", desc := "()B" } : Jvm.MethodName)).before a0 Z = true := hw _ (List.mem_of_getElem? (i := 121) rfl)
theorem own_w122 {a0 : Array Value} {Z : State} (hw : HW_ a0 Z) : (Jvm.Cond.methodLink "java/lang/AbstractStringBuilder" (399 : Nat) ({ cls := "java/lang/String", name := "getBytes", desc := "([BIB)V" } : Jvm.MethodName)).before a0 Z = true := hw _ (List.mem_of_getElem? (i := 122) rfl)
theorem own_w123 {a0 : Array Value} {Z : State} (hw : HW_ a0 Z) : (Jvm.Cond.declares ({ cls := "java/lang/String", name := "getBytes", desc := "([BIB)V" } : Jvm.MethodName)).before a0 Z = true := hw _ (List.mem_of_getElem? (i := 123) rfl)
theorem own_w124 {a0 : Array Value} {Z : State} (hw : HW_ a0 Z) : (Jvm.Cond.instanceMethod ({ cls := "java/lang/String", name := "getBytes", desc := "([BIB)V" } : Jvm.MethodName)).before a0 Z = true := hw _ (List.mem_of_getElem? (i := 124) rfl)
theorem own_w125 {a0 : Array Value} {Z : State} (hw : HW_ a0 Z) : (Jvm.Cond.selects "java/lang/String" ({ cls := "java/lang/String", name := "getBytes", desc := "([BIB)V" } : Jvm.MethodName) ({ cls := "java/lang/String", name := "getBytes", desc := "([BIB)V" } : Jvm.MethodName)).before a0 Z = true := hw _ (List.mem_of_getElem? (i := 125) rfl)
theorem own_w126 {a0 : Array Value} {Z : State} (hw : HW_ a0 Z) : (Jvm.Cond.code ({ cls := "java/lang/String", name := "getBytes", desc := "([BIB)V" } : Jvm.MethodName) jdk_42_method_147_code (4 : Nat) (Option.none : Option Jvm.ClassFile.FieldType)).before a0 Z = true := hw _ (List.mem_of_getElem? (i := 126) rfl)
theorem own_w127 {a0 : Array Value} {Z : State} (hw : HW_ a0 Z) : (Jvm.Cond.methodLink "java/lang/String" (212 : Nat) ({ cls := "java/lang/System", name := "arraycopy", desc := "(Ljava/lang/Object;ILjava/lang/Object;II)V" } : Jvm.MethodName)).before a0 Z = true := hw _ (List.mem_of_getElem? (i := 127) rfl)
theorem own_w128 {a0 : Array Value} {Z : State} (hw : HW_ a0 Z) : (Jvm.Cond.static ({ cls := "java/lang/System", name := "arraycopy", desc := "(Ljava/lang/Object;ILjava/lang/Object;II)V" } : Jvm.MethodName)).before a0 Z = true := hw _ (List.mem_of_getElem? (i := 128) rfl)
theorem own_w129 {a0 : Array Value} {Z : State} (hw : HW_ a0 Z) : (Jvm.Cond.initialized "java/lang/System").before a0 Z = true := hw _ (List.mem_of_getElem? (i := 129) rfl)
theorem own_w130 {a0 : Array Value} {Z : State} (hw : HW_ a0 Z) : (Jvm.Cond.native ({ cls := "java/lang/System", name := "arraycopy", desc := "(Ljava/lang/Object;ILjava/lang/Object;II)V" } : Jvm.MethodName)).before a0 Z = true := hw _ (List.mem_of_getElem? (i := 130) rfl)
theorem own_w131 {a0 : Array Value} {Z : State} (hw : HW_ a0 Z) : (Jvm.Cond.stringLink "com/example/sessionsmith/sessionsmith/SchemaProblem" (32 : Nat) " is missing").before a0 Z = true := hw _ (List.mem_of_getElem? (i := 131) rfl)
theorem own_w132 {a0 : Array Value} {Z : State} (hw : HW_ a0 Z) : (Jvm.Cond.methodLink "java/lang/AbstractStringBuilder" (104 : Nat) ({ cls := "java/lang/AbstractStringBuilder", name := "newCapacity", desc := "(I)I" } : Jvm.MethodName)).before a0 Z = true := hw _ (List.mem_of_getElem? (i := 132) rfl)
theorem own_w133 {a0 : Array Value} {Z : State} (hw : HW_ a0 Z) : (Jvm.Cond.instanceMethod ({ cls := "java/lang/AbstractStringBuilder", name := "newCapacity", desc := "(I)I" } : Jvm.MethodName)).before a0 Z = true := hw _ (List.mem_of_getElem? (i := 133) rfl)
theorem own_w134 {a0 : Array Value} {Z : State} (hw : HW_ a0 Z) : (Jvm.Cond.privateMethod ({ cls := "java/lang/AbstractStringBuilder", name := "newCapacity", desc := "(I)I" } : Jvm.MethodName)).before a0 Z = true := hw _ (List.mem_of_getElem? (i := 134) rfl)
theorem own_w136 {a0 : Array Value} {Z : State} (hw : HW_ a0 Z) : (Jvm.Cond.code ({ cls := "java/lang/AbstractStringBuilder", name := "newCapacity", desc := "(I)I" } : Jvm.MethodName) jdk_68_method_10_code (6 : Nat) (Option.some Jvm.ClassFile.FieldType.int)).before a0 Z = true := hw _ (List.mem_of_getElem? (i := 136) rfl)
theorem own_w137 {a0 : Array Value} {Z : State} (hw : HW_ a0 Z) : (Jvm.Cond.methodLink "java/lang/AbstractStringBuilder" (114 : Nat) ({ cls := "jdk/internal/util/ArraysSupport", name := "newLength", desc := "(III)I" } : Jvm.MethodName)).before a0 Z = true := hw _ (List.mem_of_getElem? (i := 137) rfl)
theorem own_w138 {a0 : Array Value} {Z : State} (hw : HW_ a0 Z) : (Jvm.Cond.static ({ cls := "jdk/internal/util/ArraysSupport", name := "newLength", desc := "(III)I" } : Jvm.MethodName)).before a0 Z = true := hw _ (List.mem_of_getElem? (i := 138) rfl)
theorem own_w139 {a0 : Array Value} {Z : State} (hw : HW_ a0 Z) : (Jvm.Cond.initialized "jdk/internal/util/ArraysSupport").before a0 Z = true := hw _ (List.mem_of_getElem? (i := 139) rfl)
theorem own_w140 {a0 : Array Value} {Z : State} (hw : HW_ a0 Z) : (Jvm.Cond.code ({ cls := "jdk/internal/util/ArraysSupport", name := "newLength", desc := "(III)I" } : Jvm.MethodName) jdk_48_method_27_code (4 : Nat) (Option.some Jvm.ClassFile.FieldType.int)).before a0 Z = true := hw _ (List.mem_of_getElem? (i := 140) rfl)
theorem own_w141 {a0 : Array Value} {Z : State} (hw : HW_ a0 Z) : (Jvm.Cond.methodLink "jdk/internal/util/ArraysSupport" (194 : Nat) ({ cls := "java/lang/Math", name := "max", desc := "(II)I" } : Jvm.MethodName)).before a0 Z = true := hw _ (List.mem_of_getElem? (i := 141) rfl)
theorem own_w142 {a0 : Array Value} {Z : State} (hw : HW_ a0 Z) : (Jvm.Cond.static ({ cls := "java/lang/Math", name := "max", desc := "(II)I" } : Jvm.MethodName)).before a0 Z = true := hw _ (List.mem_of_getElem? (i := 142) rfl)
theorem own_w143 {a0 : Array Value} {Z : State} (hw : HW_ a0 Z) : (Jvm.Cond.initialized "java/lang/Math").before a0 Z = true := hw _ (List.mem_of_getElem? (i := 143) rfl)
theorem own_w144 {a0 : Array Value} {Z : State} (hw : HW_ a0 Z) : (Jvm.Cond.code ({ cls := "java/lang/Math", name := "max", desc := "(II)I" } : Jvm.MethodName) jdk_29_method_65_code (2 : Nat) (Option.some Jvm.ClassFile.FieldType.int)).before a0 Z = true := hw _ (List.mem_of_getElem? (i := 144) rfl)
theorem own_w145 {a0 : Array Value} {Z : State} (hw : HW_ a0 Z) : (Jvm.Cond.constant "jdk/internal/util/ArraysSupport" (200 : Nat) (2147483639 : Int32)).before a0 Z = true := hw _ (List.mem_of_getElem? (i := 145) rfl)
theorem own_w146 {a0 : Array Value} {Z : State} (hw : HW_ a0 Z) : (Jvm.Cond.constant "java/lang/AbstractStringBuilder" (39 : Nat) (2147483647 : Int32)).before a0 Z = true := hw _ (List.mem_of_getElem? (i := 146) rfl)
theorem own_w147 {a0 : Array Value} {Z : State} (hw : HW_ a0 Z) : (Jvm.Cond.methodLink "java/lang/AbstractStringBuilder" (108 : Nat) ({ cls := "java/util/Arrays", name := "copyOf", desc := "([BI)[B" } : Jvm.MethodName)).before a0 Z = true := hw _ (List.mem_of_getElem? (i := 147) rfl)
theorem own_w148 {a0 : Array Value} {Z : State} (hw : HW_ a0 Z) : (Jvm.Cond.static ({ cls := "java/util/Arrays", name := "copyOf", desc := "([BI)[B" } : Jvm.MethodName)).before a0 Z = true := hw _ (List.mem_of_getElem? (i := 148) rfl)
theorem own_w149 {a0 : Array Value} {Z : State} (hw : HW_ a0 Z) : (Jvm.Cond.initialized "java/util/Arrays").before a0 Z = true := hw _ (List.mem_of_getElem? (i := 149) rfl)
theorem own_w150 {a0 : Array Value} {Z : State} (hw : HW_ a0 Z) : (Jvm.Cond.code ({ cls := "java/util/Arrays", name := "copyOf", desc := "([BI)[B" } : Jvm.MethodName) jdk_65_method_121_code (3 : Nat) (Option.some (Jvm.ClassFile.FieldType.array Jvm.ClassFile.FieldType.byte))).before a0 Z = true := hw _ (List.mem_of_getElem? (i := 150) rfl)
theorem own_w151 {a0 : Array Value} {Z : State} (hw : HW_ a0 Z) : (Jvm.Cond.methodLink "java/util/Arrays" (304 : Nat) ({ cls := "java/lang/Math", name := "min", desc := "(II)I" } : Jvm.MethodName)).before a0 Z = true := hw _ (List.mem_of_getElem? (i := 151) rfl)
theorem own_w152 {a0 : Array Value} {Z : State} (hw : HW_ a0 Z) : (Jvm.Cond.static ({ cls := "java/lang/Math", name := "min", desc := "(II)I" } : Jvm.MethodName)).before a0 Z = true := hw _ (List.mem_of_getElem? (i := 152) rfl)
theorem own_w153 {a0 : Array Value} {Z : State} (hw : HW_ a0 Z) : (Jvm.Cond.code ({ cls := "java/lang/Math", name := "min", desc := "(II)I" } : Jvm.MethodName) jdk_29_method_69_code (2 : Nat) (Option.some Jvm.ClassFile.FieldType.int)).before a0 Z = true := hw _ (List.mem_of_getElem? (i := 153) rfl)
theorem own_w154 {a0 : Array Value} {Z : State} (hw : HW_ a0 Z) : (Jvm.Cond.methodLink "java/util/Arrays" (150 : Nat) ({ cls := "java/lang/System", name := "arraycopy", desc := "(Ljava/lang/Object;ILjava/lang/Object;II)V" } : Jvm.MethodName)).before a0 Z = true := hw _ (List.mem_of_getElem? (i := 154) rfl)
theorem own_w155 {a0 : Array Value} {Z : State} (hw : HW_ a0 Z) : (Jvm.Cond.methodLink "com/example/sessionsmith/sessionsmith/SchemaProblem" (34 : Nat) ({ cls := "java/lang/StringBuilder", name := "toString", desc := "()Ljava/lang/String;" } : Jvm.MethodName)).before a0 Z = true := hw _ (List.mem_of_getElem? (i := 155) rfl)
theorem own_w156 {a0 : Array Value} {Z : State} (hw : HW_ a0 Z) : (Jvm.Cond.declares ({ cls := "java/lang/StringBuilder", name := "toString", desc := "()Ljava/lang/String;" } : Jvm.MethodName)).before a0 Z = true := hw _ (List.mem_of_getElem? (i := 156) rfl)
theorem own_w157 {a0 : Array Value} {Z : State} (hw : HW_ a0 Z) : (Jvm.Cond.instanceMethod ({ cls := "java/lang/StringBuilder", name := "toString", desc := "()Ljava/lang/String;" } : Jvm.MethodName)).before a0 Z = true := hw _ (List.mem_of_getElem? (i := 157) rfl)
theorem own_w158 {a0 : Array Value} {Z : State} (hw : HW_ a0 Z) : (Jvm.Cond.selects "java/lang/StringBuilder" ({ cls := "java/lang/StringBuilder", name := "toString", desc := "()Ljava/lang/String;" } : Jvm.MethodName) ({ cls := "java/lang/StringBuilder", name := "toString", desc := "()Ljava/lang/String;" } : Jvm.MethodName)).before a0 Z = true := hw _ (List.mem_of_getElem? (i := 158) rfl)
theorem own_w159 {a0 : Array Value} {Z : State} (hw : HW_ a0 Z) : (Jvm.Cond.code ({ cls := "java/lang/StringBuilder", name := "toString", desc := "()Ljava/lang/String;" } : Jvm.MethodName) jdk_67_method_42_code (1 : Nat) (Option.some (Jvm.ClassFile.FieldType.object "java/lang/String"))).before a0 Z = true := hw _ (List.mem_of_getElem? (i := 159) rfl)
theorem own_w160 {a0 : Array Value} {Z : State} (hw : HW_ a0 Z) : (Jvm.Cond.classLink "java/lang/StringBuilder" (18 : Nat) "java/lang/String").before a0 Z = true := hw _ (List.mem_of_getElem? (i := 160) rfl)
theorem own_w161 {a0 : Array Value} {Z : State} (hw : HW_ a0 Z) : (Jvm.Cond.methodLink "java/lang/StringBuilder" (137 : Nat) ({ cls := "java/lang/String", name := "<init>", desc := "(Ljava/lang/StringBuilder;)V" } : Jvm.MethodName)).before a0 Z = true := hw _ (List.mem_of_getElem? (i := 161) rfl)
theorem own_w162 {a0 : Array Value} {Z : State} (hw : HW_ a0 Z) : (Jvm.Cond.instanceMethod ({ cls := "java/lang/String", name := "<init>", desc := "(Ljava/lang/StringBuilder;)V" } : Jvm.MethodName)).before a0 Z = true := hw _ (List.mem_of_getElem? (i := 162) rfl)
theorem own_w163 {a0 : Array Value} {Z : State} (hw : HW_ a0 Z) : (Jvm.Cond.code ({ cls := "java/lang/String", name := "<init>", desc := "(Ljava/lang/StringBuilder;)V" } : Jvm.MethodName) jdk_42_method_53_code (2 : Nat) (Option.none : Option Jvm.ClassFile.FieldType)).before a0 Z = true := hw _ (List.mem_of_getElem? (i := 163) rfl)
theorem own_w164 {a0 : Array Value} {Z : State} (hw : HW_ a0 Z) : (Jvm.Cond.methodLink "java/lang/String" (489 : Nat) ({ cls := "java/lang/String", name := "<init>", desc := "(Ljava/lang/AbstractStringBuilder;Ljava/lang/Void;)V" } : Jvm.MethodName)).before a0 Z = true := hw _ (List.mem_of_getElem? (i := 164) rfl)
theorem own_w165 {a0 : Array Value} {Z : State} (hw : HW_ a0 Z) : (Jvm.Cond.instanceMethod ({ cls := "java/lang/String", name := "<init>", desc := "(Ljava/lang/AbstractStringBuilder;Ljava/lang/Void;)V" } : Jvm.MethodName)).before a0 Z = true := hw _ (List.mem_of_getElem? (i := 165) rfl)
theorem own_w166 {a0 : Array Value} {Z : State} (hw : HW_ a0 Z) : (Jvm.Cond.code ({ cls := "java/lang/String", name := "<init>", desc := "(Ljava/lang/AbstractStringBuilder;Ljava/lang/Void;)V" } : Jvm.MethodName) jdk_42_method_150_code (5 : Nat) (Option.none : Option Jvm.ClassFile.FieldType)).before a0 Z = true := hw _ (List.mem_of_getElem? (i := 166) rfl)
theorem own_w167 {a0 : Array Value} {Z : State} (hw : HW_ a0 Z) : (Jvm.Cond.methodLink "java/lang/String" (552 : Nat) ({ cls := "java/lang/AbstractStringBuilder", name := "getValue", desc := "()[B" } : Jvm.MethodName)).before a0 Z = true := hw _ (List.mem_of_getElem? (i := 167) rfl)
theorem own_w168 {a0 : Array Value} {Z : State} (hw : HW_ a0 Z) : (Jvm.Cond.declares ({ cls := "java/lang/AbstractStringBuilder", name := "getValue", desc := "()[B" } : Jvm.MethodName)).before a0 Z = true := hw _ (List.mem_of_getElem? (i := 168) rfl)
theorem own_w169 {a0 : Array Value} {Z : State} (hw : HW_ a0 Z) : (Jvm.Cond.instanceMethod ({ cls := "java/lang/AbstractStringBuilder", name := "getValue", desc := "()[B" } : Jvm.MethodName)).before a0 Z = true := hw _ (List.mem_of_getElem? (i := 169) rfl)
theorem own_w170 {a0 : Array Value} {Z : State} (hw : HW_ a0 Z) : (Jvm.Cond.selects "java/lang/StringBuilder" ({ cls := "java/lang/AbstractStringBuilder", name := "getValue", desc := "()[B" } : Jvm.MethodName) ({ cls := "java/lang/AbstractStringBuilder", name := "getValue", desc := "()[B" } : Jvm.MethodName)).before a0 Z = true := hw _ (List.mem_of_getElem? (i := 170) rfl)
theorem own_w171 {a0 : Array Value} {Z : State} (hw : HW_ a0 Z) : (Jvm.Cond.code ({ cls := "java/lang/AbstractStringBuilder", name := "getValue", desc := "()[B" } : Jvm.MethodName) jdk_68_method_64_code (1 : Nat) (Option.some (Jvm.ClassFile.FieldType.array Jvm.ClassFile.FieldType.byte))).before a0 Z = true := hw _ (List.mem_of_getElem? (i := 171) rfl)
theorem own_w172 {a0 : Array Value} {Z : State} (hw : HW_ a0 Z) : (Jvm.Cond.methodLink "java/lang/String" (549 : Nat) ({ cls := "java/lang/AbstractStringBuilder", name := "length", desc := "()I" } : Jvm.MethodName)).before a0 Z = true := hw _ (List.mem_of_getElem? (i := 172) rfl)
theorem own_w173 {a0 : Array Value} {Z : State} (hw : HW_ a0 Z) : (Jvm.Cond.declares ({ cls := "java/lang/AbstractStringBuilder", name := "length", desc := "()I" } : Jvm.MethodName)).before a0 Z = true := hw _ (List.mem_of_getElem? (i := 173) rfl)
theorem own_w174 {a0 : Array Value} {Z : State} (hw : HW_ a0 Z) : (Jvm.Cond.instanceMethod ({ cls := "java/lang/AbstractStringBuilder", name := "length", desc := "()I" } : Jvm.MethodName)).before a0 Z = true := hw _ (List.mem_of_getElem? (i := 174) rfl)
theorem own_w175 {a0 : Array Value} {Z : State} (hw : HW_ a0 Z) : (Jvm.Cond.selects "java/lang/StringBuilder" ({ cls := "java/lang/AbstractStringBuilder", name := "length", desc := "()I" } : Jvm.MethodName) ({ cls := "java/lang/StringBuilder", name := "length", desc := "()I" } : Jvm.MethodName)).before a0 Z = true := hw _ (List.mem_of_getElem? (i := 175) rfl)
theorem own_w176 {a0 : Array Value} {Z : State} (hw : HW_ a0 Z) : (Jvm.Cond.instanceMethod ({ cls := "java/lang/StringBuilder", name := "length", desc := "()I" } : Jvm.MethodName)).before a0 Z = true := hw _ (List.mem_of_getElem? (i := 176) rfl)
theorem own_w177 {a0 : Array Value} {Z : State} (hw : HW_ a0 Z) : (Jvm.Cond.code ({ cls := "java/lang/StringBuilder", name := "length", desc := "()I" } : Jvm.MethodName) jdk_67_method_93_code (1 : Nat) (Option.some Jvm.ClassFile.FieldType.int)).before a0 Z = true := hw _ (List.mem_of_getElem? (i := 177) rfl)
theorem own_w178 {a0 : Array Value} {Z : State} (hw : HW_ a0 Z) : (Jvm.Cond.methodLink "java/lang/StringBuilder" (343 : Nat) ({ cls := "java/lang/AbstractStringBuilder", name := "length", desc := "()I" } : Jvm.MethodName)).before a0 Z = true := hw _ (List.mem_of_getElem? (i := 178) rfl)
theorem own_w179 {a0 : Array Value} {Z : State} (hw : HW_ a0 Z) : (Jvm.Cond.code ({ cls := "java/lang/AbstractStringBuilder", name := "length", desc := "()I" } : Jvm.MethodName) jdk_68_method_6_code (1 : Nat) (Option.some Jvm.ClassFile.FieldType.int)).before a0 Z = true := hw _ (List.mem_of_getElem? (i := 179) rfl)
theorem own_w180 {a0 : Array Value} {Z : State} (hw : HW_ a0 Z) : (Jvm.Cond.methodLink "java/lang/String" (1047 : Nat) ({ cls := "java/lang/AbstractStringBuilder", name := "isLatin1", desc := "()Z" } : Jvm.MethodName)).before a0 Z = true := hw _ (List.mem_of_getElem? (i := 180) rfl)
theorem own_w181 {a0 : Array Value} {Z : State} (hw : HW_ a0 Z) : (Jvm.Cond.declares ({ cls := "java/lang/AbstractStringBuilder", name := "isLatin1", desc := "()Z" } : Jvm.MethodName)).before a0 Z = true := hw _ (List.mem_of_getElem? (i := 181) rfl)
theorem own_w182 {a0 : Array Value} {Z : State} (hw : HW_ a0 Z) : (Jvm.Cond.instanceMethod ({ cls := "java/lang/AbstractStringBuilder", name := "isLatin1", desc := "()Z" } : Jvm.MethodName)).before a0 Z = true := hw _ (List.mem_of_getElem? (i := 182) rfl)
theorem own_w183 {a0 : Array Value} {Z : State} (hw : HW_ a0 Z) : (Jvm.Cond.selects "java/lang/StringBuilder" ({ cls := "java/lang/AbstractStringBuilder", name := "isLatin1", desc := "()Z" } : Jvm.MethodName) ({ cls := "java/lang/AbstractStringBuilder", name := "isLatin1", desc := "()Z" } : Jvm.MethodName)).before a0 Z = true := hw _ (List.mem_of_getElem? (i := 183) rfl)
theorem own_w184 {a0 : Array Value} {Z : State} (hw : HW_ a0 Z) : (Jvm.Cond.code ({ cls := "java/lang/AbstractStringBuilder", name := "isLatin1", desc := "()Z" } : Jvm.MethodName) jdk_68_method_68_code (1 : Nat) (Option.some Jvm.ClassFile.FieldType.boolean)).before a0 Z = true := hw _ (List.mem_of_getElem? (i := 184) rfl)
theorem own_w185 {a0 : Array Value} {Z : State} (hw : HW_ a0 Z) : (Jvm.Cond.methodLink "java/lang/String" (54 : Nat) ({ cls := "java/util/Arrays", name := "copyOfRange", desc := "([BII)[B" } : Jvm.MethodName)).before a0 Z = true := hw _ (List.mem_of_getElem? (i := 185) rfl)
theorem own_w186 {a0 : Array Value} {Z : State} (hw : HW_ a0 Z) : (Jvm.Cond.static ({ cls := "java/util/Arrays", name := "copyOfRange", desc := "([BII)[B" } : Jvm.MethodName)).before a0 Z = true := hw _ (List.mem_of_getElem? (i := 186) rfl)
theorem own_w187 {a0 : Array Value} {Z : State} (hw : HW_ a0 Z) : (Jvm.Cond.code ({ cls := "java/util/Arrays", name := "copyOfRange", desc := "([BII)[B" } : Jvm.MethodName) jdk_65_method_132_code (3 : Nat) (Option.some (Jvm.ClassFile.FieldType.array Jvm.ClassFile.FieldType.byte))).before a0 Z = true := hw _ (List.mem_of_getElem? (i := 187) rfl)
theorem own_w188 {a0 : Array Value} {Z : State} (hw : HW_ a0 Z) : (Jvm.Cond.methodLink "java/util/Arrays" (339 : Nat) ({ cls := "java/util/Arrays", name := "copyOfRangeByte", desc := "([BII)[B" } : Jvm.MethodName)).before a0 Z = true := hw _ (List.mem_of_getElem? (i := 188) rfl)
theorem own_w189 {a0 : Array Value} {Z : State} (hw : HW_ a0 Z) : (Jvm.Cond.static ({ cls := "java/util/Arrays", name := "copyOfRangeByte", desc := "([BII)[B" } : Jvm.MethodName)).before a0 Z = true := hw _ (List.mem_of_getElem? (i := 189) rfl)
theorem own_w190 {a0 : Array Value} {Z : State} (hw : HW_ a0 Z) : (Jvm.Cond.code ({ cls := "java/util/Arrays", name := "copyOfRangeByte", desc := "([BII)[B" } : Jvm.MethodName) jdk_65_method_133_code (5 : Nat) (Option.some (Jvm.ClassFile.FieldType.array Jvm.ClassFile.FieldType.byte))).before a0 Z = true := hw _ (List.mem_of_getElem? (i := 190) rfl)
theorem own_w191 {a0 : Array Value} {Z : State} (hw : HW_ a0 Z) : (Jvm.Cond.methodLink "java/util/Arrays" (343 : Nat) ({ cls := "java/util/Arrays", name := "checkLength", desc := "(II)V" } : Jvm.MethodName)).before a0 Z = true := hw _ (List.mem_of_getElem? (i := 191) rfl)
theorem own_w192 {a0 : Array Value} {Z : State} (hw : HW_ a0 Z) : (Jvm.Cond.static ({ cls := "java/util/Arrays", name := "checkLength", desc := "(II)V" } : Jvm.MethodName)).before a0 Z = true := hw _ (List.mem_of_getElem? (i := 192) rfl)
theorem own_w193 {a0 : Array Value} {Z : State} (hw : HW_ a0 Z) : (Jvm.Cond.code ({ cls := "java/util/Arrays", name := "checkLength", desc := "(II)V" } : Jvm.MethodName) jdk_65_method_131_code (2 : Nat) (Option.none : Option Jvm.ClassFile.FieldType)).before a0 Z = true := hw _ (List.mem_of_getElem? (i := 193) rfl)
theorem own_w194 {a0 : Array Value} {Z : State} (hw : HW_ a0 Z) : (Jvm.Cond.methodLink "com/example/sessionsmith/sessionsmith/SchemaProblemToStringPinLaw" (30 : Nat) ({ cls := "java/lang/String", name := "equals", desc := "(Ljava/lang/Object;)Z" } : Jvm.MethodName)).before a0 Z = true := hw _ (List.mem_of_getElem? (i := 194) rfl)
theorem own_w195 {a0 : Array Value} {Z : State} (hw : HW_ a0 Z) : (Jvm.Cond.declares ({ cls := "java/lang/String", name := "equals", desc := "(Ljava/lang/Object;)Z" } : Jvm.MethodName)).before a0 Z = true := hw _ (List.mem_of_getElem? (i := 195) rfl)
theorem own_w196 {a0 : Array Value} {Z : State} (hw : HW_ a0 Z) : (Jvm.Cond.instanceMethod ({ cls := "java/lang/String", name := "equals", desc := "(Ljava/lang/Object;)Z" } : Jvm.MethodName)).before a0 Z = true := hw _ (List.mem_of_getElem? (i := 196) rfl)
theorem own_w197 {a0 : Array Value} {Z : State} (hw : HW_ a0 Z) : (Jvm.Cond.selects "java/lang/String" ({ cls := "java/lang/String", name := "equals", desc := "(Ljava/lang/Object;)Z" } : Jvm.MethodName) ({ cls := "java/lang/String", name := "equals", desc := "(Ljava/lang/Object;)Z" } : Jvm.MethodName)).before a0 Z = true := hw _ (List.mem_of_getElem? (i := 197) rfl)
theorem own_w204 {a0 : Array Value} {Z : State} (hw : HW_ a0 Z) : (Jvm.Cond.stringLink "com/example/sessionsmith/sessionsmith/SchemaProblem" (38 : Nat) "column ").before a0 Z = true := hw _ (List.mem_of_getElem? (i := 204) rfl)
theorem own_w205 {a0 : Array Value} {Z : State} (hw : HW_ a0 Z) : (Jvm.Cond.stringLink "com/example/sessionsmith/sessionsmith/SchemaProblem" (40 : Nat) " of table ").before a0 Z = true := hw _ (List.mem_of_getElem? (i := 205) rfl)
theorem own_pd0 : parseMethodDescriptor "(I)V" = some ⟨[.int], none⟩ := by decide +kernel
theorem own_pd1 : parseMethodDescriptor "()B" = some ⟨[], some .byte⟩ := by decide +kernel
theorem own_pd2 : parseMethodDescriptor "(Ljava/lang/String;)V" = some ⟨[(.object "java/lang/String")], none⟩ := by decide +kernel
theorem own_pd3 : parseMethodDescriptor "([BIB)V" = some ⟨[(.array .byte), .int, .byte], none⟩ := by decide +kernel
theorem own_pd4 : parseMethodDescriptor "()I" = some ⟨[], some .int⟩ := by decide +kernel
theorem own_pd5 : parseMethodDescriptor "(ILjava/lang/String;)V" = some ⟨[.int, (.object "java/lang/String")], none⟩ := by decide +kernel
theorem own_pd6 : parseMethodDescriptor "(Ljava/lang/String;)Ljava/lang/AbstractStringBuilder;" = some ⟨[(.object "java/lang/String")], some (.object "java/lang/AbstractStringBuilder")⟩ := by decide +kernel
theorem own_pd7 : parseMethodDescriptor "(II)I" = some ⟨[.int, .int], some .int⟩ := by decide +kernel
theorem own_pd8 : parseMethodDescriptor "(III)I" = some ⟨[.int, .int, .int], some .int⟩ := by decide +kernel
theorem own_pd9 : parseMethodDescriptor "(I)I" = some ⟨[.int], some .int⟩ := by decide +kernel
theorem own_pd10 : parseMethodDescriptor "([BI)[B" = some ⟨[(.array .byte), .int], some (.array .byte)⟩ := by decide +kernel
theorem own_pd11 : parseMethodDescriptor "(II)V" = some ⟨[.int, .int], none⟩ := by decide +kernel
theorem own_pd12 : parseMethodDescriptor "([BII)[B" = some ⟨[(.array .byte), .int, .int], some (.array .byte)⟩ := by decide +kernel
theorem own_pd13 : parseMethodDescriptor "()[B" = some ⟨[], some (.array .byte)⟩ := by decide +kernel
theorem own_pd14 : parseMethodDescriptor "()Z" = some ⟨[], some .boolean⟩ := by decide +kernel
theorem own_pd15 : parseMethodDescriptor "(Ljava/lang/AbstractStringBuilder;Ljava/lang/Void;)V" = some ⟨[(.object "java/lang/AbstractStringBuilder"), (.object "java/lang/Void")], none⟩ := by decide +kernel
theorem own_pd16 : parseMethodDescriptor "(Ljava/lang/StringBuilder;)V" = some ⟨[(.object "java/lang/StringBuilder")], none⟩ := by decide +kernel
theorem own_pd17 : parseMethodDescriptor "()V" = some ⟨[], none⟩ := by decide +kernel
theorem own_pd18 : parseMethodDescriptor "(Ljava/lang/Object;Ljava/lang/String;)Ljava/lang/Object;" = some ⟨[(.object "java/lang/Object"), (.object "java/lang/String")], some (.object "java/lang/Object")⟩ := by decide +kernel
theorem own_pd19 : parseMethodDescriptor "(Ljava/lang/String;)Ljava/lang/StringBuilder;" = some ⟨[(.object "java/lang/String")], some (.object "java/lang/StringBuilder")⟩ := by decide +kernel
theorem own_pd20 : parseMethodDescriptor "()Ljava/lang/String;" = some ⟨[], some (.object "java/lang/String")⟩ := by decide +kernel
theorem own_pd21 : parseMethodDescriptor "([C)V" = some ⟨[(.array .char)], none⟩ := by decide +kernel
theorem own_pd22 : parseMethodDescriptor "([CI)V" = some ⟨[(.array .char), .int], none⟩ := by decide +kernel
theorem own_pd23 : parseMethodDescriptor "(Ljava/lang/String;Ljava/lang/String;)V" = some ⟨[(.object "java/lang/String"), (.object "java/lang/String")], none⟩ := by decide +kernel
theorem own_pd24 : parseMethodDescriptor "(Ljava/lang/Object;)Z" = some ⟨[(.object "java/lang/Object")], some .boolean⟩ := by decide +kernel
theorem own_pf0 : parseFieldDescriptor "[B" = some (.array .byte) := by decide +kernel
theorem own_pf1 : parseFieldDescriptor "B" = some .byte := by decide +kernel
theorem own_pf2 : parseFieldDescriptor "I" = some .int := by decide +kernel
theorem own_pf3 : parseFieldDescriptor "Ljava/lang/String;" = some (.object "java/lang/String") := by decide +kernel
theorem own_pn0 : plainName "java/lang/AbstractStringBuilder" = true := by first | (simp [plainName, overriddenIn]; done) | decide +kernel
theorem own_pn1 : plainName "java/lang/StringBuilder" = true := by first | (simp [plainName, overriddenIn]; done) | decide +kernel
theorem own_pn2 : plainFor (⟨"java/lang/String", "coder", "()B"⟩ : MethodName) = true := by decide +kernel
theorem own_pn3 : plainFor (⟨"java/lang/String", "length", "()I"⟩ : MethodName) = true := by decide +kernel
theorem own_pn4 : plainFor (⟨"java/lang/String", "getBytes", "([BIB)V"⟩ : MethodName) = true := by decide +kernel
theorem own_pn5 : plainFor (⟨"java/lang/Math", "max", "(II)I"⟩ : MethodName) = true := by decide +kernel
theorem own_pn6 : plainName "jdk/internal/util/ArraysSupport" = true := by first | (simp [plainName, overriddenIn]; done) | decide +kernel
theorem own_pn7 : plainFor (⟨"java/lang/Math", "min", "(II)I"⟩ : MethodName) = true := by decide +kernel
theorem own_pn8 : plainName "java/util/Arrays" = true := by first | (simp [plainName, overriddenIn]; done) | decide +kernel
theorem own_pn9 : plainFor (⟨"java/lang/String", "<init>", "(Ljava/lang/AbstractStringBuilder;Ljava/lang/Void;)V"⟩ : MethodName) = true := by decide +kernel
theorem own_pn10 : plainFor (⟨"java/lang/String", "<init>", "(Ljava/lang/StringBuilder;)V"⟩ : MethodName) = true := by decide +kernel
theorem own_pn11 : plainName "com/example/sessionsmith/sessionsmith/SchemaProblemToStringPinLaw" = true := by first | (simp [plainName, overriddenIn]; done) | decide +kernel
theorem own_pn12 : plainName "java/lang/Record" = true := by first | (simp [plainName, overriddenIn]; done) | decide +kernel
theorem own_pn13 : plainName "java/util/Objects" = true := by first | (simp [plainName, overriddenIn]; done) | decide +kernel
theorem own_pn14 : plainName "com/example/sessionsmith/sessionsmith/SchemaProblem" = true := by first | (simp [plainName, overriddenIn]; done) | decide +kernel
theorem own_d7_0 : decode method_3_code 0 = .ok (.aload_n 0, 1) := by decide +kernel
theorem own_d7_1 : decode method_3_code 1 = .ok (.iload_n 1, 1) := by decide +kernel
theorem own_d7_2 : decode method_3_code 2 = .ok (.bipush 116, 2) := by decide +kernel
theorem own_d7_4 : decode method_3_code 4 = .ok (.castore, 1) := by decide +kernel
theorem own_d7_5 : decode method_3_code 5 = .ok (.aload_n 0, 1) := by decide +kernel
theorem own_d7_6 : decode method_3_code 6 = .ok (.iload_n 1, 1) := by decide +kernel
theorem own_d7_7 : decode method_3_code 7 = .ok (.iconst 1, 1) := by decide +kernel
theorem own_d7_8 : decode method_3_code 8 = .ok (.iadd, 1) := by decide +kernel
theorem own_d7_9 : decode method_3_code 9 = .ok (.bipush 97, 2) := by decide +kernel
theorem own_d7_11 : decode method_3_code 11 = .ok (.castore, 1) := by decide +kernel
theorem own_d7_12 : decode method_3_code 12 = .ok (.aload_n 0, 1) := by decide +kernel
theorem own_d7_13 : decode method_3_code 13 = .ok (.iload_n 1, 1) := by decide +kernel
theorem own_d7_14 : decode method_3_code 14 = .ok (.iconst 2, 1) := by decide +kernel
theorem own_d7_15 : decode method_3_code 15 = .ok (.iadd, 1) := by decide +kernel
theorem own_d7_16 : decode method_3_code 16 = .ok (.bipush 98, 2) := by decide +kernel
theorem own_d7_18 : decode method_3_code 18 = .ok (.castore, 1) := by decide +kernel
theorem own_d7_19 : decode method_3_code 19 = .ok (.aload_n 0, 1) := by decide +kernel
theorem own_d7_20 : decode method_3_code 20 = .ok (.iload_n 1, 1) := by decide +kernel
theorem own_d7_21 : decode method_3_code 21 = .ok (.iconst 3, 1) := by decide +kernel
theorem own_d7_22 : decode method_3_code 22 = .ok (.iadd, 1) := by decide +kernel
theorem own_d7_23 : decode method_3_code 23 = .ok (.bipush 108, 2) := by decide +kernel
theorem own_d7_25 : decode method_3_code 25 = .ok (.castore, 1) := by decide +kernel
theorem own_d7_26 : decode method_3_code 26 = .ok (.aload_n 0, 1) := by decide +kernel
theorem own_d7_27 : decode method_3_code 27 = .ok (.iload_n 1, 1) := by decide +kernel
theorem own_d7_28 : decode method_3_code 28 = .ok (.iconst 4, 1) := by decide +kernel
theorem own_d7_29 : decode method_3_code 29 = .ok (.iadd, 1) := by decide +kernel
theorem own_d7_30 : decode method_3_code 30 = .ok (.bipush 101, 2) := by decide +kernel
theorem own_d7_32 : decode method_3_code 32 = .ok (.castore, 1) := by decide +kernel
theorem own_d7_33 : decode method_3_code 33 = .ok (.aload_n 0, 1) := by decide +kernel
theorem own_d7_34 : decode method_3_code 34 = .ok (.iload_n 1, 1) := by decide +kernel
theorem own_d7_35 : decode method_3_code 35 = .ok (.iconst 5, 1) := by decide +kernel
theorem own_d7_36 : decode method_3_code 36 = .ok (.iadd, 1) := by decide +kernel
theorem own_d7_37 : decode method_3_code 37 = .ok (.bipush 32, 2) := by decide +kernel
theorem own_d7_39 : decode method_3_code 39 = .ok (.castore, 1) := by decide +kernel
theorem own_d7_40 : decode method_3_code 40 = .ok (.return_, 1) := by decide +kernel
theorem own_d8_0 : decode method_2_code 0 = .ok (.aload_n 0, 1) := by decide +kernel
theorem own_d8_1 : decode method_2_code 1 = .ok (.iload_n 1, 1) := by decide +kernel
theorem own_d8_2 : decode method_2_code 2 = .ok (.bipush 32, 2) := by decide +kernel
theorem own_d8_4 : decode method_2_code 4 = .ok (.castore, 1) := by decide +kernel
theorem own_d8_5 : decode method_2_code 5 = .ok (.aload_n 0, 1) := by decide +kernel
theorem own_d8_6 : decode method_2_code 6 = .ok (.iload_n 1, 1) := by decide +kernel
theorem own_d8_7 : decode method_2_code 7 = .ok (.iconst 1, 1) := by decide +kernel
theorem own_d8_8 : decode method_2_code 8 = .ok (.iadd, 1) := by decide +kernel
theorem own_d8_9 : decode method_2_code 9 = .ok (.bipush 105, 2) := by decide +kernel
theorem own_d8_11 : decode method_2_code 11 = .ok (.castore, 1) := by decide +kernel
theorem own_d8_12 : decode method_2_code 12 = .ok (.aload_n 0, 1) := by decide +kernel
theorem own_d8_13 : decode method_2_code 13 = .ok (.iload_n 1, 1) := by decide +kernel
theorem own_d8_14 : decode method_2_code 14 = .ok (.iconst 2, 1) := by decide +kernel
theorem own_d8_15 : decode method_2_code 15 = .ok (.iadd, 1) := by decide +kernel
theorem own_d8_16 : decode method_2_code 16 = .ok (.bipush 115, 2) := by decide +kernel
theorem own_d8_18 : decode method_2_code 18 = .ok (.castore, 1) := by decide +kernel
theorem own_d8_19 : decode method_2_code 19 = .ok (.aload_n 0, 1) := by decide +kernel
theorem own_d8_20 : decode method_2_code 20 = .ok (.iload_n 1, 1) := by decide +kernel
theorem own_d8_21 : decode method_2_code 21 = .ok (.iconst 3, 1) := by decide +kernel
theorem own_d8_22 : decode method_2_code 22 = .ok (.iadd, 1) := by decide +kernel
theorem own_d8_23 : decode method_2_code 23 = .ok (.bipush 32, 2) := by decide +kernel
theorem own_d8_25 : decode method_2_code 25 = .ok (.castore, 1) := by decide +kernel
theorem own_d8_26 : decode method_2_code 26 = .ok (.aload_n 0, 1) := by decide +kernel
theorem own_d8_27 : decode method_2_code 27 = .ok (.iload_n 1, 1) := by decide +kernel
theorem own_d8_28 : decode method_2_code 28 = .ok (.iconst 4, 1) := by decide +kernel
theorem own_d8_29 : decode method_2_code 29 = .ok (.iadd, 1) := by decide +kernel
theorem own_d8_30 : decode method_2_code 30 = .ok (.bipush 109, 2) := by decide +kernel
theorem own_d8_32 : decode method_2_code 32 = .ok (.castore, 1) := by decide +kernel
theorem own_d8_33 : decode method_2_code 33 = .ok (.aload_n 0, 1) := by decide +kernel
theorem own_d8_34 : decode method_2_code 34 = .ok (.iload_n 1, 1) := by decide +kernel
theorem own_d8_35 : decode method_2_code 35 = .ok (.iconst 5, 1) := by decide +kernel
theorem own_d8_36 : decode method_2_code 36 = .ok (.iadd, 1) := by decide +kernel
theorem own_d8_37 : decode method_2_code 37 = .ok (.bipush 105, 2) := by decide +kernel
theorem own_d8_39 : decode method_2_code 39 = .ok (.castore, 1) := by decide +kernel
theorem own_d8_40 : decode method_2_code 40 = .ok (.aload_n 0, 1) := by decide +kernel
theorem own_d8_41 : decode method_2_code 41 = .ok (.iload_n 1, 1) := by decide +kernel
theorem own_d8_42 : decode method_2_code 42 = .ok (.bipush 6, 2) := by decide +kernel
theorem own_d8_44 : decode method_2_code 44 = .ok (.iadd, 1) := by decide +kernel
theorem own_d8_45 : decode method_2_code 45 = .ok (.bipush 115, 2) := by decide +kernel
theorem own_d8_47 : decode method_2_code 47 = .ok (.castore, 1) := by decide +kernel
theorem own_d8_48 : decode method_2_code 48 = .ok (.aload_n 0, 1) := by decide +kernel
theorem own_d8_49 : decode method_2_code 49 = .ok (.iload_n 1, 1) := by decide +kernel
theorem own_d8_50 : decode method_2_code 50 = .ok (.bipush 7, 2) := by decide +kernel
theorem own_d8_52 : decode method_2_code 52 = .ok (.iadd, 1) := by decide +kernel
theorem own_d8_53 : decode method_2_code 53 = .ok (.bipush 115, 2) := by decide +kernel
theorem own_d8_55 : decode method_2_code 55 = .ok (.castore, 1) := by decide +kernel
theorem own_d8_56 : decode method_2_code 56 = .ok (.aload_n 0, 1) := by decide +kernel
theorem own_d8_57 : decode method_2_code 57 = .ok (.iload_n 1, 1) := by decide +kernel
theorem own_d8_58 : decode method_2_code 58 = .ok (.bipush 8, 2) := by decide +kernel
theorem own_d8_60 : decode method_2_code 60 = .ok (.iadd, 1) := by decide +kernel
theorem own_d8_61 : decode method_2_code 61 = .ok (.bipush 105, 2) := by decide +kernel
theorem own_d8_63 : decode method_2_code 63 = .ok (.castore, 1) := by decide +kernel
theorem own_d8_64 : decode method_2_code 64 = .ok (.aload_n 0, 1) := by decide +kernel
theorem own_d8_65 : decode method_2_code 65 = .ok (.iload_n 1, 1) := by decide +kernel
theorem own_d8_66 : decode method_2_code 66 = .ok (.bipush 9, 2) := by decide +kernel
theorem own_d8_68 : decode method_2_code 68 = .ok (.iadd, 1) := by decide +kernel
theorem own_d8_69 : decode method_2_code 69 = .ok (.bipush 110, 2) := by decide +kernel
theorem own_d8_71 : decode method_2_code 71 = .ok (.castore, 1) := by decide +kernel
theorem own_d8_72 : decode method_2_code 72 = .ok (.aload_n 0, 1) := by decide +kernel
theorem own_d8_73 : decode method_2_code 73 = .ok (.iload_n 1, 1) := by decide +kernel
theorem own_d8_74 : decode method_2_code 74 = .ok (.bipush 10, 2) := by decide +kernel
theorem own_d8_76 : decode method_2_code 76 = .ok (.iadd, 1) := by decide +kernel
theorem own_d8_77 : decode method_2_code 77 = .ok (.bipush 103, 2) := by decide +kernel
theorem own_d8_79 : decode method_2_code 79 = .ok (.castore, 1) := by decide +kernel
theorem own_d8_80 : decode method_2_code 80 = .ok (.return_, 1) := by decide +kernel
theorem own_d9_0 : decode prog_8_method_1_code 0 = .ok (.aload_n 0, 1) := by decide +kernel
theorem own_d9_1 : decode prog_8_method_1_code 1 = .ok (.invokespecial 1, 3) := by decide +kernel
theorem own_d9_4 : decode prog_8_method_1_code 4 = .ok (.aload_n 1, 1) := by decide +kernel
theorem own_d9_5 : decode prog_8_method_1_code 5 = .ok (.ldc 7, 2) := by decide +kernel
theorem own_d9_7 : decode prog_8_method_1_code 7 = .ok (.invokestatic 9, 3) := by decide +kernel
theorem own_d9_10 : decode prog_8_method_1_code 10 = .ok (.pop, 1) := by decide +kernel
theorem own_d9_11 : decode prog_8_method_1_code 11 = .ok (.aload_n 0, 1) := by decide +kernel
theorem own_d9_12 : decode prog_8_method_1_code 12 = .ok (.aload_n 1, 1) := by decide +kernel
theorem own_d9_13 : decode prog_8_method_1_code 13 = .ok (.putfield 15, 3) := by decide +kernel
theorem own_d9_16 : decode prog_8_method_1_code 16 = .ok (.aload_n 0, 1) := by decide +kernel
theorem own_d9_17 : decode prog_8_method_1_code 17 = .ok (.aload_n 2, 1) := by decide +kernel
theorem own_d9_18 : decode prog_8_method_1_code 18 = .ok (.putfield 20, 3) := by decide +kernel
theorem own_d9_21 : decode prog_8_method_1_code 21 = .ok (.return_, 1) := by decide +kernel
theorem own_d10_0 : decode jdk_30_method_1_code 0 = .ok (.aload_n 0, 1) := by decide +kernel
theorem own_d10_1 : decode jdk_30_method_1_code 1 = .ok (.invokespecial 1, 3) := by decide +kernel
theorem own_d10_4 : decode jdk_30_method_1_code 4 = .ok (.return_, 1) := by decide +kernel
theorem own_d11_0 : decode jdk_31_method_11_code 0 = .ok (.aload_n 0, 1) := by decide +kernel
theorem own_d11_1 : decode jdk_31_method_11_code 1 = .ok (.ifnonnull 12, 3) := by decide +kernel
theorem own_d11_13 : decode jdk_31_method_11_code 13 = .ok (.aload_n 0, 1) := by decide +kernel
theorem own_d11_14 : decode jdk_31_method_11_code 14 = .ok (.areturn, 1) := by decide +kernel
theorem own_d12_0 : decode prog_8_method_2_code 0 = .ok (.aload_n 0, 1) := by decide +kernel
theorem own_d12_1 : decode prog_8_method_2_code 1 = .ok (.getfield 20, 3) := by decide +kernel
theorem own_d12_4 : decode prog_8_method_2_code 4 = .ok (.ifnonnull 33, 3) := by decide +kernel
theorem own_d12_7 : decode prog_8_method_2_code 7 = .ok (.new 23, 3) := by decide +kernel
theorem own_d12_10 : decode prog_8_method_2_code 10 = .ok (.dup, 1) := by decide +kernel
theorem own_d12_11 : decode prog_8_method_2_code 11 = .ok (.invokespecial 25, 3) := by decide +kernel
theorem own_d12_14 : decode prog_8_method_2_code 14 = .ok (.ldc 26, 2) := by decide +kernel
theorem own_d12_16 : decode prog_8_method_2_code 16 = .ok (.invokevirtual 28, 3) := by decide +kernel
theorem own_d12_19 : decode prog_8_method_2_code 19 = .ok (.aload_n 0, 1) := by decide +kernel
theorem own_d12_20 : decode prog_8_method_2_code 20 = .ok (.getfield 15, 3) := by decide +kernel
theorem own_d12_23 : decode prog_8_method_2_code 23 = .ok (.invokevirtual 28, 3) := by decide +kernel
theorem own_d12_26 : decode prog_8_method_2_code 26 = .ok (.ldc 32, 2) := by decide +kernel
theorem own_d12_28 : decode prog_8_method_2_code 28 = .ok (.invokevirtual 28, 3) := by decide +kernel
theorem own_d12_31 : decode prog_8_method_2_code 31 = .ok (.invokevirtual 34, 3) := by decide +kernel
theorem own_d12_34 : decode prog_8_method_2_code 34 = .ok (.goto 42, 3) := by decide +kernel
theorem own_d12_37 : decode prog_8_method_2_code 37 = .ok (.new 23, 3) := by decide +kernel
theorem own_d12_40 : decode prog_8_method_2_code 40 = .ok (.dup, 1) := by decide +kernel
theorem own_d12_41 : decode prog_8_method_2_code 41 = .ok (.invokespecial 25, 3) := by decide +kernel
theorem own_d12_44 : decode prog_8_method_2_code 44 = .ok (.ldc 38, 2) := by decide +kernel
theorem own_d12_46 : decode prog_8_method_2_code 46 = .ok (.invokevirtual 28, 3) := by decide +kernel
theorem own_d12_49 : decode prog_8_method_2_code 49 = .ok (.aload_n 0, 1) := by decide +kernel
theorem own_d12_50 : decode prog_8_method_2_code 50 = .ok (.getfield 20, 3) := by decide +kernel
theorem own_d12_53 : decode prog_8_method_2_code 53 = .ok (.invokevirtual 28, 3) := by decide +kernel
theorem own_d12_56 : decode prog_8_method_2_code 56 = .ok (.ldc 40, 2) := by decide +kernel
theorem own_d12_58 : decode prog_8_method_2_code 58 = .ok (.invokevirtual 28, 3) := by decide +kernel
theorem own_d12_61 : decode prog_8_method_2_code 61 = .ok (.aload_n 0, 1) := by decide +kernel
theorem own_d12_62 : decode prog_8_method_2_code 62 = .ok (.getfield 15, 3) := by decide +kernel
theorem own_d12_65 : decode prog_8_method_2_code 65 = .ok (.invokevirtual 28, 3) := by decide +kernel
theorem own_d12_68 : decode prog_8_method_2_code 68 = .ok (.ldc 32, 2) := by decide +kernel
theorem own_d12_70 : decode prog_8_method_2_code 70 = .ok (.invokevirtual 28, 3) := by decide +kernel
theorem own_d12_73 : decode prog_8_method_2_code 73 = .ok (.invokevirtual 34, 3) := by decide +kernel
theorem own_d12_76 : decode prog_8_method_2_code 76 = .ok (.areturn, 1) := by decide +kernel
theorem own_d13_0 : decode jdk_67_method_1_code 0 = .ok (.aload_n 0, 1) := by decide +kernel
theorem own_d13_1 : decode jdk_67_method_1_code 1 = .ok (.bipush 16, 2) := by decide +kernel
theorem own_d13_3 : decode jdk_67_method_1_code 3 = .ok (.invokespecial 1, 3) := by decide +kernel
theorem own_d13_6 : decode jdk_67_method_1_code 6 = .ok (.return_, 1) := by decide +kernel
theorem own_d14_0 : decode jdk_68_method_2_code 0 = .ok (.aload_n 0, 1) := by decide +kernel
theorem own_d14_1 : decode jdk_68_method_2_code 1 = .ok (.invokespecial 3, 3) := by decide +kernel
theorem own_d14_4 : decode jdk_68_method_2_code 4 = .ok (.getstatic 18, 3) := by decide +kernel
theorem own_d14_7 : decode jdk_68_method_2_code 7 = .ok (.ifCond .eq 18, 3) := by decide +kernel
theorem own_d14_10 : decode jdk_68_method_2_code 10 = .ok (.aload_n 0, 1) := by decide +kernel
theorem own_d14_11 : decode jdk_68_method_2_code 11 = .ok (.iload_n 1, 1) := by decide +kernel
theorem own_d14_12 : decode jdk_68_method_2_code 12 = .ok (.newarray .byte, 2) := by decide +kernel
theorem own_d14_14 : decode jdk_68_method_2_code 14 = .ok (.putfield 15, 3) := by decide +kernel
theorem own_d14_17 : decode jdk_68_method_2_code 17 = .ok (.aload_n 0, 1) := by decide +kernel
theorem own_d14_18 : decode jdk_68_method_2_code 18 = .ok (.iconst 0, 1) := by decide +kernel
theorem own_d14_19 : decode jdk_68_method_2_code 19 = .ok (.putfield 22, 3) := by decide +kernel
theorem own_d14_22 : decode jdk_68_method_2_code 22 = .ok (.goto 16, 3) := by decide +kernel
theorem own_d14_38 : decode jdk_68_method_2_code 38 = .ok (.return_, 1) := by decide +kernel
theorem own_d15_0 : decode jdk_67_method_7_code 0 = .ok (.aload_n 0, 1) := by decide +kernel
theorem own_d15_1 : decode jdk_67_method_7_code 1 = .ok (.aload_n 1, 1) := by decide +kernel
theorem own_d15_2 : decode jdk_67_method_7_code 2 = .ok (.invokespecial 29, 3) := by decide +kernel
theorem own_d15_5 : decode jdk_67_method_7_code 5 = .ok (.pop, 1) := by decide +kernel
theorem own_d15_6 : decode jdk_67_method_7_code 6 = .ok (.aload_n 0, 1) := by decide +kernel
theorem own_d15_7 : decode jdk_67_method_7_code 7 = .ok (.areturn, 1) := by decide +kernel
theorem own_d16_0 : decode jdk_68_method_22_code 0 = .ok (.aload_n 1, 1) := by decide +kernel
theorem own_d16_1 : decode jdk_68_method_22_code 1 = .ok (.ifnonnull 8, 3) := by decide +kernel
theorem own_d16_9 : decode jdk_68_method_22_code 9 = .ok (.aload_n 1, 1) := by decide +kernel
theorem own_d16_10 : decode jdk_68_method_22_code 10 = .ok (.invokevirtual 32, 3) := by decide +kernel
theorem own_d16_13 : decode jdk_68_method_22_code 13 = .ok (.istore_n 2, 1) := by decide +kernel
theorem own_d16_14 : decode jdk_68_method_22_code 14 = .ok (.aload_n 0, 1) := by decide +kernel
theorem own_d16_15 : decode jdk_68_method_22_code 15 = .ok (.aload_n 0, 1) := by decide +kernel
theorem own_d16_16 : decode jdk_68_method_22_code 16 = .ok (.getfield 79, 3) := by decide +kernel
theorem own_d16_19 : decode jdk_68_method_22_code 19 = .ok (.iload_n 2, 1) := by decide +kernel
theorem own_d16_20 : decode jdk_68_method_22_code 20 = .ok (.iadd, 1) := by decide +kernel
theorem own_d16_21 : decode jdk_68_method_22_code 21 = .ok (.invokevirtual 100, 3) := by decide +kernel
theorem own_d16_24 : decode jdk_68_method_22_code 24 = .ok (.aload_n 0, 1) := by decide +kernel
theorem own_d16_25 : decode jdk_68_method_22_code 25 = .ok (.aload_n 0, 1) := by decide +kernel
theorem own_d16_26 : decode jdk_68_method_22_code 26 = .ok (.getfield 79, 3) := by decide +kernel
theorem own_d16_29 : decode jdk_68_method_22_code 29 = .ok (.aload_n 1, 1) := by decide +kernel
theorem own_d16_30 : decode jdk_68_method_22_code 30 = .ok (.invokevirtual 208, 3) := by decide +kernel
theorem own_d16_33 : decode jdk_68_method_22_code 33 = .ok (.aload_n 0, 1) := by decide +kernel
theorem own_d16_34 : decode jdk_68_method_22_code 34 = .ok (.dup, 1) := by decide +kernel
theorem own_d16_35 : decode jdk_68_method_22_code 35 = .ok (.getfield 79, 3) := by decide +kernel
theorem own_d16_38 : decode jdk_68_method_22_code 38 = .ok (.iload_n 2, 1) := by decide +kernel
theorem own_d16_39 : decode jdk_68_method_22_code 39 = .ok (.iadd, 1) := by decide +kernel
theorem own_d16_40 : decode jdk_68_method_22_code 40 = .ok (.putfield 79, 3) := by decide +kernel
theorem own_d16_43 : decode jdk_68_method_22_code 43 = .ok (.aload_n 0, 1) := by decide +kernel
theorem own_d16_44 : decode jdk_68_method_22_code 44 = .ok (.areturn, 1) := by decide +kernel
theorem own_d17_0 : decode jdk_42_method_54_code 0 = .ok (.aload_n 0, 1) := by decide +kernel
theorem own_d17_1 : decode jdk_42_method_54_code 1 = .ok (.getfield 9, 3) := by decide +kernel
theorem own_d17_4 : decode jdk_42_method_54_code 4 = .ok (.arraylength, 1) := by decide +kernel
theorem own_d17_5 : decode jdk_42_method_54_code 5 = .ok (.aload_n 0, 1) := by decide +kernel
theorem own_d17_6 : decode jdk_42_method_54_code 6 = .ok (.invokevirtual 335, 3) := by decide +kernel
theorem own_d17_9 : decode jdk_42_method_54_code 9 = .ok (.ishr, 1) := by decide +kernel
theorem own_d17_10 : decode jdk_42_method_54_code 10 = .ok (.ireturn, 1) := by decide +kernel
theorem own_d18_0 : decode jdk_42_method_152_code 0 = .ok (.getstatic 38, 3) := by decide +kernel
theorem own_d18_3 : decode jdk_42_method_152_code 3 = .ok (.ifCond .eq 10, 3) := by decide +kernel
theorem own_d18_6 : decode jdk_42_method_152_code 6 = .ok (.aload_n 0, 1) := by decide +kernel
theorem own_d18_7 : decode jdk_42_method_152_code 7 = .ok (.getfield 15, 3) := by decide +kernel
theorem own_d18_10 : decode jdk_42_method_152_code 10 = .ok (.goto 4, 3) := by decide +kernel
theorem own_d18_14 : decode jdk_42_method_152_code 14 = .ok (.ireturn, 1) := by decide +kernel
theorem own_d19_0 : decode jdk_68_method_9_code 0 = .ok (.aload_n 0, 1) := by decide +kernel
theorem own_d19_1 : decode jdk_68_method_9_code 1 = .ok (.getfield 15, 3) := by decide +kernel
theorem own_d19_4 : decode jdk_68_method_9_code 4 = .ok (.arraylength, 1) := by decide +kernel
theorem own_d19_5 : decode jdk_68_method_9_code 5 = .ok (.aload_n 0, 1) := by decide +kernel
theorem own_d19_6 : decode jdk_68_method_9_code 6 = .ok (.getfield 22, 3) := by decide +kernel
theorem own_d19_9 : decode jdk_68_method_9_code 9 = .ok (.ishr, 1) := by decide +kernel
theorem own_d19_10 : decode jdk_68_method_9_code 10 = .ok (.istore_n 2, 1) := by decide +kernel
theorem own_d19_11 : decode jdk_68_method_9_code 11 = .ok (.iload_n 1, 1) := by decide +kernel
theorem own_d19_12 : decode jdk_68_method_9_code 12 = .ok (.iload_n 2, 1) := by decide +kernel
theorem own_d19_13 : decode jdk_68_method_9_code 13 = .ok (.isub, 1) := by decide +kernel
theorem own_d19_14 : decode jdk_68_method_9_code 14 = .ok (.ifCond .le 24, 3) := by decide +kernel
theorem own_d19_17 : decode jdk_68_method_9_code 17 = .ok (.aload_n 0, 1) := by decide +kernel
theorem own_d19_18 : decode jdk_68_method_9_code 18 = .ok (.aload_n 0, 1) := by decide +kernel
theorem own_d19_19 : decode jdk_68_method_9_code 19 = .ok (.getfield 15, 3) := by decide +kernel
theorem own_d19_22 : decode jdk_68_method_9_code 22 = .ok (.aload_n 0, 1) := by decide +kernel
theorem own_d19_23 : decode jdk_68_method_9_code 23 = .ok (.iload_n 1, 1) := by decide +kernel
theorem own_d19_24 : decode jdk_68_method_9_code 24 = .ok (.invokevirtual 104, 3) := by decide +kernel
theorem own_d19_27 : decode jdk_68_method_9_code 27 = .ok (.aload_n 0, 1) := by decide +kernel
theorem own_d19_28 : decode jdk_68_method_9_code 28 = .ok (.getfield 22, 3) := by decide +kernel
theorem own_d19_31 : decode jdk_68_method_9_code 31 = .ok (.ishl, 1) := by decide +kernel
theorem own_d19_32 : decode jdk_68_method_9_code 32 = .ok (.invokestatic 108, 3) := by decide +kernel
theorem own_d19_35 : decode jdk_68_method_9_code 35 = .ok (.putfield 15, 3) := by decide +kernel
theorem own_d19_38 : decode jdk_68_method_9_code 38 = .ok (.return_, 1) := by decide +kernel
theorem own_d20_0 : decode jdk_68_method_73_code 0 = .ok (.aload_n 0, 1) := by decide +kernel
theorem own_d20_1 : decode jdk_68_method_73_code 1 = .ok (.aload_n 2, 1) := by decide +kernel
theorem own_d20_2 : decode jdk_68_method_73_code 2 = .ok (.invokevirtual 397, 3) := by decide +kernel
theorem own_d20_5 : decode jdk_68_method_73_code 5 = .ok (.aload_n 2, 1) := by decide +kernel
theorem own_d20_6 : decode jdk_68_method_73_code 6 = .ok (.aload_n 0, 1) := by decide +kernel
theorem own_d20_7 : decode jdk_68_method_73_code 7 = .ok (.getfield 15, 3) := by decide +kernel
theorem own_d20_10 : decode jdk_68_method_73_code 10 = .ok (.iload_n 1, 1) := by decide +kernel
theorem own_d20_11 : decode jdk_68_method_73_code 11 = .ok (.aload_n 0, 1) := by decide +kernel
theorem own_d20_12 : decode jdk_68_method_73_code 12 = .ok (.getfield 22, 3) := by decide +kernel
theorem own_d20_15 : decode jdk_68_method_73_code 15 = .ok (.invokevirtual 399, 3) := by decide +kernel
theorem own_d20_18 : decode jdk_68_method_73_code 18 = .ok (.return_, 1) := by decide +kernel
theorem own_d21_0 : decode jdk_68_method_71_code 0 = .ok (.getstatic 18, 3) := by decide +kernel
theorem own_d21_3 : decode jdk_68_method_71_code 3 = .ok (.ifCond .eq 18, 3) := by decide +kernel
theorem own_d21_6 : decode jdk_68_method_71_code 6 = .ok (.aload_n 0, 1) := by decide +kernel
theorem own_d21_7 : decode jdk_68_method_71_code 7 = .ok (.getfield 22, 3) := by decide +kernel
theorem own_d21_10 : decode jdk_68_method_71_code 10 = .ok (.aload_n 1, 1) := by decide +kernel
theorem own_d21_11 : decode jdk_68_method_71_code 11 = .ok (.invokevirtual 40, 3) := by decide +kernel
theorem own_d21_14 : decode jdk_68_method_71_code 14 = .ok (.if_icmp .eq 7, 3) := by decide +kernel
theorem own_d21_21 : decode jdk_68_method_71_code 21 = .ok (.return_, 1) := by decide +kernel
theorem own_d22_0 : decode jdk_42_method_147_code 0 = .ok (.aload_n 0, 1) := by decide +kernel
theorem own_d22_1 : decode jdk_42_method_147_code 1 = .ok (.invokevirtual 335, 3) := by decide +kernel
theorem own_d22_4 : decode jdk_42_method_147_code 4 = .ok (.iload_n 3, 1) := by decide +kernel
theorem own_d22_5 : decode jdk_42_method_147_code 5 = .ok (.if_icmp .ne 23, 3) := by decide +kernel
theorem own_d22_8 : decode jdk_42_method_147_code 8 = .ok (.aload_n 0, 1) := by decide +kernel
theorem own_d22_9 : decode jdk_42_method_147_code 9 = .ok (.getfield 9, 3) := by decide +kernel
theorem own_d22_12 : decode jdk_42_method_147_code 12 = .ok (.iconst 0, 1) := by decide +kernel
theorem own_d22_13 : decode jdk_42_method_147_code 13 = .ok (.aload_n 1, 1) := by decide +kernel
theorem own_d22_14 : decode jdk_42_method_147_code 14 = .ok (.iload_n 2, 1) := by decide +kernel
theorem own_d22_15 : decode jdk_42_method_147_code 15 = .ok (.iload_n 3, 1) := by decide +kernel
theorem own_d22_16 : decode jdk_42_method_147_code 16 = .ok (.ishl, 1) := by decide +kernel
theorem own_d22_17 : decode jdk_42_method_147_code 17 = .ok (.aload_n 0, 1) := by decide +kernel
theorem own_d22_18 : decode jdk_42_method_147_code 18 = .ok (.getfield 9, 3) := by decide +kernel
theorem own_d22_21 : decode jdk_42_method_147_code 21 = .ok (.arraylength, 1) := by decide +kernel
theorem own_d22_22 : decode jdk_42_method_147_code 22 = .ok (.invokestatic 212, 3) := by decide +kernel
theorem own_d22_25 : decode jdk_42_method_147_code 25 = .ok (.goto 18, 3) := by decide +kernel
theorem own_d22_43 : decode jdk_42_method_147_code 43 = .ok (.return_, 1) := by decide +kernel
theorem own_d23_0 : decode jdk_68_method_10_code 0 = .ok (.aload_n 0, 1) := by decide +kernel
theorem own_d23_1 : decode jdk_68_method_10_code 1 = .ok (.getfield 15, 3) := by decide +kernel
theorem own_d23_4 : decode jdk_68_method_10_code 4 = .ok (.arraylength, 1) := by decide +kernel
theorem own_d23_5 : decode jdk_68_method_10_code 5 = .ok (.istore_n 2, 1) := by decide +kernel
theorem own_d23_6 : decode jdk_68_method_10_code 6 = .ok (.iload_n 1, 1) := by decide +kernel
theorem own_d23_7 : decode jdk_68_method_10_code 7 = .ok (.aload_n 0, 1) := by decide +kernel
theorem own_d23_8 : decode jdk_68_method_10_code 8 = .ok (.getfield 22, 3) := by decide +kernel
theorem own_d23_11 : decode jdk_68_method_10_code 11 = .ok (.ishl, 1) := by decide +kernel
theorem own_d23_12 : decode jdk_68_method_10_code 12 = .ok (.istore_n 3, 1) := by decide +kernel
theorem own_d23_13 : decode jdk_68_method_10_code 13 = .ok (.iload_n 3, 1) := by decide +kernel
theorem own_d23_14 : decode jdk_68_method_10_code 14 = .ok (.iload_n 2, 1) := by decide +kernel
theorem own_d23_15 : decode jdk_68_method_10_code 15 = .ok (.isub, 1) := by decide +kernel
theorem own_d23_16 : decode jdk_68_method_10_code 16 = .ok (.istore 4, 2) := by decide +kernel
theorem own_d23_18 : decode jdk_68_method_10_code 18 = .ok (.iload_n 2, 1) := by decide +kernel
theorem own_d23_19 : decode jdk_68_method_10_code 19 = .ok (.iload 4, 2) := by decide +kernel
theorem own_d23_21 : decode jdk_68_method_10_code 21 = .ok (.iload_n 2, 1) := by decide +kernel
theorem own_d23_22 : decode jdk_68_method_10_code 22 = .ok (.iconst 2, 1) := by decide +kernel
theorem own_d23_23 : decode jdk_68_method_10_code 23 = .ok (.aload_n 0, 1) := by decide +kernel
theorem own_d23_24 : decode jdk_68_method_10_code 24 = .ok (.getfield 22, 3) := by decide +kernel
theorem own_d23_27 : decode jdk_68_method_10_code 27 = .ok (.ishl, 1) := by decide +kernel
theorem own_d23_28 : decode jdk_68_method_10_code 28 = .ok (.iadd, 1) := by decide +kernel
theorem own_d23_29 : decode jdk_68_method_10_code 29 = .ok (.invokestatic 114, 3) := by decide +kernel
theorem own_d23_32 : decode jdk_68_method_10_code 32 = .ok (.istore 5, 2) := by decide +kernel
theorem own_d23_34 : decode jdk_68_method_10_code 34 = .ok (.iload 5, 2) := by decide +kernel
theorem own_d23_36 : decode jdk_68_method_10_code 36 = .ok (.ldc 39, 2) := by decide +kernel
theorem own_d23_38 : decode jdk_68_method_10_code 38 = .ok (.if_icmp .ne 13, 3) := by decide +kernel
theorem own_d23_51 : decode jdk_68_method_10_code 51 = .ok (.iload 5, 2) := by decide +kernel
theorem own_d23_53 : decode jdk_68_method_10_code 53 = .ok (.aload_n 0, 1) := by decide +kernel
theorem own_d23_54 : decode jdk_68_method_10_code 54 = .ok (.getfield 22, 3) := by decide +kernel
theorem own_d23_57 : decode jdk_68_method_10_code 57 = .ok (.ishr, 1) := by decide +kernel
theorem own_d23_58 : decode jdk_68_method_10_code 58 = .ok (.ireturn, 1) := by decide +kernel
theorem own_d24_0 : decode jdk_48_method_27_code 0 = .ok (.iload_n 0, 1) := by decide +kernel
theorem own_d24_1 : decode jdk_48_method_27_code 1 = .ok (.iload_n 1, 1) := by decide +kernel
theorem own_d24_2 : decode jdk_48_method_27_code 2 = .ok (.iload_n 2, 1) := by decide +kernel
theorem own_d24_3 : decode jdk_48_method_27_code 3 = .ok (.invokestatic 194, 3) := by decide +kernel
theorem own_d24_6 : decode jdk_48_method_27_code 6 = .ok (.iadd, 1) := by decide +kernel
theorem own_d24_7 : decode jdk_48_method_27_code 7 = .ok (.istore_n 3, 1) := by decide +kernel
theorem own_d24_8 : decode jdk_48_method_27_code 8 = .ok (.iconst 0, 1) := by decide +kernel
theorem own_d24_9 : decode jdk_48_method_27_code 9 = .ok (.iload_n 3, 1) := by decide +kernel
theorem own_d24_10 : decode jdk_48_method_27_code 10 = .ok (.if_icmp .ge 11, 3) := by decide +kernel
theorem own_d24_13 : decode jdk_48_method_27_code 13 = .ok (.iload_n 3, 1) := by decide +kernel
theorem own_d24_14 : decode jdk_48_method_27_code 14 = .ok (.ldc 200, 2) := by decide +kernel
theorem own_d24_16 : decode jdk_48_method_27_code 16 = .ok (.if_icmp .gt 5, 3) := by decide +kernel
theorem own_d24_19 : decode jdk_48_method_27_code 19 = .ok (.iload_n 3, 1) := by decide +kernel
theorem own_d24_20 : decode jdk_48_method_27_code 20 = .ok (.ireturn, 1) := by decide +kernel
theorem own_d25_0 : decode jdk_29_method_65_code 0 = .ok (.iload_n 0, 1) := by decide +kernel
theorem own_d25_1 : decode jdk_29_method_65_code 1 = .ok (.iload_n 1, 1) := by decide +kernel
theorem own_d25_2 : decode jdk_29_method_65_code 2 = .ok (.if_icmp .lt 7, 3) := by decide +kernel
theorem own_d25_9 : decode jdk_29_method_65_code 9 = .ok (.iload_n 1, 1) := by decide +kernel
theorem own_d25_10 : decode jdk_29_method_65_code 10 = .ok (.ireturn, 1) := by decide +kernel
theorem own_d26_0 : decode jdk_65_method_121_code 0 = .ok (.iload_n 1, 1) := by decide +kernel
theorem own_d26_1 : decode jdk_65_method_121_code 1 = .ok (.aload_n 0, 1) := by decide +kernel
theorem own_d26_2 : decode jdk_65_method_121_code 2 = .ok (.arraylength, 1) := by decide +kernel
theorem own_d26_3 : decode jdk_65_method_121_code 3 = .ok (.if_icmp .ne 11, 3) := by decide +kernel
theorem own_d26_14 : decode jdk_65_method_121_code 14 = .ok (.iload_n 1, 1) := by decide +kernel
theorem own_d26_15 : decode jdk_65_method_121_code 15 = .ok (.newarray .byte, 2) := by decide +kernel
theorem own_d26_17 : decode jdk_65_method_121_code 17 = .ok (.astore_n 2, 1) := by decide +kernel
theorem own_d26_18 : decode jdk_65_method_121_code 18 = .ok (.aload_n 0, 1) := by decide +kernel
theorem own_d26_19 : decode jdk_65_method_121_code 19 = .ok (.iconst 0, 1) := by decide +kernel
theorem own_d26_20 : decode jdk_65_method_121_code 20 = .ok (.aload_n 2, 1) := by decide +kernel
theorem own_d26_21 : decode jdk_65_method_121_code 21 = .ok (.iconst 0, 1) := by decide +kernel
theorem own_d26_22 : decode jdk_65_method_121_code 22 = .ok (.aload_n 0, 1) := by decide +kernel
theorem own_d26_23 : decode jdk_65_method_121_code 23 = .ok (.arraylength, 1) := by decide +kernel
theorem own_d26_24 : decode jdk_65_method_121_code 24 = .ok (.iload_n 1, 1) := by decide +kernel
theorem own_d26_25 : decode jdk_65_method_121_code 25 = .ok (.invokestatic 304, 3) := by decide +kernel
theorem own_d26_28 : decode jdk_65_method_121_code 28 = .ok (.invokestatic 150, 3) := by decide +kernel
theorem own_d26_31 : decode jdk_65_method_121_code 31 = .ok (.aload_n 2, 1) := by decide +kernel
theorem own_d26_32 : decode jdk_65_method_121_code 32 = .ok (.areturn, 1) := by decide +kernel
theorem own_d27_0 : decode jdk_29_method_69_code 0 = .ok (.iload_n 0, 1) := by decide +kernel
theorem own_d27_1 : decode jdk_29_method_69_code 1 = .ok (.iload_n 1, 1) := by decide +kernel
theorem own_d27_2 : decode jdk_29_method_69_code 2 = .ok (.if_icmp .gt 7, 3) := by decide +kernel
theorem own_d27_5 : decode jdk_29_method_69_code 5 = .ok (.iload_n 0, 1) := by decide +kernel
theorem own_d27_6 : decode jdk_29_method_69_code 6 = .ok (.goto 4, 3) := by decide +kernel
theorem own_d27_9 : decode jdk_29_method_69_code 9 = .ok (.iload_n 1, 1) := by decide +kernel
theorem own_d27_10 : decode jdk_29_method_69_code 10 = .ok (.ireturn, 1) := by decide +kernel
theorem own_d28_0 : decode jdk_67_method_42_code 0 = .ok (.new 18, 3) := by decide +kernel
theorem own_d28_3 : decode jdk_67_method_42_code 3 = .ok (.dup, 1) := by decide +kernel
theorem own_d28_4 : decode jdk_67_method_42_code 4 = .ok (.aload_n 0, 1) := by decide +kernel
theorem own_d28_5 : decode jdk_67_method_42_code 5 = .ok (.invokespecial 137, 3) := by decide +kernel
theorem own_d28_8 : decode jdk_67_method_42_code 8 = .ok (.areturn, 1) := by decide +kernel
theorem own_d29_0 : decode jdk_42_method_53_code 0 = .ok (.aload_n 0, 1) := by decide +kernel
theorem own_d29_1 : decode jdk_42_method_53_code 1 = .ok (.aload_n 1, 1) := by decide +kernel
theorem own_d29_2 : decode jdk_42_method_53_code 2 = .ok (.aconst_null, 1) := by decide +kernel
theorem own_d29_3 : decode jdk_42_method_53_code 3 = .ok (.invokespecial 489, 3) := by decide +kernel
theorem own_d29_6 : decode jdk_42_method_53_code 6 = .ok (.return_, 1) := by decide +kernel
theorem own_d30_0 : decode jdk_42_method_150_code 0 = .ok (.aload_n 0, 1) := by decide +kernel
theorem own_d30_1 : decode jdk_42_method_150_code 1 = .ok (.invokespecial 1, 3) := by decide +kernel
theorem own_d30_4 : decode jdk_42_method_150_code 4 = .ok (.aload_n 1, 1) := by decide +kernel
theorem own_d30_5 : decode jdk_42_method_150_code 5 = .ok (.invokevirtual 552, 3) := by decide +kernel
theorem own_d30_8 : decode jdk_42_method_150_code 8 = .ok (.astore_n 3, 1) := by decide +kernel
theorem own_d30_9 : decode jdk_42_method_150_code 9 = .ok (.aload_n 1, 1) := by decide +kernel
theorem own_d30_10 : decode jdk_42_method_150_code 10 = .ok (.invokevirtual 549, 3) := by decide +kernel
theorem own_d30_13 : decode jdk_42_method_150_code 13 = .ok (.istore 4, 2) := by decide +kernel
theorem own_d30_15 : decode jdk_42_method_150_code 15 = .ok (.aload_n 1, 1) := by decide +kernel
theorem own_d30_16 : decode jdk_42_method_150_code 16 = .ok (.invokevirtual 1047, 3) := by decide +kernel
theorem own_d30_19 : decode jdk_42_method_150_code 19 = .ok (.ifCond .eq 22, 3) := by decide +kernel
theorem own_d30_22 : decode jdk_42_method_150_code 22 = .ok (.aload_n 0, 1) := by decide +kernel
theorem own_d30_23 : decode jdk_42_method_150_code 23 = .ok (.iconst 0, 1) := by decide +kernel
theorem own_d30_24 : decode jdk_42_method_150_code 24 = .ok (.putfield 15, 3) := by decide +kernel
theorem own_d30_27 : decode jdk_42_method_150_code 27 = .ok (.aload_n 0, 1) := by decide +kernel
theorem own_d30_28 : decode jdk_42_method_150_code 28 = .ok (.aload_n 3, 1) := by decide +kernel
theorem own_d30_29 : decode jdk_42_method_150_code 29 = .ok (.iconst 0, 1) := by decide +kernel
theorem own_d30_30 : decode jdk_42_method_150_code 30 = .ok (.iload 4, 2) := by decide +kernel
theorem own_d30_32 : decode jdk_42_method_150_code 32 = .ok (.invokestatic 54, 3) := by decide +kernel
theorem own_d30_35 : decode jdk_42_method_150_code 35 = .ok (.putfield 9, 3) := by decide +kernel
theorem own_d30_38 : decode jdk_42_method_150_code 38 = .ok (.goto 59, 3) := by decide +kernel
theorem own_d30_97 : decode jdk_42_method_150_code 97 = .ok (.return_, 1) := by decide +kernel
theorem own_d31_0 : decode jdk_68_method_64_code 0 = .ok (.aload_n 0, 1) := by decide +kernel
theorem own_d31_1 : decode jdk_68_method_64_code 1 = .ok (.getfield 15, 3) := by decide +kernel
theorem own_d31_4 : decode jdk_68_method_64_code 4 = .ok (.areturn, 1) := by decide +kernel
theorem own_d32_0 : decode jdk_67_method_93_code 0 = .ok (.aload_n 0, 1) := by decide +kernel
theorem own_d32_1 : decode jdk_67_method_93_code 1 = .ok (.invokespecial 343, 3) := by decide +kernel
theorem own_d32_4 : decode jdk_67_method_93_code 4 = .ok (.ireturn, 1) := by decide +kernel
theorem own_d33_0 : decode jdk_68_method_6_code 0 = .ok (.aload_n 0, 1) := by decide +kernel
theorem own_d33_1 : decode jdk_68_method_6_code 1 = .ok (.getfield 79, 3) := by decide +kernel
theorem own_d33_4 : decode jdk_68_method_6_code 4 = .ok (.ireturn, 1) := by decide +kernel
theorem own_d34_0 : decode jdk_68_method_68_code 0 = .ok (.getstatic 18, 3) := by decide +kernel
theorem own_d34_3 : decode jdk_68_method_68_code 3 = .ok (.ifCond .eq 14, 3) := by decide +kernel
theorem own_d34_6 : decode jdk_68_method_68_code 6 = .ok (.aload_n 0, 1) := by decide +kernel
theorem own_d34_7 : decode jdk_68_method_68_code 7 = .ok (.getfield 22, 3) := by decide +kernel
theorem own_d34_10 : decode jdk_68_method_68_code 10 = .ok (.ifCond .ne 7, 3) := by decide +kernel
theorem own_d34_13 : decode jdk_68_method_68_code 13 = .ok (.iconst 1, 1) := by decide +kernel
theorem own_d34_14 : decode jdk_68_method_68_code 14 = .ok (.goto 4, 3) := by decide +kernel
theorem own_d34_18 : decode jdk_68_method_68_code 18 = .ok (.ireturn, 1) := by decide +kernel
theorem own_d35_0 : decode jdk_65_method_132_code 0 = .ok (.iload_n 1, 1) := by decide +kernel
theorem own_d35_1 : decode jdk_65_method_132_code 1 = .ok (.ifCond .ne 9, 3) := by decide +kernel
theorem own_d35_4 : decode jdk_65_method_132_code 4 = .ok (.iload_n 2, 1) := by decide +kernel
theorem own_d35_5 : decode jdk_65_method_132_code 5 = .ok (.aload_n 0, 1) := by decide +kernel
theorem own_d35_6 : decode jdk_65_method_132_code 6 = .ok (.arraylength, 1) := by decide +kernel
theorem own_d35_7 : decode jdk_65_method_132_code 7 = .ok (.if_icmp .eq 10, 3) := by decide +kernel
theorem own_d35_10 : decode jdk_65_method_132_code 10 = .ok (.aload_n 0, 1) := by decide +kernel
theorem own_d35_11 : decode jdk_65_method_132_code 11 = .ok (.iload_n 1, 1) := by decide +kernel
theorem own_d35_12 : decode jdk_65_method_132_code 12 = .ok (.iload_n 2, 1) := by decide +kernel
theorem own_d35_13 : decode jdk_65_method_132_code 13 = .ok (.invokestatic 339, 3) := by decide +kernel
theorem own_d35_16 : decode jdk_65_method_132_code 16 = .ok (.areturn, 1) := by decide +kernel
theorem own_d36_0 : decode jdk_65_method_133_code 0 = .ok (.iload_n 1, 1) := by decide +kernel
theorem own_d36_1 : decode jdk_65_method_133_code 1 = .ok (.iload_n 2, 1) := by decide +kernel
theorem own_d36_2 : decode jdk_65_method_133_code 2 = .ok (.invokestatic 343, 3) := by decide +kernel
theorem own_d36_5 : decode jdk_65_method_133_code 5 = .ok (.iload_n 2, 1) := by decide +kernel
theorem own_d36_6 : decode jdk_65_method_133_code 6 = .ok (.iload_n 1, 1) := by decide +kernel
theorem own_d36_7 : decode jdk_65_method_133_code 7 = .ok (.isub, 1) := by decide +kernel
theorem own_d36_8 : decode jdk_65_method_133_code 8 = .ok (.istore_n 3, 1) := by decide +kernel
theorem own_d36_9 : decode jdk_65_method_133_code 9 = .ok (.iload_n 3, 1) := by decide +kernel
theorem own_d36_10 : decode jdk_65_method_133_code 10 = .ok (.newarray .byte, 2) := by decide +kernel
theorem own_d36_12 : decode jdk_65_method_133_code 12 = .ok (.astore 4, 2) := by decide +kernel
theorem own_d36_14 : decode jdk_65_method_133_code 14 = .ok (.aload_n 0, 1) := by decide +kernel
theorem own_d36_15 : decode jdk_65_method_133_code 15 = .ok (.iload_n 1, 1) := by decide +kernel
theorem own_d36_16 : decode jdk_65_method_133_code 16 = .ok (.aload 4, 2) := by decide +kernel
theorem own_d36_18 : decode jdk_65_method_133_code 18 = .ok (.iconst 0, 1) := by decide +kernel
theorem own_d36_19 : decode jdk_65_method_133_code 19 = .ok (.aload_n 0, 1) := by decide +kernel
theorem own_d36_20 : decode jdk_65_method_133_code 20 = .ok (.arraylength, 1) := by decide +kernel
theorem own_d36_21 : decode jdk_65_method_133_code 21 = .ok (.iload_n 1, 1) := by decide +kernel
theorem own_d36_22 : decode jdk_65_method_133_code 22 = .ok (.isub, 1) := by decide +kernel
theorem own_d36_23 : decode jdk_65_method_133_code 23 = .ok (.iload_n 3, 1) := by decide +kernel
theorem own_d36_24 : decode jdk_65_method_133_code 24 = .ok (.invokestatic 304, 3) := by decide +kernel
theorem own_d36_27 : decode jdk_65_method_133_code 27 = .ok (.invokestatic 150, 3) := by decide +kernel
theorem own_d36_30 : decode jdk_65_method_133_code 30 = .ok (.aload 4, 2) := by decide +kernel
theorem own_d36_32 : decode jdk_65_method_133_code 32 = .ok (.areturn, 1) := by decide +kernel
theorem own_d37_0 : decode jdk_65_method_131_code 0 = .ok (.iload_n 1, 1) := by decide +kernel
theorem own_d37_1 : decode jdk_65_method_131_code 1 = .ok (.iload_n 0, 1) := by decide +kernel
theorem own_d37_2 : decode jdk_65_method_131_code 2 = .ok (.if_icmp .ge 35, 3) := by decide +kernel
theorem own_d37_37 : decode jdk_65_method_131_code 37 = .ok (.return_, 1) := by decide +kernel
abbrev own_EL : List (String × Nat) := [("com/example/sessionsmith/sessionsmith/SchemaProblem", 7), ("com/example/sessionsmith/sessionsmith/SchemaProblem", 26), ("com/example/sessionsmith/sessionsmith/SchemaProblem", 32), ("com/example/sessionsmith/sessionsmith/SchemaProblem", 38), ("com/example/sessionsmith/sessionsmith/SchemaProblem", 40)]
theorem own_EW {a0 : Array Value} {Z : State} (hw : HW_ a0 Z) : EW Z a0 own_EL := (EW.cons (own_w49 hw) (by decide +kernel) (EW.cons (own_w83 hw) (by decide +kernel) (EW.cons (own_w131 hw) (by decide +kernel) (EW.cons (own_w204 hw) (by decide +kernel) (EW.cons (own_w205 hw) (by decide +kernel) EW.nil)))))
theorem own_mem49 : (("com/example/sessionsmith/sessionsmith/SchemaProblem", 7) : String × Nat) ∈ own_EL := List.mem_of_getElem? (i := 0) rfl
theorem own_mem83 : (("com/example/sessionsmith/sessionsmith/SchemaProblem", 26) : String × Nat) ∈ own_EL := List.mem_of_getElem? (i := 1) rfl
theorem own_mem131 : (("com/example/sessionsmith/sessionsmith/SchemaProblem", 32) : String × Nat) ∈ own_EL := List.mem_of_getElem? (i := 2) rfl
theorem own_mem204 : (("com/example/sessionsmith/sessionsmith/SchemaProblem", 38) : String × Nat) ∈ own_EL := List.mem_of_getElem? (i := 3) rfl
theorem own_mem205 : (("com/example/sessionsmith/sessionsmith/SchemaProblem", 40) : String × Nat) ∈ own_EL := List.mem_of_getElem? (i := 4) rfl
section OwnStr
variable {p : Program} {l : Launch} {e : Env} {R : Room} {s : State} {args : Array Value} {below : List Frame} {len W : Nat} {Z : State} {a0 : Array Value} {h h' : Heap} {x t a : Addr} {cs : List Int32} {ws : List Addr} {sl : Nat} {v : Value}
/-- the String at x, of the byte[] at t, spells cs (signs 0 to 255) -/
def Str (Z : State) (h : Heap) (x t : Addr) (cs : List Int32) : Prop := ∃ (kb : ClassId) (n : Int32), Exa Z h x "java/lang/String" ∧ Fld Z h x "java/lang/String" "coder" "B" (.int 0) ∧ Fld Z h x "java/lang/String" "value" "[B" (.ref t) ∧ Arv Z h t kb .byte n ((cs.map fun c => c.toInt8.toInt32).map Value.int) (.int 0) ∧ n = Int32.ofNat cs.length ∧ (∀ c ∈ cs, ¬ c < 0 ∧ ¬ (255 : Int32) < c) ∧ cs.length ≤ 4000
theorem Str.ext (F : Str Z h x t cs) (E : Ext h h') : Str Z h' x t cs := by
  obtain ⟨kb, n, q1, q2, q3, q4, r⟩ := F; exact ⟨kb, n, q1.ext E, q2.ext E, q3.ext E, q4.ext E, r⟩
theorem Str.keep (F : Str Z h x t cs) (K : Keep h h' ws) (n1 : x ∉ ws) (n2 : t ∉ ws) : Str Z h' x t cs := by
  obtain ⟨kb, n, q1, q2, q3, q4, r⟩ := F; exact ⟨kb, n, q1.keep K, q2.keep K n1, q3.keep K n1, q4.keep K n2, r⟩
theorem Str.wr (F : Str Z h x t cs) (W : Wr h h' a sl v) (n1 : x ≠ a) (n2 : t ≠ a) : Str Z h' x t cs := by
  obtain ⟨kb, n, q1, q2, q3, q4, r⟩ := F; exact ⟨kb, n, q1.wr W, q2.other W (Or.inl n1), q3.other W (Or.inl n1), q4.other W n2, r⟩
theorem Str.exa (F : Str Z h x t cs) : Exa Z h x "java/lang/String" := by obtain ⟨kb, n, q1, r⟩ := F; exact q1
theorem Str.lt (F : Str Z h x t cs) : x < h.size := F.exa.lt
theorem Str.lt2 (F : Str Z h x t cs) : t < h.size := by obtain ⟨kb, n, q1, q2, q3, q4, r⟩ := F; exact q4.lt
theorem Str.ne2 {C : String} {k : Nat} (F : Str Z h x t cs) (E : Exa Z h a C) (w : (Jvm.Cond.instantiable C k).before a0 Z = true) : t ≠ a := by obtain ⟨kb, n, q1, q2, q3, q4, r⟩ := F; exact Ne.symm (Exa.neArv E q4 w)
theorem Str.of {kb : ClassId} {n : Int32} {vs : List Value} (q1 : Exa Z h x "java/lang/String") (q2 : Fld Z h x "java/lang/String" "coder" "B" (.int 0)) (q3 : Fld Z h x "java/lang/String" "value" "[B" (.ref t)) (q4 : Arv Z h t kb .byte n vs (.int 0)) (hv : vs = (cs.map fun c => c.toInt8.toInt32).map Value.int) (hn : n = Int32.ofNat cs.length) (hp : ∀ c ∈ cs, ¬ c < 0 ∧ ¬ (255 : Int32) < c) (hl : cs.length ≤ 4000) : Str Z h x t cs := by
  subst hv; exact ⟨kb, n, q1, q2, q3, q4, hn, hp, hl⟩
theorem payNew {b : Addr} {kc : ClassId} {N z : Int32} {d v0 c0 : Value} {n0 n : Nat} {vs : List Value} (hZ : Z.Warmed39 s.vm) (hw : HW_ a0 Z) (hx0 : n0 ≤ x) (hh0 : n0 ≤ h.size) (E : Exa Z h x "java/lang/String") (V : Fld Z h x "java/lang/String" "value" "[B" v0) (C : Fld Z h x "java/lang/String" "coder" "B" c0) (K : Arv Z h b kc .char N vs d) (hv : vs = cs.map Value.int) (S : Sta Z h "java/lang/String" "COMPACT_STRINGS" "Z" (.int z)) (hz : ¬ z = 0)
    (hn : cs.length = n) (hN : N = Int32.ofNat n) (l0 : 0 < n) (l2 : n ≤ 4000) (hp : ∀ c ∈ cs, ¬ c < 0 ∧ ¬ (255 : Int32) < c) (hfr : 4 ≤ R.frames) (hlo : W + 65 ≤ R.locals) :
    Pays l R p e below s args (⟨"java/lang/String", "<init>", "([C)V"⟩ : MethodName) len W #[.ref x, .ref b] h 1 n (fun v h' L => v = none ∧ Fr n0 L ∧ Keep h h' [x] ∧ ∃ t, h.size ≤ t ∧ Str Z h' x t cs) := by
  subst hv hn
  intro m meth c A g ig mk a q1 q2 q3 q4 q5 q6 q7
  obtain ⟨v, B, X, ⟨L, ⟨g1, g2, g3, g4, g5, t, kb, g6, g7, g8, g9, g10⟩, r⟩, st⟩ := StrChars.Road.backV (W := W) (R := R) (l := l) (p := p) (e := e) (s := s) (len := len) (args := args) (below := below) hZ (own_hws hw) (kI := 4) ((own_w1 hw)) (cs := cs) (bs := cs.map (fun c => c.toInt8.toInt32)) hx0 hh0 E V C K S hz rfl hN l0 l2 hp rfl hfr hlo m meth c A g ig mk a q1 q2 q3 q4 q5 q6 q7
  exact ⟨v, B, X, ⟨L, ⟨g1, g2, g3, t, g7, kb, _, g4, g5, g9, g10, hN, hp, l2⟩, r⟩, st⟩
theorem payEq {z : Int32} {y t' : Addr} {ds : List Int32} (hZ : Z.Warmed39 s.vm) (hw : HW_ a0 Z) (F : Str Z h x t cs) (F' : Str Z h y t' ds) (S : Sta Z h "java/lang/String" "COMPACT_STRINGS" "Z" (.int z)) (hz : ¬ z = 0) (hfr : 2 ≤ R.frames) (hlo : W + 28 ≤ R.locals) :
    Pays l R p e below s args (⟨"java/lang/String", "equals", "(Ljava/lang/Object;)Z"⟩ : MethodName) len W #[.ref x, .ref y] h 0 0 (fun v h' L => v = some (.int (if cs = ds then 1 else 0)) ∧ L = [] ∧ h' = h) := by
  obtain ⟨kb, n, q1, q2, q3, q4, hn, hp, hl⟩ := F
  obtain ⟨kb', n', q1', q2', q3', q4', hn', hp', hl'⟩ := F'
  subst hn hn'
  intro m meth c A g ig mk a r1 r2 r3 r4 r5 r6 r7
  obtain ⟨v, B, X, ⟨L, ⟨g1, g2, g3⟩, r⟩, st⟩ := StrChars.Road.eqW (W := W) (R := R) (l := l) (p := p) (e := e) (s := s) (len := len) (args := args) (below := below) hZ (own_heq hw) (kI := 4) ((own_w1 hw)) q1 q3 q2 q4 (StrChars.Road.codOf rfl fun c hc => (hp c hc).2) (own_up _ hp) hl q1' q3' q2' q4' (StrChars.Road.codOf rfl fun c hc => (hp' c hc).2) (own_up _ hp') hl' S hz hfr hlo m meth c A g ig mk a r1 r2 r3 r4 r5 r6 r7
  refine ⟨v, B, X, ⟨L, ⟨?_, g2, g3⟩, r⟩, st⟩
  rcases g1 with ⟨rfl, q⟩ | ⟨rfl, q⟩
  · rw [if_pos q]
  · rw [if_neg q]
end OwnStr
set_option maxRecDepth 65536 in
set_option maxHeartbeats 40000000 in
theorem rm14 (l : Launch) (Z : State) (a0 : Array Value) (hw : HW_ a0 Z) (sb : Addr) (G1 : Int32) (h0 : Heap) (n0 : Nat) (Z0 : n0 ≤ h0.size) (ge_sb : n0 ≤ sb) (P0_Old : Old Z n0 h0) (P1_Exa : Exa Z h0 sb "java/lang/StringBuilder") (P2_Fld : Fld Z h0 sb "java/lang/AbstractStringBuilder" "value" "[B" .null) (P3_Fld : Fld Z h0 sb "java/lang/AbstractStringBuilder" "coder" "B" (.int 0)) (P4_Fld : Fld Z h0 sb "java/lang/AbstractStringBuilder" "count" "I" (.int 0)) (O2 : Sta Z Z.heap "java/lang/String" "COMPACT_STRINGS" "Z" (.int G1)) (P5 : ¬ G1 = (0 : Int32)) :
    CtP l (⟨"java/lang/AbstractStringBuilder", "<init>", "(I)V"⟩ : MethodName) jdk_68_method_2_code 2 none [] ({ frames := 1, cells := 1, slots := 16, locals := 12 } : Room) Z #[(.ref sb), (.int 16)] h0 (fun v h L => ∃ (va : Addr), ∃ (kv : ClassId), v = none ∧ Fr n0 L ∧ Keep h0 h [sb] ∧ h0.size ≤ va ∧ Fld Z h sb "java/lang/AbstractStringBuilder" "value" "[B" (.ref va) ∧ Fld Z h sb "java/lang/AbstractStringBuilder" "coder" "B" (.int 0) ∧ Fld Z h sb "java/lang/AbstractStringBuilder" "count" "I" (.int 0) ∧ Arv Z h va kv .byte (16 : Int32) [(.int 0), (.int 0), (.int 0), (.int 0), (.int 0), (.int 0), (.int 0), (.int 0), (.int 0), (.int 0), (.int 0), (.int 0), (.int 0), (.int 0), (.int 0), (.int 0)] (.int 0)) := by
  refine CtP.walk (Ls := #[.val (.ref sb), .val (.int 16)]) (plainFor_of_name own_pn0) (fun m => by first | (simp [entryFrame, mkF, argsToLocals, Value.category]; done) | rfl) ?_
  intro p e s m below meth cc_ T hx hby hml hown hnm hret hlk hZ X eT
  have N := Fr.nil n0
  have K0 := Keep.refl h0 [sb]
  have sz_h : h0.size ≤ h0.size := Nat.le_refl _
  refine galoadN (v := (.ref sb)) X hx 1 (hb hby own_d14_0) rfl rfl rfl ?_
  refine ginitO X hx hZ hown (own_w77 hw) (own_w12 hw) (own_w13 hw) eT (by rw [hml]; rfl) (by decide) 0 (Nat.le_of_eq rfl) (by decide) 4 (hb hby own_d14_1) rfl ?_
  clear X eT; clear T; intro T X eT
  refine ggetS X hx hZ (host := "") hown (Or.inl (own_w78 hw)) Via.refl eT (O2.ext P0_Old.2) 7 (hb hby own_d14_4) rfl ?_
  clear X eT; clear T; intro T X eT
  refine gifNo X hx 10 (hb hby own_d14_7) rfl ((if0 _ _).trans (feq P5).1) ?_
  refine galoadN (v := (.ref sb)) X hx 11 (hb hby own_d14_10) rfl rfl rfl ?_
  refine giloadN (v := (16 : Int32)) X hx 12 (hb hby own_d14_11) rfl rfl ?_
  refine gnewP (aty := .byte) X hx hZ (own_w19 hw) eT (n := (16 : Int32)) (by decide) 16 (by decide) (by decide) 1 16 rfl rfl (by decide) (by decide) 14 (hb hby own_d14_12) rfl ?_
  clear X eT; clear T; intro T h1 b2 kc5 X eT ga E3 V4
  have le_a := Nat.le_of_eq ga.symm
  have ne_sb_b2 : sb ≠ b2 := Nat.ne_of_lt (Nat.lt_of_lt_of_le P1_Exa.lt le_a)
  have ne_b2_sb : b2 ≠ sb := Ne.symm ne_sb_b2
  have sz_b2 : h0.size ≤ b2 := Nat.le_trans sz_h le_a
  have ge_b2 : n0 ≤ b2 := Nat.le_trans Z0 sz_b2
  clear le_a ga
  replace P0_Old := P0_Old.ext E3
  replace P1_Exa := P1_Exa.ext E3
  replace P2_Fld := P2_Fld.ext E3
  replace P3_Fld := P3_Fld.ext E3
  replace P4_Fld := P4_Fld.ext E3
  replace K0 := K0.ext E3
  replace sz_h : h0.size ≤ h1.size := Nat.le_trans sz_h E3.1
  replace V4 : Arv Z h1 b2 kc5 .byte (16 : Int32) [(.int 0), (.int 0), (.int 0), (.int 0), (.int 0), (.int 0), (.int 0), (.int 0), (.int 0), (.int 0), (.int 0), (.int 0), (.int 0), (.int 0), (.int 0), (.int 0)] (.int 0) := V4.pad (pad_rep [] _ 16)
  refine gputF X hx hZ (host := "") hown (Or.inl (own_w79 hw)) Via.refl eT P2_Fld P1_Exa (Or.inl (own_w80 hw)) (own_w66 hw) (ty := (.array .byte)) own_pf0 rfl rfl N ge_sb 17 (hb hby own_d14_14) rfl ?_
  clear X eT N; clear T; intro T h6 L X eT N W7
  replace P0_Old := P0_Old.wr W7 ge_sb
  replace P1_Exa := P1_Exa.wr W7
  replace P2_Fld := P2_Fld.same W7
  replace P3_Fld := P3_Fld.other W7 (Or.inr (slot_ne (Or.inl (own_w82 hw)) (Or.inl (own_w80 hw)) (by decide) own_pf1 own_pf0))
  replace P4_Fld := P4_Fld.other W7 (Or.inr (slot_ne (Or.inl (own_w105 hw)) (Or.inl (own_w80 hw)) (by decide) own_pf2 own_pf0))
  replace V4 := V4.other W7 ne_b2_sb
  replace K0 := K0.wr W7 (Or.inl (List.mem_of_getElem? (i := 0) rfl))
  replace sz_h : h0.size ≤ h6.size := by rw [Wr.size W7]; exact sz_h
  refine galoadN (v := (.ref sb)) X hx 18 (hb hby own_d14_17) rfl rfl rfl ?_
  refine giconst X hx (0 : Int32) 19 (hb hby own_d14_18) rfl rfl ?_
  refine gputF X hx hZ (host := "") hown (Or.inl (own_w81 hw)) Via.refl eT P3_Fld P1_Exa (Or.inl (own_w82 hw)) (own_w66 hw) (ty := .byte) own_pf1 rfl rfl N ge_sb 22 (hb hby own_d14_19) rfl ?_
  clear X eT N; clear T; intro T h8 L X eT N W9
  replace P0_Old := P0_Old.wr W9 ge_sb
  replace P1_Exa := P1_Exa.wr W9
  replace P2_Fld := P2_Fld.other W9 (Or.inr (slot_ne (Or.inl (own_w80 hw)) (Or.inl (own_w82 hw)) (by decide) own_pf0 own_pf1))
  replace P3_Fld := P3_Fld.same W9
  replace P4_Fld := P4_Fld.other W9 (Or.inr (slot_ne (Or.inl (own_w105 hw)) (Or.inl (own_w82 hw)) (by decide) own_pf2 own_pf1))
  replace V4 := V4.other W9 ne_b2_sb
  replace K0 := K0.wr W9 (Or.inl (List.mem_of_getElem? (i := 0) rfl))
  replace sz_h : h0.size ≤ h8.size := by rw [Wr.size W9]; exact sz_h
  refine ggoto X hx 38 (hb hby own_d14_22) (by decide) (by decide) ?_
  exact gRetP0 X hx hlk hret (hb hby own_d14_38) eT (by decide) (by decide) ⟨b2, kc5, rfl, N, K0, sz_b2, P2_Fld, P3_Fld, P4_Fld, V4⟩
set_option maxRecDepth 65536 in
set_option maxHeartbeats 40000000 in
theorem rm13 (l : Launch) (Z : State) (a0 : Array Value) (hw : HW_ a0 Z) (sb : Addr) (G1 : Int32) (h0 : Heap) (n0 : Nat) (Z0 : n0 ≤ h0.size) (ge_sb : n0 ≤ sb) (P0_Old : Old Z n0 h0) (P1_Exa : Exa Z h0 sb "java/lang/StringBuilder") (P2_Fld : Fld Z h0 sb "java/lang/AbstractStringBuilder" "value" "[B" .null) (P3_Fld : Fld Z h0 sb "java/lang/AbstractStringBuilder" "coder" "B" (.int 0)) (P4_Fld : Fld Z h0 sb "java/lang/AbstractStringBuilder" "count" "I" (.int 0)) (O2 : Sta Z Z.heap "java/lang/String" "COMPACT_STRINGS" "Z" (.int G1)) (P5 : ¬ G1 = (0 : Int32)) :
    CtP l (⟨"java/lang/StringBuilder", "<init>", "()V"⟩ : MethodName) jdk_67_method_1_code 1 none [] ({ frames := 2, cells := 1, slots := 16, locals := 25 } : Room) Z #[(.ref sb)] h0 (fun v h L => ∃ (va : Addr), ∃ (kv : ClassId), v = none ∧ Fr n0 L ∧ Keep h0 h [sb] ∧ h0.size ≤ va ∧ Fld Z h sb "java/lang/AbstractStringBuilder" "value" "[B" (.ref va) ∧ Fld Z h sb "java/lang/AbstractStringBuilder" "coder" "B" (.int 0) ∧ Fld Z h sb "java/lang/AbstractStringBuilder" "count" "I" (.int 0) ∧ Arv Z h va kv .byte (16 : Int32) [(.int 0), (.int 0), (.int 0), (.int 0), (.int 0), (.int 0), (.int 0), (.int 0), (.int 0), (.int 0), (.int 0), (.int 0), (.int 0), (.int 0), (.int 0), (.int 0)] (.int 0)) := by
  refine CtP.walk (Ls := #[.val (.ref sb)]) (plainFor_of_name own_pn1) (fun m => by first | (simp [entryFrame, mkF, argsToLocals, Value.category]; done) | rfl) ?_
  intro p e s m below meth cc_ T hx hby hml hown hnm hret hlk hZ X eT
  have N := Fr.nil n0
  have K0 := Keep.refl h0 [sb]
  have sz_h : h0.size ≤ h0.size := Nat.le_refl _
  refine galoadN (v := (.ref sb)) X hx 1 (hb hby own_d13_0) rfl rfl rfl ?_
  refine gbipush X hx (16 : Int32) 3 (hb hby own_d13_1) rfl rfl ?_
  refine gspecial (y := (⟨"java/lang/AbstractStringBuilder", "<init>", "(I)V"⟩ : MethodName)) (a := sb) (argsL := [(.int 16)]) (st := []) X hx hZ hown rfl (own_w71 hw) (own_w72 hw) (own_w76 hw) (by decide) (payP (W := 0) (rm14 l Z a0 hw (sb) (G1) h0 n0 (Nat.le_trans Z0 sz_h) ge_sb P0_Old P1_Exa P2_Fld P3_Fld P4_Fld (O2) (P5)) hZ (own_w76 hw) (own_w75 hw) (by decide) (by decide)) eT (by rw [hml]; rfl) (lenOf own_pd0 rfl) rfl (Nat.le_of_eq rfl) 1 16 rfl rfl (by decide) (by decide) 6 (hb hby own_d13_3) rfl ?_
  clear X eT; clear T; intro v T h1 L2 Lc X eT hL hQ2
  obtain ⟨va_3, kv_4, rfl, Nq, K5, zz_va_3, G7, G8, G9, G10⟩ := hQ2
  replace N : Fr n0 L2 := by rw [hL]; exact Fr.app N Nq
  clear Nq hL
  have ne_sb_va_3 : sb ≠ va_3 := Nat.ne_of_lt (Nat.lt_of_lt_of_le P1_Exa.lt zz_va_3)
  have ne_va_3_sb : va_3 ≠ sb := Ne.symm ne_sb_va_3
  have sz_va_3 : h0.size ≤ va_3 := Nat.le_trans sz_h zz_va_3
  have ge_va_3 : n0 ≤ va_3 := Nat.le_trans Z0 sz_va_3
  replace P0_Old := P0_Old.keep K5 (allS ge_sb all0)
  replace P1_Exa := P1_Exa.keep K5
  replace K0 := K0.trans K5 (allS (Or.inl (List.mem_of_getElem? (i := 0) rfl)) all0)
  replace sz_h : h0.size ≤ h1.size := Nat.le_trans sz_h K5.1
  show Go p e below _ T (mkF m 6 #[.val (.ref sb)] [])
  exact gRetP0 X hx hlk hret (hb hby own_d13_6) eT (by decide) (by decide) ⟨va_3, kv_4, rfl, N, K0, sz_va_3, G7, G8, G9, G10⟩
set_option maxRecDepth 65536 in
set_option maxHeartbeats 40000000 in
theorem rm18 (l : Launch) (Z : State) (a0 : Array Value) (hw : HW_ a0 Z) (x : Addr) (G1 : Int32) (h0 : Heap) (n0 : Nat) (Z0 : n0 ≤ h0.size) (P0_Old : Old Z n0 h0) (P1_Fld : Fld Z h0 x "java/lang/String" "coder" "B" (.int 0)) (O2 : Sta Z Z.heap "java/lang/String" "COMPACT_STRINGS" "Z" (.int G1)) (P5 : ¬ G1 = (0 : Int32)) :
    CtP l (⟨"java/lang/String", "coder", "()B"⟩ : MethodName) jdk_42_method_152_code 1 (some .byte) [] ({ frames := 0, cells := 0, slots := 0, locals := 0 } : Room) Z #[(.ref x)] h0 (fun v h L => v = some (.int 0) ∧ Fr n0 L ∧ h = h0) := by
  refine CtP.walk (Ls := #[.val (.ref x)]) own_pn2 (fun m => by first | (simp [entryFrame, mkF, argsToLocals, Value.category]; done) | rfl) ?_
  intro p e s m below meth cc_ T hx hby hml hown hnm hret hlk hZ X eT
  have N := Fr.nil n0
  have sz_h : h0.size ≤ h0.size := Nat.le_refl _
  refine ggetS X hx hZ (host := "") hown (Or.inl (own_w14 hw)) Via.refl eT (O2.ext P0_Old.2) 3 (hb hby own_d18_0) rfl ?_
  clear X eT; clear T; intro T X eT
  refine gifNo X hx 6 (hb hby own_d18_3) rfl ((if0 _ _).trans (feq P5).1) ?_
  refine galoadN (v := (.ref x)) X hx 7 (hb hby own_d18_6) rfl rfl rfl ?_
  refine ggetF X hx hZ (host := "") hown (Or.inl (own_w26 hw)) Via.refl eT P1_Fld 10 (hb hby own_d18_7) rfl ?_
  clear X eT; clear T; intro T X eT
  refine ggoto X hx 14 (hb hby own_d18_10) (by decide) (by decide) ?_
  exact gRetP X hx hlk hret rfl (Or.inl ⟨rfl, by simp, _, rfl⟩) (hb hby own_d18_14) eT (by decide) (by decide) ⟨rfl, N, rfl⟩
set_option maxRecDepth 65536 in
set_option maxHeartbeats 40000000 in
theorem rmSL6 (l : Launch) (Z : State) (a0 : Array Value) (hw : HW_ a0 Z) (x : Addr) (t : Addr) (kt : ClassId) (vs0 : List Value) (G1 : Int32) (h0 : Heap) (n0 : Nat) (Z0 : n0 ≤ h0.size) (P0_Old : Old Z n0 h0) (P1_Exa : Exa Z h0 x "java/lang/String") (P2_Fld : Fld Z h0 x "java/lang/String" "coder" "B" (.int 0)) (P3_Fld : Fld Z h0 x "java/lang/String" "value" "[B" (.ref t)) (P4_Arv : Arv Z h0 t kt .byte (6 : Int32) vs0 (.int 0)) (O2 : Sta Z Z.heap "java/lang/String" "COMPACT_STRINGS" "Z" (.int G1)) (P5 : ¬ G1 = (0 : Int32)) :
    CtP l (⟨"java/lang/String", "length", "()I"⟩ : MethodName) jdk_42_method_54_code 1 (some .int) [] ({ frames := 1, cells := 0, slots := 0, locals := 13 } : Room) Z #[(.ref x)] h0 (fun v h L => v = some (.int 6) ∧ Fr n0 L ∧ h = h0) := by
  refine CtP.walk (Ls := #[.val (.ref x)]) own_pn3 (fun m => by first | (simp [entryFrame, mkF, argsToLocals, Value.category]; done) | rfl) ?_
  intro p e s m below meth cc_ T hx hby hml hown hnm hret hlk hZ X eT
  have N := Fr.nil n0
  have sz_h : h0.size ≤ h0.size := Nat.le_refl _
  refine galoadN (v := (.ref x)) X hx 1 (hb hby own_d17_0) rfl rfl rfl ?_
  refine ggetF X hx hZ (host := "") hown (Or.inl (own_w28 hw)) Via.refl eT P3_Fld 4 (hb hby own_d17_1) rfl ?_
  clear X eT; clear T; intro T X eT
  refine garrlen X hx hZ eT P4_Arv 5 (hb hby own_d17_4) rfl ?_
  refine galoadN (v := (.ref x)) X hx 6 (hb hby own_d17_5) rfl rfl rfl ?_
  refine gvirtual (y := (⟨"java/lang/String", "coder", "()B"⟩ : MethodName)) (z := (⟨"java/lang/String", "coder", "()B"⟩ : MethodName)) (a := x) (argsL := []) (st := [(.int 6)]) X hx hZ hown (own_w99 hw) (own_w100 hw) (notFace_of_selects (args := #[]) (mvT hZ (own_w102 hw))) (own_w102 hw) (own_w101 hw) (by decide) P1_Exa (payP (W := 1) (rm18 l Z a0 hw (x) (G1) h0 n0 (Nat.le_trans Z0 sz_h) P0_Old P2_Fld (O2) (P5)) hZ (own_w103 hw) (own_w2 hw) (by decide) (by decide)) eT (by rw [hml]; rfl) (lenOf own_pd1 rfl) rfl (Nat.le_of_eq rfl) 0 0 rfl rfl (by decide) (by decide) 9 (hb hby own_d17_6) rfl ?_
  clear X eT; clear T; intro v T h1 L2 Lc X eT hL hQ2
  obtain ⟨rfl, Nq, hh⟩ := hQ2
  replace N : Fr n0 L2 := by rw [hL]; exact Fr.app N Nq
  clear Nq hL
  replace hh := hh.symm; subst hh
  show Go p e below _ T (mkF m 9 #[.val (.ref x)] [(.int 0), (.int 6)])
  refine gishr X hx 10 (hb hby own_d17_9) rfl ?_
  rw [show ((6 : Int32) >>> ((0 : Int32) &&& 31)) = (6 : Int32) from by decide]
  exact gRetP X hx hlk hret rfl (Or.inl ⟨rfl, by simp, _, rfl⟩) (hb hby own_d17_10) eT (by decide) (by decide) ⟨rfl, N, rfl⟩
set_option maxRecDepth 65536 in
set_option maxHeartbeats 40000000 in
theorem rmEC6_16 (l : Launch) (Z : State) (a0 : Array Value) (hw : HW_ a0 Z) (sb : Addr) (va : Addr) (kv : ClassId) (vs0 : List Value) (h0 : Heap) (n0 : Nat) (Z0 : n0 ≤ h0.size) (P0_Fld : Fld Z h0 sb "java/lang/AbstractStringBuilder" "value" "[B" (.ref va)) (P1_Fld : Fld Z h0 sb "java/lang/AbstractStringBuilder" "coder" "B" (.int 0)) (P2_Arv : Arv Z h0 va kv .byte (16 : Int32) vs0 (.int 0)) :
    CtP l (⟨"java/lang/AbstractStringBuilder", "ensureCapacityInternal", "(I)V"⟩ : MethodName) jdk_68_method_9_code 3 none [] ({ frames := 0, cells := 0, slots := 0, locals := 0 } : Room) Z #[(.ref sb), (.int 6)] h0 (fun v h L => v = none ∧ Fr n0 L ∧ h = h0) := by
  refine CtP.walk (Ls := #[.val (.ref sb), .val (.int 6), .unset]) (plainFor_of_name own_pn0) (fun m => by first | (simp [entryFrame, mkF, argsToLocals, Value.category]; done) | rfl) ?_
  intro p e s m below meth cc_ T hx hby hml hown hnm hret hlk hZ X eT
  have N := Fr.nil n0
  have sz_h : h0.size ≤ h0.size := Nat.le_refl _
  refine galoadN (v := (.ref sb)) X hx 1 (hb hby own_d19_0) rfl rfl rfl ?_
  refine ggetF X hx hZ (host := "") hown (Or.inl (own_w79 hw)) Via.refl eT P0_Fld 4 (hb hby own_d19_1) rfl ?_
  clear X eT; clear T; intro T X eT
  refine garrlen X hx hZ eT P2_Arv 5 (hb hby own_d19_4) rfl ?_
  refine galoadN (v := (.ref sb)) X hx 6 (hb hby own_d19_5) rfl rfl rfl ?_
  refine ggetF X hx hZ (host := "") hown (Or.inl (own_w81 hw)) Via.refl eT P1_Fld 9 (hb hby own_d19_6) rfl ?_
  clear X eT; clear T; intro T X eT
  refine gishr X hx 10 (hb hby own_d19_9) rfl ?_
  rw [show ((16 : Int32) >>> ((0 : Int32) &&& 31)) = (16 : Int32) from by decide]
  refine gistoreN X hx #[.val (.ref sb), .val (.int 6), .val (.int 16)] 11 (hb hby own_d19_10) rfl rfl ?_
  refine giloadN (v := (6 : Int32)) X hx 12 (hb hby own_d19_11) rfl rfl ?_
  refine giloadN (v := (16 : Int32)) X hx 13 (hb hby own_d19_12) rfl rfl ?_
  refine gisub X hx 14 (hb hby own_d19_13) rfl ?_
  rw [show ((6 : Int32) - (16 : Int32)) = (-10 : Int32) from by decide]
  refine gifYes X hx 38 (hb hby own_d19_14) (by decide) (by decide) (by decide) ?_
  exact gRetP0 X hx hlk hret (hb hby own_d19_38) eT (by decide) (by decide) ⟨rfl, N, rfl⟩
set_option maxRecDepth 65536 in
set_option maxHeartbeats 40000000 in
theorem rm21 (l : Launch) (Z : State) (a0 : Array Value) (hw : HW_ a0 Z) (sb : Addr) (x : Addr) (G1 : Int32) (h0 : Heap) (n0 : Nat) (Z0 : n0 ≤ h0.size) (P0_Old : Old Z n0 h0) (P1_Exa : Exa Z h0 x "java/lang/String") (P2_Fld : Fld Z h0 sb "java/lang/AbstractStringBuilder" "coder" "B" (.int 0)) (P3_Fld : Fld Z h0 x "java/lang/String" "coder" "B" (.int 0)) (O2 : Sta Z Z.heap "java/lang/String" "COMPACT_STRINGS" "Z" (.int G1)) (P5 : ¬ G1 = (0 : Int32)) :
    CtP l (⟨"java/lang/AbstractStringBuilder", "inflateIfNeededFor", "(Ljava/lang/String;)V"⟩ : MethodName) jdk_68_method_71_code 2 none [] ({ frames := 1, cells := 0, slots := 0, locals := 13 } : Room) Z #[(.ref sb), (.ref x)] h0 (fun v h L => v = none ∧ Fr n0 L ∧ h = h0) := by
  refine CtP.walk (Ls := #[.val (.ref sb), .val (.ref x)]) (plainFor_of_name own_pn0) (fun m => by first | (simp [entryFrame, mkF, argsToLocals, Value.category]; done) | rfl) ?_
  intro p e s m below meth cc_ T hx hby hml hown hnm hret hlk hZ X eT
  have N := Fr.nil n0
  have sz_h : h0.size ≤ h0.size := Nat.le_refl _
  refine ggetS X hx hZ (host := "") hown (Or.inl (own_w78 hw)) Via.refl eT (O2.ext P0_Old.2) 3 (hb hby own_d21_0) rfl ?_
  clear X eT; clear T; intro T X eT
  refine gifNo X hx 6 (hb hby own_d21_3) rfl ((if0 _ _).trans (feq P5).1) ?_
  refine galoadN (v := (.ref sb)) X hx 7 (hb hby own_d21_6) rfl rfl rfl ?_
  refine ggetF X hx hZ (host := "") hown (Or.inl (own_w81 hw)) Via.refl eT P2_Fld 10 (hb hby own_d21_7) rfl ?_
  clear X eT; clear T; intro T X eT
  refine galoadN (v := (.ref x)) X hx 11 (hb hby own_d21_10) rfl rfl rfl ?_
  refine gvirtual (y := (⟨"java/lang/String", "coder", "()B"⟩ : MethodName)) (z := (⟨"java/lang/String", "coder", "()B"⟩ : MethodName)) (a := x) (argsL := []) (st := [(.int 0)]) X hx hZ hown (own_w121 hw) (own_w100 hw) (notFace_of_selects (args := #[]) (mvT hZ (own_w102 hw))) (own_w102 hw) (own_w101 hw) (by decide) P1_Exa (payP (W := 1) (rm18 l Z a0 hw (x) (G1) h0 n0 (Nat.le_trans Z0 sz_h) P0_Old P3_Fld (O2) (P5)) hZ (own_w103 hw) (own_w2 hw) (by decide) (by decide)) eT (by rw [hml]; rfl) (lenOf own_pd1 rfl) rfl (Nat.le_of_eq rfl) 0 0 rfl rfl (by decide) (by decide) 14 (hb hby own_d21_11) rfl ?_
  clear X eT; clear T; intro v T h1 L2 Lc X eT hL hQ2
  obtain ⟨rfl, Nq, hh⟩ := hQ2
  replace N : Fr n0 L2 := by rw [hL]; exact Fr.app N Nq
  clear Nq hL
  replace hh := hh.symm; subst hh
  show Go p e below _ T (mkF m 14 #[.val (.ref sb), .val (.ref x)] [(.int 0), (.int 0)])
  refine gicmpYes X hx 21 (hb hby own_d21_14) (by decide) (by decide) (by decide) ?_
  exact gRetP0 X hx hlk hret (hb hby own_d21_21) eT (by decide) (by decide) ⟨rfl, N, rfl⟩
set_option maxRecDepth 65536 in
set_option maxHeartbeats 40000000 in
theorem rmGB0_6_16 (l : Launch) (Z : State) (a0 : Array Value) (hw : HW_ a0 Z) (x : Addr) (t : Addr) (va : Addr) (kt : ClassId) (kv : ClassId) (G1 : Int32) (cx0 : Int32) (cx1 : Int32) (cx2 : Int32) (cx3 : Int32) (cx4 : Int32) (cx5 : Int32) (h0 : Heap) (n0 : Nat) (Z0 : n0 ≤ h0.size) (ge_va : n0 ≤ va) (P0_Old : Old Z n0 h0) (P1_Exa : Exa Z h0 x "java/lang/String") (P2_Fld : Fld Z h0 x "java/lang/String" "coder" "B" (.int 0)) (P3_Fld : Fld Z h0 x "java/lang/String" "value" "[B" (.ref t)) (P4_Arv : Arv Z h0 t kt .byte (6 : Int32) [(.int cx0), (.int cx1), (.int cx2), (.int cx3), (.int cx4), (.int cx5)] (.int 0)) (P5_Arv : Arv Z h0 va kv .byte (16 : Int32) [(.int 0), (.int 0), (.int 0), (.int 0), (.int 0), (.int 0), (.int 0), (.int 0), (.int 0), (.int 0), (.int 0), (.int 0), (.int 0), (.int 0), (.int 0), (.int 0)] (.int 0)) (O2 : Sta Z Z.heap "java/lang/String" "COMPACT_STRINGS" "Z" (.int G1)) (P5 : ¬ G1 = (0 : Int32)) (ntv : t ≠ va) :
    CtP l (⟨"java/lang/String", "getBytes", "([BIB)V"⟩ : MethodName) jdk_42_method_147_code 4 none [] ({ frames := 1, cells := 0, slots := 0, locals := 18 } : Room) Z #[(.ref x), (.ref va), (.int 0), (.int 0)] h0 (fun v h L => v = none ∧ Fr n0 L ∧ Keep h0 h [va] ∧ Arv Z h va kv .byte (16 : Int32) [(.int cx0), (.int cx1), (.int cx2), (.int cx3), (.int cx4), (.int cx5), (.int 0), (.int 0), (.int 0), (.int 0), (.int 0), (.int 0), (.int 0), (.int 0), (.int 0), (.int 0)] (.int 0)) := by
  refine CtP.walk (Ls := #[.val (.ref x), .val (.ref va), .val (.int 0), .val (.int 0)]) own_pn4 (fun m => by first | (simp [entryFrame, mkF, argsToLocals, Value.category]; done) | rfl) ?_
  intro p e s m below meth cc_ T hx hby hml hown hnm hret hlk hZ X eT
  have N := Fr.nil n0
  have K0 := Keep.refl h0 [va]
  have sz_h : h0.size ≤ h0.size := Nat.le_refl _
  refine galoadN (v := (.ref x)) X hx 1 (hb hby own_d22_0) rfl rfl rfl ?_
  refine gvirtual (y := (⟨"java/lang/String", "coder", "()B"⟩ : MethodName)) (z := (⟨"java/lang/String", "coder", "()B"⟩ : MethodName)) (a := x) (argsL := []) (st := []) X hx hZ hown (own_w99 hw) (own_w100 hw) (notFace_of_selects (args := #[]) (mvT hZ (own_w102 hw))) (own_w102 hw) (own_w101 hw) (by decide) P1_Exa (payP (W := 0) (rm18 l Z a0 hw (x) (G1) h0 n0 (Nat.le_trans Z0 sz_h) P0_Old P2_Fld (O2) (P5)) hZ (own_w103 hw) (own_w2 hw) (by decide) (by decide)) eT (by rw [hml]; rfl) (lenOf own_pd1 rfl) rfl (Nat.le_of_eq rfl) 0 0 rfl rfl (by decide) (by decide) 4 (hb hby own_d22_1) rfl ?_
  clear X eT; clear T; intro v T h1 L2 Lc X eT hL hQ2
  obtain ⟨rfl, Nq, hh⟩ := hQ2
  replace N : Fr n0 L2 := by rw [hL]; exact Fr.app N Nq
  clear Nq hL
  replace hh := hh.symm; subst hh
  show Go p e below _ T (mkF m 4 #[.val (.ref x), .val (.ref va), .val (.int 0), .val (.int 0)] [(.int 0)])
  refine giloadN (v := (0 : Int32)) X hx 5 (hb hby own_d22_4) rfl rfl ?_
  refine gicmpNo X hx 8 (hb hby own_d22_5) rfl (by decide) ?_
  refine galoadN (v := (.ref x)) X hx 9 (hb hby own_d22_8) rfl rfl rfl ?_
  refine ggetF X hx hZ (host := "") hown (Or.inl (own_w28 hw)) Via.refl eT P3_Fld 12 (hb hby own_d22_9) rfl ?_
  clear X eT; clear T; intro T X eT
  refine giconst X hx (0 : Int32) 13 (hb hby own_d22_12) rfl rfl ?_
  refine galoadN (v := (.ref va)) X hx 14 (hb hby own_d22_13) rfl rfl rfl ?_
  refine giloadN (v := (0 : Int32)) X hx 15 (hb hby own_d22_14) rfl rfl ?_
  refine giloadN (v := (0 : Int32)) X hx 16 (hb hby own_d22_15) rfl rfl ?_
  refine gishl X hx 17 (hb hby own_d22_16) rfl ?_
  rw [show ((0 : Int32) <<< ((0 : Int32) &&& 31)) = (0 : Int32) from by decide]
  refine galoadN (v := (.ref x)) X hx 18 (hb hby own_d22_17) rfl rfl rfl ?_
  refine ggetF X hx hZ (host := "") hown (Or.inl (own_w28 hw)) Via.refl eT P3_Fld 21 (hb hby own_d22_18) rfl ?_
  clear X eT; clear T; intro T X eT
  refine garrlen X hx hZ eT P4_Arv 22 (hb hby own_d22_21) rfl ?_
  refine gcpA (st := []) X hx hZ hown (own_w127 hw) (own_w130 hw) (own_w128 hw) (own_w129 hw) eT (by rw [hml]; rfl) P4_Arv P5_Arv rfl 0 0 6 rfl rfl rfl (by decide) (by decide) (by decide) (by decide) (by decide) (Nat.le_of_ble_eq_true rfl) ([(.int cx0), (.int cx1), (.int cx2), (.int cx3), (.int cx4), (.int cx5), (.int 0), (.int 0), (.int 0), (.int 0), (.int 0), (.int 0), (.int 0), (.int 0), (.int 0), (.int 0)] : List Value) rfl N ge_va (by decide) 0 (Nat.le_of_eq rfl) (by decide) 25 (hb hby own_d22_22) rfl ?_
  clear X eT N; clear T; intro T h5 L X eT N K6 V7
  have ne_x_va : x ≠ va := Exa.neArv P1_Exa P5_Arv (own_w1 hw)
  replace P0_Old := P0_Old.keep K6 (allS ge_va all0)
  replace P1_Exa := P1_Exa.keep K6
  replace P2_Fld := P2_Fld.keep K6 (ninS ne_x_va nin0)
  replace P3_Fld := P3_Fld.keep K6 (ninS ne_x_va nin0)
  replace P4_Arv := P4_Arv.keep K6 (ninS ntv nin0)
  replace K0 := K0.trans K6 (allS (Or.inl (List.mem_of_getElem? (i := 0) rfl)) all0)
  replace sz_h : h0.size ≤ h5.size := Nat.le_trans sz_h K6.1
  show Go p e below _ T (mkF m 25 #[.val (.ref x), .val (.ref va), .val (.int 0), .val (.int 0)] [])
  refine ggoto X hx 43 (hb hby own_d22_25) (by decide) (by decide) ?_
  exact gRetP0 X hx hlk hret (hb hby own_d22_43) eT (by decide) (by decide) ⟨rfl, N, K0, V7⟩
set_option maxRecDepth 65536 in
set_option maxHeartbeats 40000000 in
theorem rmPA0_6_16 (l : Launch) (Z : State) (a0 : Array Value) (hw : HW_ a0 Z) (sb : Addr) (x : Addr) (t : Addr) (va : Addr) (kt : ClassId) (kv : ClassId) (G1 : Int32) (cx0 : Int32) (cx1 : Int32) (cx2 : Int32) (cx3 : Int32) (cx4 : Int32) (cx5 : Int32) (h0 : Heap) (n0 : Nat) (Z0 : n0 ≤ h0.size) (ge_va : n0 ≤ va) (P0_Old : Old Z n0 h0) (P1_Exa : Exa Z h0 sb "java/lang/StringBuilder") (P2_Fld : Fld Z h0 sb "java/lang/AbstractStringBuilder" "value" "[B" (.ref va)) (P3_Fld : Fld Z h0 sb "java/lang/AbstractStringBuilder" "coder" "B" (.int 0)) (P4_Exa : Exa Z h0 x "java/lang/String") (P5_Fld : Fld Z h0 x "java/lang/String" "coder" "B" (.int 0)) (P6_Fld : Fld Z h0 x "java/lang/String" "value" "[B" (.ref t)) (P7_Arv : Arv Z h0 t kt .byte (6 : Int32) [(.int cx0), (.int cx1), (.int cx2), (.int cx3), (.int cx4), (.int cx5)] (.int 0)) (P8_Arv : Arv Z h0 va kv .byte (16 : Int32) [(.int 0), (.int 0), (.int 0), (.int 0), (.int 0), (.int 0), (.int 0), (.int 0), (.int 0), (.int 0), (.int 0), (.int 0), (.int 0), (.int 0), (.int 0), (.int 0)] (.int 0)) (O2 : Sta Z Z.heap "java/lang/String" "COMPACT_STRINGS" "Z" (.int G1)) (P5 : ¬ G1 = (0 : Int32)) (ntv : t ≠ va) :
    CtP l (⟨"java/lang/AbstractStringBuilder", "putStringAt", "(ILjava/lang/String;)V"⟩ : MethodName) jdk_68_method_73_code 3 none [] ({ frames := 2, cells := 0, slots := 0, locals := 33 } : Room) Z #[(.ref sb), (.int 0), (.ref x)] h0 (fun v h L => v = none ∧ Fr n0 L ∧ Keep h0 h [va] ∧ Arv Z h va kv .byte (16 : Int32) [(.int cx0), (.int cx1), (.int cx2), (.int cx3), (.int cx4), (.int cx5), (.int 0), (.int 0), (.int 0), (.int 0), (.int 0), (.int 0), (.int 0), (.int 0), (.int 0), (.int 0)] (.int 0)) := by
  refine CtP.walk (Ls := #[.val (.ref sb), .val (.int 0), .val (.ref x)]) (plainFor_of_name own_pn0) (fun m => by first | (simp [entryFrame, mkF, argsToLocals, Value.category]; done) | rfl) ?_
  intro p e s m below meth cc_ T hx hby hml hown hnm hret hlk hZ X eT
  have N := Fr.nil n0
  have K0 := Keep.refl h0 [va]
  have sz_h : h0.size ≤ h0.size := Nat.le_refl _
  refine galoadN (v := (.ref sb)) X hx 1 (hb hby own_d20_0) rfl rfl rfl ?_
  refine galoadN (v := (.ref x)) X hx 2 (hb hby own_d20_1) rfl rfl rfl ?_
  refine gpriv (y := (⟨"java/lang/AbstractStringBuilder", "inflateIfNeededFor", "(Ljava/lang/String;)V"⟩ : MethodName)) (a := sb) (argsL := [(.ref x)]) (st := []) X hx hZ hown (own_w116 hw) (own_w117 hw) (nf_sel (args := #[]) (mvT hZ (own_w109 hw)) rfl) (own_w118 hw) (own_w120 hw) (by decide) P1_Exa (payP (W := 0) (rm21 l Z a0 hw (sb) (x) (G1) h0 n0 (Nat.le_trans Z0 sz_h) P0_Old P4_Exa P3_Fld P5_Fld (O2) (P5)) hZ (own_w120 hw) (own_w75 hw) (by decide) (by decide)) eT (by rw [hml]; rfl) (lenOf own_pd2 rfl) rfl (Nat.le_of_eq rfl) 0 0 rfl rfl (by decide) (by decide) 5 (hb hby own_d20_2) rfl ?_
  clear X eT; clear T; intro v T h1 L2 Lc X eT hL hQ2
  obtain ⟨rfl, Nq, hh⟩ := hQ2
  replace N : Fr n0 L2 := by rw [hL]; exact Fr.app N Nq
  clear Nq hL
  replace hh := hh.symm; subst hh
  show Go p e below _ T (mkF m 5 #[.val (.ref sb), .val (.int 0), .val (.ref x)] [])
  refine galoadN (v := (.ref x)) X hx 6 (hb hby own_d20_5) rfl rfl rfl ?_
  refine galoadN (v := (.ref sb)) X hx 7 (hb hby own_d20_6) rfl rfl rfl ?_
  refine ggetF X hx hZ (host := "") hown (Or.inl (own_w79 hw)) Via.refl eT P2_Fld 10 (hb hby own_d20_7) rfl ?_
  clear X eT; clear T; intro T X eT
  refine giloadN (v := (0 : Int32)) X hx 11 (hb hby own_d20_10) rfl rfl ?_
  refine galoadN (v := (.ref sb)) X hx 12 (hb hby own_d20_11) rfl rfl rfl ?_
  refine ggetF X hx hZ (host := "") hown (Or.inl (own_w81 hw)) Via.refl eT P3_Fld 15 (hb hby own_d20_12) rfl ?_
  clear X eT; clear T; intro T X eT
  refine gvirtual (y := (⟨"java/lang/String", "getBytes", "([BIB)V"⟩ : MethodName)) (z := (⟨"java/lang/String", "getBytes", "([BIB)V"⟩ : MethodName)) (a := x) (argsL := [(.ref va), (.int 0), (.int 0)]) (st := []) X hx hZ hown (own_w122 hw) (own_w123 hw) (notFace_of_selects (args := #[]) (mvT hZ (own_w125 hw))) (own_w125 hw) (own_w124 hw) (by decide) P4_Exa (payP (W := 0) (rmGB0_6_16 l Z a0 hw (x) (t) (va) (kt) (kv) (G1) (cx0) (cx1) (cx2) (cx3) (cx4) (cx5) h0 n0 (Nat.le_trans Z0 sz_h) ge_va P0_Old P4_Exa P5_Fld P6_Fld P7_Arv P8_Arv (O2) (P5) (ntv)) hZ (own_w126 hw) (own_w2 hw) (by decide) (by decide)) eT (by rw [hml]; rfl) (lenOf own_pd3 rfl) rfl (Nat.le_of_eq rfl) 0 0 rfl rfl (by decide) (by decide) 18 (hb hby own_d20_15) rfl ?_
  clear X eT; clear T; intro v T h5 L2 Lc X eT hL hQ6
  obtain ⟨rfl, Nq, K7, G9⟩ := hQ6
  replace N : Fr n0 L2 := by rw [hL]; exact Fr.app N Nq
  clear Nq hL
  have ne_sb_va : sb ≠ va := Exa.neArv P1_Exa P8_Arv (own_w66 hw)
  have ne_x_va : x ≠ va := Exa.neArv P4_Exa P8_Arv (own_w1 hw)
  replace P0_Old := P0_Old.keep K7 (allS ge_va all0)
  replace P1_Exa := P1_Exa.keep K7
  replace P2_Fld := P2_Fld.keep K7 (ninS ne_sb_va nin0)
  replace P3_Fld := P3_Fld.keep K7 (ninS ne_sb_va nin0)
  replace P4_Exa := P4_Exa.keep K7
  replace P5_Fld := P5_Fld.keep K7 (ninS ne_x_va nin0)
  replace P6_Fld := P6_Fld.keep K7 (ninS ne_x_va nin0)
  replace P7_Arv := P7_Arv.keep K7 (ninS ntv nin0)
  replace K0 := K0.trans K7 (allS (Or.inl (List.mem_of_getElem? (i := 0) rfl)) all0)
  replace sz_h : h0.size ≤ h5.size := Nat.le_trans sz_h K7.1
  show Go p e below _ T (mkF m 18 #[.val (.ref sb), .val (.int 0), .val (.ref x)] [])
  exact gRetP0 X hx hlk hret (hb hby own_d20_18) eT (by decide) (by decide) ⟨rfl, N, K0, G9⟩
set_option maxRecDepth 65536 in
set_option maxHeartbeats 40000000 in
theorem rmAA0_6_16 (l : Launch) (Z : State) (a0 : Array Value) (hw : HW_ a0 Z) (sb : Addr) (x : Addr) (t : Addr) (va : Addr) (kt : ClassId) (kv : ClassId) (G1 : Int32) (cx0 : Int32) (cx1 : Int32) (cx2 : Int32) (cx3 : Int32) (cx4 : Int32) (cx5 : Int32) (h0 : Heap) (n0 : Nat) (Z0 : n0 ≤ h0.size) (ge_sb : n0 ≤ sb) (ge_va : n0 ≤ va) (P0_Old : Old Z n0 h0) (P1_Exa : Exa Z h0 sb "java/lang/StringBuilder") (P2_Fld : Fld Z h0 sb "java/lang/AbstractStringBuilder" "value" "[B" (.ref va)) (P3_Fld : Fld Z h0 sb "java/lang/AbstractStringBuilder" "coder" "B" (.int 0)) (P4_Fld : Fld Z h0 sb "java/lang/AbstractStringBuilder" "count" "I" (.int 0)) (P5_Exa : Exa Z h0 x "java/lang/String") (P6_Fld : Fld Z h0 x "java/lang/String" "coder" "B" (.int 0)) (P7_Fld : Fld Z h0 x "java/lang/String" "value" "[B" (.ref t)) (P8_Arv : Arv Z h0 t kt .byte (6 : Int32) [(.int cx0), (.int cx1), (.int cx2), (.int cx3), (.int cx4), (.int cx5)] (.int 0)) (P9_Arv : Arv Z h0 va kv .byte (16 : Int32) [(.int 0), (.int 0), (.int 0), (.int 0), (.int 0), (.int 0), (.int 0), (.int 0), (.int 0), (.int 0), (.int 0), (.int 0), (.int 0), (.int 0), (.int 0), (.int 0)] (.int 0)) (O2 : Sta Z Z.heap "java/lang/String" "COMPACT_STRINGS" "Z" (.int G1)) (P5 : ¬ G1 = (0 : Int32)) (ntv : t ≠ va) :
    CtP l (⟨"java/lang/AbstractStringBuilder", "append", "(Ljava/lang/String;)Ljava/lang/AbstractStringBuilder;"⟩ : MethodName) jdk_68_method_22_code 3 (some (.object "java/lang/AbstractStringBuilder")) [] ({ frames := 3, cells := 0, slots := 0, locals := 47 } : Room) Z #[(.ref sb), (.ref x)] h0 (fun v h L => v = some (.ref sb) ∧ Fr n0 L ∧ Keep h0 h [sb, va] ∧ Fld Z h sb "java/lang/AbstractStringBuilder" "value" "[B" (.ref va) ∧ Fld Z h sb "java/lang/AbstractStringBuilder" "coder" "B" (.int 0) ∧ Fld Z h sb "java/lang/AbstractStringBuilder" "count" "I" (.int 6) ∧ Arv Z h va kv .byte (16 : Int32) [(.int cx0), (.int cx1), (.int cx2), (.int cx3), (.int cx4), (.int cx5), (.int 0), (.int 0), (.int 0), (.int 0), (.int 0), (.int 0), (.int 0), (.int 0), (.int 0), (.int 0)] (.int 0)) := by
  refine CtP.walk (Ls := #[.val (.ref sb), .val (.ref x), .unset]) (plainFor_of_name own_pn0) (fun m => by first | (simp [entryFrame, mkF, argsToLocals, Value.category]; done) | rfl) ?_
  intro p e s m below meth cc_ T hx hby hml hown hnm hret hlk hZ X eT
  have N := Fr.nil n0
  have K0 := Keep.refl h0 [sb, va]
  have sz_h : h0.size ≤ h0.size := Nat.le_refl _
  refine galoadN (v := (.ref x)) X hx 1 (hb hby own_d16_0) rfl rfl rfl ?_
  refine gifnonnullYes X hx 9 (hb hby own_d16_1) (by decide) (by decide) ?_
  refine galoadN (v := (.ref x)) X hx 10 (hb hby own_d16_9) rfl rfl rfl ?_
  refine gvirtual (y := (⟨"java/lang/String", "length", "()I"⟩ : MethodName)) (z := (⟨"java/lang/String", "length", "()I"⟩ : MethodName)) (a := x) (argsL := []) (st := []) X hx hZ hown (own_w94 hw) (own_w95 hw) (notFace_of_selects (args := #[]) (mvT hZ (own_w97 hw))) (own_w97 hw) (own_w96 hw) (by decide) P5_Exa (payP (W := 0) (rmSL6 l Z a0 hw (x) (t) (kt) ([(.int cx0), (.int cx1), (.int cx2), (.int cx3), (.int cx4), (.int cx5)]) (G1) h0 n0 (Nat.le_trans Z0 sz_h) P0_Old P5_Exa P6_Fld P7_Fld P8_Arv (O2) (P5)) hZ (own_w98 hw) (own_w2 hw) (by decide) (by decide)) eT (by rw [hml]; rfl) (lenOf own_pd4 rfl) rfl (Nat.le_of_eq rfl) 0 0 rfl rfl (by decide) (by decide) 13 (hb hby own_d16_10) rfl ?_
  clear X eT; clear T; intro v T h1 L2 Lc X eT hL hQ2
  obtain ⟨rfl, Nq, hh⟩ := hQ2
  replace N : Fr n0 L2 := by rw [hL]; exact Fr.app N Nq
  clear Nq hL
  replace hh := hh.symm; subst hh
  show Go p e below _ T (mkF m 13 #[.val (.ref sb), .val (.ref x), .unset] [(.int 6)])
  refine gistoreN X hx #[.val (.ref sb), .val (.ref x), .val (.int 6)] 14 (hb hby own_d16_13) rfl rfl ?_
  refine galoadN (v := (.ref sb)) X hx 15 (hb hby own_d16_14) rfl rfl rfl ?_
  refine galoadN (v := (.ref sb)) X hx 16 (hb hby own_d16_15) rfl rfl rfl ?_
  refine ggetF X hx hZ (host := "") hown (Or.inl (own_w104 hw)) Via.refl eT P4_Fld 19 (hb hby own_d16_16) rfl ?_
  clear X eT; clear T; intro T X eT
  refine giloadN (v := (6 : Int32)) X hx 20 (hb hby own_d16_19) rfl rfl ?_
  refine giadd X hx 21 (hb hby own_d16_20) rfl ?_
  rw [show ((0 : Int32) + (6 : Int32)) = (6 : Int32) from by decide]
  refine gpriv (y := (⟨"java/lang/AbstractStringBuilder", "ensureCapacityInternal", "(I)V"⟩ : MethodName)) (a := sb) (argsL := [(.int 6)]) (st := []) X hx hZ hown (own_w106 hw) (own_w107 hw) (nf_sel (args := #[]) (mvT hZ (own_w109 hw)) rfl) (own_w108 hw) (own_w110 hw) (by decide) P1_Exa (payP (W := 0) (rmEC6_16 l Z a0 hw (sb) (va) (kv) ([(.int 0), (.int 0), (.int 0), (.int 0), (.int 0), (.int 0), (.int 0), (.int 0), (.int 0), (.int 0), (.int 0), (.int 0), (.int 0), (.int 0), (.int 0), (.int 0)]) h0 n0 (Nat.le_trans Z0 sz_h) P2_Fld P3_Fld P9_Arv) hZ (own_w110 hw) (own_w75 hw) (by decide) (by decide)) eT (by rw [hml]; rfl) (lenOf own_pd0 rfl) rfl (Nat.le_of_eq rfl) 0 0 rfl rfl (by decide) (by decide) 24 (hb hby own_d16_21) rfl ?_
  clear X eT; clear T; intro v T h5 L2 Lc X eT hL hQ6
  obtain ⟨rfl, Nq, hh⟩ := hQ6
  replace N : Fr n0 L2 := by rw [hL]; exact Fr.app N Nq
  clear Nq hL
  replace hh := hh.symm; subst hh
  show Go p e below _ T (mkF m 24 #[.val (.ref sb), .val (.ref x), .val (.int 6)] [])
  refine galoadN (v := (.ref sb)) X hx 25 (hb hby own_d16_24) rfl rfl rfl ?_
  refine galoadN (v := (.ref sb)) X hx 26 (hb hby own_d16_25) rfl rfl rfl ?_
  refine ggetF X hx hZ (host := "") hown (Or.inl (own_w104 hw)) Via.refl eT P4_Fld 29 (hb hby own_d16_26) rfl ?_
  clear X eT; clear T; intro T X eT
  refine galoadN (v := (.ref x)) X hx 30 (hb hby own_d16_29) rfl rfl rfl ?_
  refine gpriv (y := (⟨"java/lang/AbstractStringBuilder", "putStringAt", "(ILjava/lang/String;)V"⟩ : MethodName)) (a := sb) (argsL := [(.int 0), (.ref x)]) (st := []) X hx hZ hown (own_w111 hw) (own_w112 hw) (nf_sel (args := #[]) (mvT hZ (own_w109 hw)) rfl) (own_w113 hw) (own_w115 hw) (by decide) P1_Exa (payP (W := 0) (rmPA0_6_16 l Z a0 hw (sb) (x) (t) (va) (kt) (kv) (G1) (cx0) (cx1) (cx2) (cx3) (cx4) (cx5) h0 n0 (Nat.le_trans Z0 sz_h) ge_va P0_Old P1_Exa P2_Fld P3_Fld P5_Exa P6_Fld P7_Fld P8_Arv P9_Arv (O2) (P5) (ntv)) hZ (own_w115 hw) (own_w75 hw) (by decide) (by decide)) eT (by rw [hml]; rfl) (lenOf own_pd5 rfl) rfl (Nat.le_of_eq rfl) 0 0 rfl rfl (by decide) (by decide) 33 (hb hby own_d16_30) rfl ?_
  clear X eT; clear T; intro v T h9 L2 Lc X eT hL hQ10
  obtain ⟨rfl, Nq, K11, G13⟩ := hQ10
  replace N : Fr n0 L2 := by rw [hL]; exact Fr.app N Nq
  clear Nq hL
  have ne_sb_va : sb ≠ va := Exa.neArv P1_Exa P9_Arv (own_w66 hw)
  have ne_x_va : x ≠ va := Exa.neArv P5_Exa P9_Arv (own_w1 hw)
  replace P0_Old := P0_Old.keep K11 (allS ge_va all0)
  replace P1_Exa := P1_Exa.keep K11
  replace P2_Fld := P2_Fld.keep K11 (ninS ne_sb_va nin0)
  replace P3_Fld := P3_Fld.keep K11 (ninS ne_sb_va nin0)
  replace P4_Fld := P4_Fld.keep K11 (ninS ne_sb_va nin0)
  replace P5_Exa := P5_Exa.keep K11
  replace P6_Fld := P6_Fld.keep K11 (ninS ne_x_va nin0)
  replace P7_Fld := P7_Fld.keep K11 (ninS ne_x_va nin0)
  replace P8_Arv := P8_Arv.keep K11 (ninS ntv nin0)
  replace K0 := K0.trans K11 (allS (Or.inl (List.mem_of_getElem? (i := 1) rfl)) all0)
  replace sz_h : h0.size ≤ h9.size := Nat.le_trans sz_h K11.1
  show Go p e below _ T (mkF m 33 #[.val (.ref sb), .val (.ref x), .val (.int 6)] [])
  refine galoadN (v := (.ref sb)) X hx 34 (hb hby own_d16_33) rfl rfl rfl ?_
  refine gdup X hx 35 (hb hby own_d16_34) rfl rfl ?_
  refine ggetF X hx hZ (host := "") hown (Or.inl (own_w104 hw)) Via.refl eT P4_Fld 38 (hb hby own_d16_35) rfl ?_
  clear X eT; clear T; intro T X eT
  refine giloadN (v := (6 : Int32)) X hx 39 (hb hby own_d16_38) rfl rfl ?_
  refine giadd X hx 40 (hb hby own_d16_39) rfl ?_
  rw [show ((0 : Int32) + (6 : Int32)) = (6 : Int32) from by decide]
  refine gputF X hx hZ (host := "") hown (Or.inl (own_w104 hw)) Via.refl eT P4_Fld P1_Exa (Or.inl (own_w105 hw)) (own_w66 hw) (ty := .int) own_pf2 rfl rfl N ge_sb 43 (hb hby own_d16_40) rfl ?_
  clear X eT N; clear T; intro T h14 L X eT N W15
  have ne_x_sb : x ≠ sb := ne_exa P5_Exa P1_Exa (by decide)
  have ne_t_sb : t ≠ sb := Ne.symm (Exa.neArv P1_Exa P8_Arv (own_w66 hw))
  have ne_va_sb : va ≠ sb := Ne.symm (Exa.neArv P1_Exa G13 (own_w66 hw))
  replace P0_Old := P0_Old.wr W15 ge_sb
  replace P1_Exa := P1_Exa.wr W15
  replace P2_Fld := P2_Fld.other W15 (Or.inr (slot_ne (Or.inl (own_w80 hw)) (Or.inl (own_w105 hw)) (by decide) own_pf0 own_pf2))
  replace P3_Fld := P3_Fld.other W15 (Or.inr (slot_ne (Or.inl (own_w82 hw)) (Or.inl (own_w105 hw)) (by decide) own_pf1 own_pf2))
  replace P4_Fld := P4_Fld.same W15
  replace P5_Exa := P5_Exa.wr W15
  replace P6_Fld := P6_Fld.other W15 (Or.inl ne_x_sb)
  replace P7_Fld := P7_Fld.other W15 (Or.inl ne_x_sb)
  replace P8_Arv := P8_Arv.other W15 ne_t_sb
  replace G13 := G13.other W15 ne_va_sb
  replace K0 := K0.wr W15 (Or.inl (List.mem_of_getElem? (i := 0) rfl))
  replace sz_h : h0.size ≤ h14.size := by rw [Wr.size W15]; exact sz_h
  refine galoadN (v := (.ref sb)) X hx 44 (hb hby own_d16_43) rfl rfl rfl ?_
  exact gRetP X hx hlk hret rfl (Or.inr (Or.inr (Or.inr (Or.inr ⟨rfl, rfl, rfl⟩)))) (hb hby own_d16_44) eT (by decide) (by decide) ⟨rfl, N, K0, P2_Fld, P3_Fld, P4_Fld, G13⟩
set_option maxRecDepth 65536 in
set_option maxHeartbeats 40000000 in
theorem rmSA0_6_16 (l : Launch) (Z : State) (a0 : Array Value) (hw : HW_ a0 Z) (sb : Addr) (x : Addr) (t : Addr) (va : Addr) (kt : ClassId) (kv : ClassId) (G1 : Int32) (cx0 : Int32) (cx1 : Int32) (cx2 : Int32) (cx3 : Int32) (cx4 : Int32) (cx5 : Int32) (h0 : Heap) (n0 : Nat) (Z0 : n0 ≤ h0.size) (ge_sb : n0 ≤ sb) (ge_va : n0 ≤ va) (P0_Old : Old Z n0 h0) (P1_Exa : Exa Z h0 sb "java/lang/StringBuilder") (P2_Fld : Fld Z h0 sb "java/lang/AbstractStringBuilder" "value" "[B" (.ref va)) (P3_Fld : Fld Z h0 sb "java/lang/AbstractStringBuilder" "coder" "B" (.int 0)) (P4_Fld : Fld Z h0 sb "java/lang/AbstractStringBuilder" "count" "I" (.int 0)) (P5_Exa : Exa Z h0 x "java/lang/String") (P6_Fld : Fld Z h0 x "java/lang/String" "coder" "B" (.int 0)) (P7_Fld : Fld Z h0 x "java/lang/String" "value" "[B" (.ref t)) (P8_Arv : Arv Z h0 t kt .byte (6 : Int32) [(.int cx0), (.int cx1), (.int cx2), (.int cx3), (.int cx4), (.int cx5)] (.int 0)) (P9_Arv : Arv Z h0 va kv .byte (16 : Int32) [(.int 0), (.int 0), (.int 0), (.int 0), (.int 0), (.int 0), (.int 0), (.int 0), (.int 0), (.int 0), (.int 0), (.int 0), (.int 0), (.int 0), (.int 0), (.int 0)] (.int 0)) (O2 : Sta Z Z.heap "java/lang/String" "COMPACT_STRINGS" "Z" (.int G1)) (P5 : ¬ G1 = (0 : Int32)) (ntv : t ≠ va) :
    CtP l (⟨"java/lang/StringBuilder", "append", "(Ljava/lang/String;)Ljava/lang/StringBuilder;"⟩ : MethodName) jdk_67_method_7_code 2 (some (.object "java/lang/StringBuilder")) [] ({ frames := 4, cells := 0, slots := 0, locals := 61 } : Room) Z #[(.ref sb), (.ref x)] h0 (fun v h L => v = some (.ref sb) ∧ Fr n0 L ∧ Keep h0 h [sb, va] ∧ Fld Z h sb "java/lang/AbstractStringBuilder" "value" "[B" (.ref va) ∧ Fld Z h sb "java/lang/AbstractStringBuilder" "coder" "B" (.int 0) ∧ Fld Z h sb "java/lang/AbstractStringBuilder" "count" "I" (.int 6) ∧ Arv Z h va kv .byte (16 : Int32) [(.int cx0), (.int cx1), (.int cx2), (.int cx3), (.int cx4), (.int cx5), (.int 0), (.int 0), (.int 0), (.int 0), (.int 0), (.int 0), (.int 0), (.int 0), (.int 0), (.int 0)] (.int 0)) := by
  refine CtP.walk (Ls := #[.val (.ref sb), .val (.ref x)]) (plainFor_of_name own_pn1) (fun m => by first | (simp [entryFrame, mkF, argsToLocals, Value.category]; done) | rfl) ?_
  intro p e s m below meth cc_ T hx hby hml hown hnm hret hlk hZ X eT
  have N := Fr.nil n0
  have K0 := Keep.refl h0 [sb, va]
  have sz_h : h0.size ≤ h0.size := Nat.le_refl _
  refine galoadN (v := (.ref sb)) X hx 1 (hb hby own_d15_0) rfl rfl rfl ?_
  refine galoadN (v := (.ref x)) X hx 2 (hb hby own_d15_1) rfl rfl rfl ?_
  refine gsuper (y := (⟨"java/lang/AbstractStringBuilder", "append", "(Ljava/lang/String;)Ljava/lang/AbstractStringBuilder;"⟩ : MethodName)) (a := sb) (argsL := [(.ref x)]) (st := []) X hx hZ hown (own_w89 hw) (sm_sel (own_w90 hw) (own_w109 hw) rfl (by decide)) (own_w90 hw) (own_w91 hw) (by decide) (own_w93 hw) (Ins.self P1_Exa) (payP (W := 0) (rmAA0_6_16 l Z a0 hw (sb) (x) (t) (va) (kt) (kv) (G1) (cx0) (cx1) (cx2) (cx3) (cx4) (cx5) h0 n0 (Nat.le_trans Z0 sz_h) ge_sb ge_va P0_Old P1_Exa P2_Fld P3_Fld P4_Fld P5_Exa P6_Fld P7_Fld P8_Arv P9_Arv (O2) (P5) (ntv)) hZ (own_w93 hw) (own_w75 hw) (by decide) (by decide)) eT (by rw [hml]; rfl) (lenOf own_pd6 rfl) rfl (Nat.le_of_eq rfl) 0 0 rfl rfl (by decide) (by decide) 5 (hb hby own_d15_2) rfl ?_
  clear X eT; clear T; intro v T h1 L2 Lc X eT hL hQ2
  obtain ⟨rfl, Nq, K3, G5, G6, G7, G8⟩ := hQ2
  replace N : Fr n0 L2 := by rw [hL]; exact Fr.app N Nq
  clear Nq hL
  have ne_x_sb : x ≠ sb := ne_exa P5_Exa P1_Exa (by decide)
  have ne_x_va : x ≠ va := Exa.neArv P5_Exa P9_Arv (own_w1 hw)
  have ne_t_sb : t ≠ sb := Ne.symm (Exa.neArv P1_Exa P8_Arv (own_w66 hw))
  replace P0_Old := P0_Old.keep K3 (allS ge_sb (allS ge_va all0))
  replace P1_Exa := P1_Exa.keep K3
  replace P5_Exa := P5_Exa.keep K3
  replace P6_Fld := P6_Fld.keep K3 (ninS ne_x_sb (ninS ne_x_va nin0))
  replace P7_Fld := P7_Fld.keep K3 (ninS ne_x_sb (ninS ne_x_va nin0))
  replace P8_Arv := P8_Arv.keep K3 (ninS ne_t_sb (ninS ntv nin0))
  replace K0 := K0.trans K3 (allS (Or.inl (List.mem_of_getElem? (i := 0) rfl)) (allS (Or.inl (List.mem_of_getElem? (i := 1) rfl)) all0))
  replace sz_h : h0.size ≤ h1.size := Nat.le_trans sz_h K3.1
  show Go p e below _ T (mkF m 5 #[.val (.ref sb), .val (.ref x)] [(.ref sb)])
  refine gpop X hx 6 (hb hby own_d15_5) rfl rfl ?_
  refine galoadN (v := (.ref sb)) X hx 7 (hb hby own_d15_6) rfl rfl rfl ?_
  exact gRetP X hx hlk hret rfl (Or.inr (Or.inr (Or.inr (Or.inr ⟨rfl, rfl, rfl⟩)))) (hb hby own_d15_7) eT (by decide) (by decide) ⟨rfl, N, K0, G5, G6, G7, G8⟩
set_option maxRecDepth 65536 in
set_option maxHeartbeats 40000000 in
theorem rmSL2 (l : Launch) (Z : State) (a0 : Array Value) (hw : HW_ a0 Z) (x : Addr) (t : Addr) (kt : ClassId) (vs0 : List Value) (G1 : Int32) (h0 : Heap) (n0 : Nat) (Z0 : n0 ≤ h0.size) (P0_Old : Old Z n0 h0) (P1_Exa : Exa Z h0 x "java/lang/String") (P2_Fld : Fld Z h0 x "java/lang/String" "coder" "B" (.int 0)) (P3_Fld : Fld Z h0 x "java/lang/String" "value" "[B" (.ref t)) (P4_Arv : Arv Z h0 t kt .byte (2 : Int32) vs0 (.int 0)) (O2 : Sta Z Z.heap "java/lang/String" "COMPACT_STRINGS" "Z" (.int G1)) (P5 : ¬ G1 = (0 : Int32)) :
    CtP l (⟨"java/lang/String", "length", "()I"⟩ : MethodName) jdk_42_method_54_code 1 (some .int) [] ({ frames := 1, cells := 0, slots := 0, locals := 13 } : Room) Z #[(.ref x)] h0 (fun v h L => v = some (.int 2) ∧ Fr n0 L ∧ h = h0) := by
  refine CtP.walk (Ls := #[.val (.ref x)]) own_pn3 (fun m => by first | (simp [entryFrame, mkF, argsToLocals, Value.category]; done) | rfl) ?_
  intro p e s m below meth cc_ T hx hby hml hown hnm hret hlk hZ X eT
  have N := Fr.nil n0
  have sz_h : h0.size ≤ h0.size := Nat.le_refl _
  refine galoadN (v := (.ref x)) X hx 1 (hb hby own_d17_0) rfl rfl rfl ?_
  refine ggetF X hx hZ (host := "") hown (Or.inl (own_w28 hw)) Via.refl eT P3_Fld 4 (hb hby own_d17_1) rfl ?_
  clear X eT; clear T; intro T X eT
  refine garrlen X hx hZ eT P4_Arv 5 (hb hby own_d17_4) rfl ?_
  refine galoadN (v := (.ref x)) X hx 6 (hb hby own_d17_5) rfl rfl rfl ?_
  refine gvirtual (y := (⟨"java/lang/String", "coder", "()B"⟩ : MethodName)) (z := (⟨"java/lang/String", "coder", "()B"⟩ : MethodName)) (a := x) (argsL := []) (st := [(.int 2)]) X hx hZ hown (own_w99 hw) (own_w100 hw) (notFace_of_selects (args := #[]) (mvT hZ (own_w102 hw))) (own_w102 hw) (own_w101 hw) (by decide) P1_Exa (payP (W := 1) (rm18 l Z a0 hw (x) (G1) h0 n0 (Nat.le_trans Z0 sz_h) P0_Old P2_Fld (O2) (P5)) hZ (own_w103 hw) (own_w2 hw) (by decide) (by decide)) eT (by rw [hml]; rfl) (lenOf own_pd1 rfl) rfl (Nat.le_of_eq rfl) 0 0 rfl rfl (by decide) (by decide) 9 (hb hby own_d17_6) rfl ?_
  clear X eT; clear T; intro v T h1 L2 Lc X eT hL hQ2
  obtain ⟨rfl, Nq, hh⟩ := hQ2
  replace N : Fr n0 L2 := by rw [hL]; exact Fr.app N Nq
  clear Nq hL
  replace hh := hh.symm; subst hh
  show Go p e below _ T (mkF m 9 #[.val (.ref x)] [(.int 0), (.int 2)])
  refine gishr X hx 10 (hb hby own_d17_9) rfl ?_
  rw [show ((2 : Int32) >>> ((0 : Int32) &&& 31)) = (2 : Int32) from by decide]
  exact gRetP X hx hlk hret rfl (Or.inl ⟨rfl, by simp, _, rfl⟩) (hb hby own_d17_10) eT (by decide) (by decide) ⟨rfl, N, rfl⟩
set_option maxRecDepth 65536 in
set_option maxHeartbeats 40000000 in
theorem rmEC8_16 (l : Launch) (Z : State) (a0 : Array Value) (hw : HW_ a0 Z) (sb : Addr) (va : Addr) (kv : ClassId) (vs0 : List Value) (h0 : Heap) (n0 : Nat) (Z0 : n0 ≤ h0.size) (P0_Fld : Fld Z h0 sb "java/lang/AbstractStringBuilder" "value" "[B" (.ref va)) (P1_Fld : Fld Z h0 sb "java/lang/AbstractStringBuilder" "coder" "B" (.int 0)) (P2_Arv : Arv Z h0 va kv .byte (16 : Int32) vs0 (.int 0)) :
    CtP l (⟨"java/lang/AbstractStringBuilder", "ensureCapacityInternal", "(I)V"⟩ : MethodName) jdk_68_method_9_code 3 none [] ({ frames := 0, cells := 0, slots := 0, locals := 0 } : Room) Z #[(.ref sb), (.int 8)] h0 (fun v h L => v = none ∧ Fr n0 L ∧ h = h0) := by
  refine CtP.walk (Ls := #[.val (.ref sb), .val (.int 8), .unset]) (plainFor_of_name own_pn0) (fun m => by first | (simp [entryFrame, mkF, argsToLocals, Value.category]; done) | rfl) ?_
  intro p e s m below meth cc_ T hx hby hml hown hnm hret hlk hZ X eT
  have N := Fr.nil n0
  have sz_h : h0.size ≤ h0.size := Nat.le_refl _
  refine galoadN (v := (.ref sb)) X hx 1 (hb hby own_d19_0) rfl rfl rfl ?_
  refine ggetF X hx hZ (host := "") hown (Or.inl (own_w79 hw)) Via.refl eT P0_Fld 4 (hb hby own_d19_1) rfl ?_
  clear X eT; clear T; intro T X eT
  refine garrlen X hx hZ eT P2_Arv 5 (hb hby own_d19_4) rfl ?_
  refine galoadN (v := (.ref sb)) X hx 6 (hb hby own_d19_5) rfl rfl rfl ?_
  refine ggetF X hx hZ (host := "") hown (Or.inl (own_w81 hw)) Via.refl eT P1_Fld 9 (hb hby own_d19_6) rfl ?_
  clear X eT; clear T; intro T X eT
  refine gishr X hx 10 (hb hby own_d19_9) rfl ?_
  rw [show ((16 : Int32) >>> ((0 : Int32) &&& 31)) = (16 : Int32) from by decide]
  refine gistoreN X hx #[.val (.ref sb), .val (.int 8), .val (.int 16)] 11 (hb hby own_d19_10) rfl rfl ?_
  refine giloadN (v := (8 : Int32)) X hx 12 (hb hby own_d19_11) rfl rfl ?_
  refine giloadN (v := (16 : Int32)) X hx 13 (hb hby own_d19_12) rfl rfl ?_
  refine gisub X hx 14 (hb hby own_d19_13) rfl ?_
  rw [show ((8 : Int32) - (16 : Int32)) = (-8 : Int32) from by decide]
  refine gifYes X hx 38 (hb hby own_d19_14) (by decide) (by decide) (by decide) ?_
  exact gRetP0 X hx hlk hret (hb hby own_d19_38) eT (by decide) (by decide) ⟨rfl, N, rfl⟩
set_option maxRecDepth 65536 in
set_option maxHeartbeats 40000000 in
theorem rmGB6_2_16 (l : Launch) (Z : State) (a0 : Array Value) (hw : HW_ a0 Z) (x : Addr) (t : Addr) (va : Addr) (kt : ClassId) (kv : ClassId) (G1 : Int32) (bx0 : Int32) (bx1 : Int32) (bx2 : Int32) (bx3 : Int32) (bx4 : Int32) (bx5 : Int32) (cx0 : Int32) (cx1 : Int32) (h0 : Heap) (n0 : Nat) (Z0 : n0 ≤ h0.size) (ge_va : n0 ≤ va) (P0_Old : Old Z n0 h0) (P1_Exa : Exa Z h0 x "java/lang/String") (P2_Fld : Fld Z h0 x "java/lang/String" "coder" "B" (.int 0)) (P3_Fld : Fld Z h0 x "java/lang/String" "value" "[B" (.ref t)) (P4_Arv : Arv Z h0 t kt .byte (2 : Int32) [(.int cx0), (.int cx1)] (.int 0)) (P5_Arv : Arv Z h0 va kv .byte (16 : Int32) [(.int bx0), (.int bx1), (.int bx2), (.int bx3), (.int bx4), (.int bx5), (.int 0), (.int 0), (.int 0), (.int 0), (.int 0), (.int 0), (.int 0), (.int 0), (.int 0), (.int 0)] (.int 0)) (O2 : Sta Z Z.heap "java/lang/String" "COMPACT_STRINGS" "Z" (.int G1)) (P5 : ¬ G1 = (0 : Int32)) (ntv : t ≠ va) :
    CtP l (⟨"java/lang/String", "getBytes", "([BIB)V"⟩ : MethodName) jdk_42_method_147_code 4 none [] ({ frames := 1, cells := 0, slots := 0, locals := 18 } : Room) Z #[(.ref x), (.ref va), (.int 6), (.int 0)] h0 (fun v h L => v = none ∧ Fr n0 L ∧ Keep h0 h [va] ∧ Arv Z h va kv .byte (16 : Int32) [(.int bx0), (.int bx1), (.int bx2), (.int bx3), (.int bx4), (.int bx5), (.int cx0), (.int cx1), (.int 0), (.int 0), (.int 0), (.int 0), (.int 0), (.int 0), (.int 0), (.int 0)] (.int 0)) := by
  refine CtP.walk (Ls := #[.val (.ref x), .val (.ref va), .val (.int 6), .val (.int 0)]) own_pn4 (fun m => by first | (simp [entryFrame, mkF, argsToLocals, Value.category]; done) | rfl) ?_
  intro p e s m below meth cc_ T hx hby hml hown hnm hret hlk hZ X eT
  have N := Fr.nil n0
  have K0 := Keep.refl h0 [va]
  have sz_h : h0.size ≤ h0.size := Nat.le_refl _
  refine galoadN (v := (.ref x)) X hx 1 (hb hby own_d22_0) rfl rfl rfl ?_
  refine gvirtual (y := (⟨"java/lang/String", "coder", "()B"⟩ : MethodName)) (z := (⟨"java/lang/String", "coder", "()B"⟩ : MethodName)) (a := x) (argsL := []) (st := []) X hx hZ hown (own_w99 hw) (own_w100 hw) (notFace_of_selects (args := #[]) (mvT hZ (own_w102 hw))) (own_w102 hw) (own_w101 hw) (by decide) P1_Exa (payP (W := 0) (rm18 l Z a0 hw (x) (G1) h0 n0 (Nat.le_trans Z0 sz_h) P0_Old P2_Fld (O2) (P5)) hZ (own_w103 hw) (own_w2 hw) (by decide) (by decide)) eT (by rw [hml]; rfl) (lenOf own_pd1 rfl) rfl (Nat.le_of_eq rfl) 0 0 rfl rfl (by decide) (by decide) 4 (hb hby own_d22_1) rfl ?_
  clear X eT; clear T; intro v T h1 L2 Lc X eT hL hQ2
  obtain ⟨rfl, Nq, hh⟩ := hQ2
  replace N : Fr n0 L2 := by rw [hL]; exact Fr.app N Nq
  clear Nq hL
  replace hh := hh.symm; subst hh
  show Go p e below _ T (mkF m 4 #[.val (.ref x), .val (.ref va), .val (.int 6), .val (.int 0)] [(.int 0)])
  refine giloadN (v := (0 : Int32)) X hx 5 (hb hby own_d22_4) rfl rfl ?_
  refine gicmpNo X hx 8 (hb hby own_d22_5) rfl (by decide) ?_
  refine galoadN (v := (.ref x)) X hx 9 (hb hby own_d22_8) rfl rfl rfl ?_
  refine ggetF X hx hZ (host := "") hown (Or.inl (own_w28 hw)) Via.refl eT P3_Fld 12 (hb hby own_d22_9) rfl ?_
  clear X eT; clear T; intro T X eT
  refine giconst X hx (0 : Int32) 13 (hb hby own_d22_12) rfl rfl ?_
  refine galoadN (v := (.ref va)) X hx 14 (hb hby own_d22_13) rfl rfl rfl ?_
  refine giloadN (v := (6 : Int32)) X hx 15 (hb hby own_d22_14) rfl rfl ?_
  refine giloadN (v := (0 : Int32)) X hx 16 (hb hby own_d22_15) rfl rfl ?_
  refine gishl X hx 17 (hb hby own_d22_16) rfl ?_
  rw [show ((6 : Int32) <<< ((0 : Int32) &&& 31)) = (6 : Int32) from by decide]
  refine galoadN (v := (.ref x)) X hx 18 (hb hby own_d22_17) rfl rfl rfl ?_
  refine ggetF X hx hZ (host := "") hown (Or.inl (own_w28 hw)) Via.refl eT P3_Fld 21 (hb hby own_d22_18) rfl ?_
  clear X eT; clear T; intro T X eT
  refine garrlen X hx hZ eT P4_Arv 22 (hb hby own_d22_21) rfl ?_
  refine gcpA (st := []) X hx hZ hown (own_w127 hw) (own_w130 hw) (own_w128 hw) (own_w129 hw) eT (by rw [hml]; rfl) P4_Arv P5_Arv rfl 0 6 2 rfl rfl rfl (by decide) (by decide) (by decide) (by decide) (by decide) (Nat.le_of_ble_eq_true rfl) ([(.int bx0), (.int bx1), (.int bx2), (.int bx3), (.int bx4), (.int bx5), (.int cx0), (.int cx1), (.int 0), (.int 0), (.int 0), (.int 0), (.int 0), (.int 0), (.int 0), (.int 0)] : List Value) rfl N ge_va (by decide) 0 (Nat.le_of_eq rfl) (by decide) 25 (hb hby own_d22_22) rfl ?_
  clear X eT N; clear T; intro T h5 L X eT N K6 V7
  have ne_x_va : x ≠ va := Exa.neArv P1_Exa P5_Arv (own_w1 hw)
  replace P0_Old := P0_Old.keep K6 (allS ge_va all0)
  replace P1_Exa := P1_Exa.keep K6
  replace P2_Fld := P2_Fld.keep K6 (ninS ne_x_va nin0)
  replace P3_Fld := P3_Fld.keep K6 (ninS ne_x_va nin0)
  replace P4_Arv := P4_Arv.keep K6 (ninS ntv nin0)
  replace K0 := K0.trans K6 (allS (Or.inl (List.mem_of_getElem? (i := 0) rfl)) all0)
  replace sz_h : h0.size ≤ h5.size := Nat.le_trans sz_h K6.1
  show Go p e below _ T (mkF m 25 #[.val (.ref x), .val (.ref va), .val (.int 6), .val (.int 0)] [])
  refine ggoto X hx 43 (hb hby own_d22_25) (by decide) (by decide) ?_
  exact gRetP0 X hx hlk hret (hb hby own_d22_43) eT (by decide) (by decide) ⟨rfl, N, K0, V7⟩
set_option maxRecDepth 65536 in
set_option maxHeartbeats 40000000 in
theorem rmPA6_2_16 (l : Launch) (Z : State) (a0 : Array Value) (hw : HW_ a0 Z) (sb : Addr) (x : Addr) (t : Addr) (va : Addr) (kt : ClassId) (kv : ClassId) (G1 : Int32) (bx0 : Int32) (bx1 : Int32) (bx2 : Int32) (bx3 : Int32) (bx4 : Int32) (bx5 : Int32) (cx0 : Int32) (cx1 : Int32) (h0 : Heap) (n0 : Nat) (Z0 : n0 ≤ h0.size) (ge_va : n0 ≤ va) (P0_Old : Old Z n0 h0) (P1_Exa : Exa Z h0 sb "java/lang/StringBuilder") (P2_Fld : Fld Z h0 sb "java/lang/AbstractStringBuilder" "value" "[B" (.ref va)) (P3_Fld : Fld Z h0 sb "java/lang/AbstractStringBuilder" "coder" "B" (.int 0)) (P4_Exa : Exa Z h0 x "java/lang/String") (P5_Fld : Fld Z h0 x "java/lang/String" "coder" "B" (.int 0)) (P6_Fld : Fld Z h0 x "java/lang/String" "value" "[B" (.ref t)) (P7_Arv : Arv Z h0 t kt .byte (2 : Int32) [(.int cx0), (.int cx1)] (.int 0)) (P8_Arv : Arv Z h0 va kv .byte (16 : Int32) [(.int bx0), (.int bx1), (.int bx2), (.int bx3), (.int bx4), (.int bx5), (.int 0), (.int 0), (.int 0), (.int 0), (.int 0), (.int 0), (.int 0), (.int 0), (.int 0), (.int 0)] (.int 0)) (O2 : Sta Z Z.heap "java/lang/String" "COMPACT_STRINGS" "Z" (.int G1)) (P5 : ¬ G1 = (0 : Int32)) (ntv : t ≠ va) :
    CtP l (⟨"java/lang/AbstractStringBuilder", "putStringAt", "(ILjava/lang/String;)V"⟩ : MethodName) jdk_68_method_73_code 3 none [] ({ frames := 2, cells := 0, slots := 0, locals := 33 } : Room) Z #[(.ref sb), (.int 6), (.ref x)] h0 (fun v h L => v = none ∧ Fr n0 L ∧ Keep h0 h [va] ∧ Arv Z h va kv .byte (16 : Int32) [(.int bx0), (.int bx1), (.int bx2), (.int bx3), (.int bx4), (.int bx5), (.int cx0), (.int cx1), (.int 0), (.int 0), (.int 0), (.int 0), (.int 0), (.int 0), (.int 0), (.int 0)] (.int 0)) := by
  refine CtP.walk (Ls := #[.val (.ref sb), .val (.int 6), .val (.ref x)]) (plainFor_of_name own_pn0) (fun m => by first | (simp [entryFrame, mkF, argsToLocals, Value.category]; done) | rfl) ?_
  intro p e s m below meth cc_ T hx hby hml hown hnm hret hlk hZ X eT
  have N := Fr.nil n0
  have K0 := Keep.refl h0 [va]
  have sz_h : h0.size ≤ h0.size := Nat.le_refl _
  refine galoadN (v := (.ref sb)) X hx 1 (hb hby own_d20_0) rfl rfl rfl ?_
  refine galoadN (v := (.ref x)) X hx 2 (hb hby own_d20_1) rfl rfl rfl ?_
  refine gpriv (y := (⟨"java/lang/AbstractStringBuilder", "inflateIfNeededFor", "(Ljava/lang/String;)V"⟩ : MethodName)) (a := sb) (argsL := [(.ref x)]) (st := []) X hx hZ hown (own_w116 hw) (own_w117 hw) (nf_sel (args := #[]) (mvT hZ (own_w109 hw)) rfl) (own_w118 hw) (own_w120 hw) (by decide) P1_Exa (payP (W := 0) (rm21 l Z a0 hw (sb) (x) (G1) h0 n0 (Nat.le_trans Z0 sz_h) P0_Old P4_Exa P3_Fld P5_Fld (O2) (P5)) hZ (own_w120 hw) (own_w75 hw) (by decide) (by decide)) eT (by rw [hml]; rfl) (lenOf own_pd2 rfl) rfl (Nat.le_of_eq rfl) 0 0 rfl rfl (by decide) (by decide) 5 (hb hby own_d20_2) rfl ?_
  clear X eT; clear T; intro v T h1 L2 Lc X eT hL hQ2
  obtain ⟨rfl, Nq, hh⟩ := hQ2
  replace N : Fr n0 L2 := by rw [hL]; exact Fr.app N Nq
  clear Nq hL
  replace hh := hh.symm; subst hh
  show Go p e below _ T (mkF m 5 #[.val (.ref sb), .val (.int 6), .val (.ref x)] [])
  refine galoadN (v := (.ref x)) X hx 6 (hb hby own_d20_5) rfl rfl rfl ?_
  refine galoadN (v := (.ref sb)) X hx 7 (hb hby own_d20_6) rfl rfl rfl ?_
  refine ggetF X hx hZ (host := "") hown (Or.inl (own_w79 hw)) Via.refl eT P2_Fld 10 (hb hby own_d20_7) rfl ?_
  clear X eT; clear T; intro T X eT
  refine giloadN (v := (6 : Int32)) X hx 11 (hb hby own_d20_10) rfl rfl ?_
  refine galoadN (v := (.ref sb)) X hx 12 (hb hby own_d20_11) rfl rfl rfl ?_
  refine ggetF X hx hZ (host := "") hown (Or.inl (own_w81 hw)) Via.refl eT P3_Fld 15 (hb hby own_d20_12) rfl ?_
  clear X eT; clear T; intro T X eT
  refine gvirtual (y := (⟨"java/lang/String", "getBytes", "([BIB)V"⟩ : MethodName)) (z := (⟨"java/lang/String", "getBytes", "([BIB)V"⟩ : MethodName)) (a := x) (argsL := [(.ref va), (.int 6), (.int 0)]) (st := []) X hx hZ hown (own_w122 hw) (own_w123 hw) (notFace_of_selects (args := #[]) (mvT hZ (own_w125 hw))) (own_w125 hw) (own_w124 hw) (by decide) P4_Exa (payP (W := 0) (rmGB6_2_16 l Z a0 hw (x) (t) (va) (kt) (kv) (G1) (bx0) (bx1) (bx2) (bx3) (bx4) (bx5) (cx0) (cx1) h0 n0 (Nat.le_trans Z0 sz_h) ge_va P0_Old P4_Exa P5_Fld P6_Fld P7_Arv P8_Arv (O2) (P5) (ntv)) hZ (own_w126 hw) (own_w2 hw) (by decide) (by decide)) eT (by rw [hml]; rfl) (lenOf own_pd3 rfl) rfl (Nat.le_of_eq rfl) 0 0 rfl rfl (by decide) (by decide) 18 (hb hby own_d20_15) rfl ?_
  clear X eT; clear T; intro v T h5 L2 Lc X eT hL hQ6
  obtain ⟨rfl, Nq, K7, G9⟩ := hQ6
  replace N : Fr n0 L2 := by rw [hL]; exact Fr.app N Nq
  clear Nq hL
  have ne_sb_va : sb ≠ va := Exa.neArv P1_Exa P8_Arv (own_w66 hw)
  have ne_x_va : x ≠ va := Exa.neArv P4_Exa P8_Arv (own_w1 hw)
  replace P0_Old := P0_Old.keep K7 (allS ge_va all0)
  replace P1_Exa := P1_Exa.keep K7
  replace P2_Fld := P2_Fld.keep K7 (ninS ne_sb_va nin0)
  replace P3_Fld := P3_Fld.keep K7 (ninS ne_sb_va nin0)
  replace P4_Exa := P4_Exa.keep K7
  replace P5_Fld := P5_Fld.keep K7 (ninS ne_x_va nin0)
  replace P6_Fld := P6_Fld.keep K7 (ninS ne_x_va nin0)
  replace P7_Arv := P7_Arv.keep K7 (ninS ntv nin0)
  replace K0 := K0.trans K7 (allS (Or.inl (List.mem_of_getElem? (i := 0) rfl)) all0)
  replace sz_h : h0.size ≤ h5.size := Nat.le_trans sz_h K7.1
  show Go p e below _ T (mkF m 18 #[.val (.ref sb), .val (.int 6), .val (.ref x)] [])
  exact gRetP0 X hx hlk hret (hb hby own_d20_18) eT (by decide) (by decide) ⟨rfl, N, K0, G9⟩
set_option maxRecDepth 65536 in
set_option maxHeartbeats 40000000 in
theorem rmAA6_2_16 (l : Launch) (Z : State) (a0 : Array Value) (hw : HW_ a0 Z) (sb : Addr) (x : Addr) (t : Addr) (va : Addr) (kt : ClassId) (kv : ClassId) (G1 : Int32) (bx0 : Int32) (bx1 : Int32) (bx2 : Int32) (bx3 : Int32) (bx4 : Int32) (bx5 : Int32) (cx0 : Int32) (cx1 : Int32) (h0 : Heap) (n0 : Nat) (Z0 : n0 ≤ h0.size) (ge_sb : n0 ≤ sb) (ge_va : n0 ≤ va) (P0_Old : Old Z n0 h0) (P1_Exa : Exa Z h0 sb "java/lang/StringBuilder") (P2_Fld : Fld Z h0 sb "java/lang/AbstractStringBuilder" "value" "[B" (.ref va)) (P3_Fld : Fld Z h0 sb "java/lang/AbstractStringBuilder" "coder" "B" (.int 0)) (P4_Fld : Fld Z h0 sb "java/lang/AbstractStringBuilder" "count" "I" (.int 6)) (P5_Exa : Exa Z h0 x "java/lang/String") (P6_Fld : Fld Z h0 x "java/lang/String" "coder" "B" (.int 0)) (P7_Fld : Fld Z h0 x "java/lang/String" "value" "[B" (.ref t)) (P8_Arv : Arv Z h0 t kt .byte (2 : Int32) [(.int cx0), (.int cx1)] (.int 0)) (P9_Arv : Arv Z h0 va kv .byte (16 : Int32) [(.int bx0), (.int bx1), (.int bx2), (.int bx3), (.int bx4), (.int bx5), (.int 0), (.int 0), (.int 0), (.int 0), (.int 0), (.int 0), (.int 0), (.int 0), (.int 0), (.int 0)] (.int 0)) (O2 : Sta Z Z.heap "java/lang/String" "COMPACT_STRINGS" "Z" (.int G1)) (P5 : ¬ G1 = (0 : Int32)) (ntv : t ≠ va) :
    CtP l (⟨"java/lang/AbstractStringBuilder", "append", "(Ljava/lang/String;)Ljava/lang/AbstractStringBuilder;"⟩ : MethodName) jdk_68_method_22_code 3 (some (.object "java/lang/AbstractStringBuilder")) [] ({ frames := 3, cells := 0, slots := 0, locals := 47 } : Room) Z #[(.ref sb), (.ref x)] h0 (fun v h L => v = some (.ref sb) ∧ Fr n0 L ∧ Keep h0 h [sb, va] ∧ Fld Z h sb "java/lang/AbstractStringBuilder" "value" "[B" (.ref va) ∧ Fld Z h sb "java/lang/AbstractStringBuilder" "coder" "B" (.int 0) ∧ Fld Z h sb "java/lang/AbstractStringBuilder" "count" "I" (.int 8) ∧ Arv Z h va kv .byte (16 : Int32) [(.int bx0), (.int bx1), (.int bx2), (.int bx3), (.int bx4), (.int bx5), (.int cx0), (.int cx1), (.int 0), (.int 0), (.int 0), (.int 0), (.int 0), (.int 0), (.int 0), (.int 0)] (.int 0)) := by
  refine CtP.walk (Ls := #[.val (.ref sb), .val (.ref x), .unset]) (plainFor_of_name own_pn0) (fun m => by first | (simp [entryFrame, mkF, argsToLocals, Value.category]; done) | rfl) ?_
  intro p e s m below meth cc_ T hx hby hml hown hnm hret hlk hZ X eT
  have N := Fr.nil n0
  have K0 := Keep.refl h0 [sb, va]
  have sz_h : h0.size ≤ h0.size := Nat.le_refl _
  refine galoadN (v := (.ref x)) X hx 1 (hb hby own_d16_0) rfl rfl rfl ?_
  refine gifnonnullYes X hx 9 (hb hby own_d16_1) (by decide) (by decide) ?_
  refine galoadN (v := (.ref x)) X hx 10 (hb hby own_d16_9) rfl rfl rfl ?_
  refine gvirtual (y := (⟨"java/lang/String", "length", "()I"⟩ : MethodName)) (z := (⟨"java/lang/String", "length", "()I"⟩ : MethodName)) (a := x) (argsL := []) (st := []) X hx hZ hown (own_w94 hw) (own_w95 hw) (notFace_of_selects (args := #[]) (mvT hZ (own_w97 hw))) (own_w97 hw) (own_w96 hw) (by decide) P5_Exa (payP (W := 0) (rmSL2 l Z a0 hw (x) (t) (kt) ([(.int cx0), (.int cx1)]) (G1) h0 n0 (Nat.le_trans Z0 sz_h) P0_Old P5_Exa P6_Fld P7_Fld P8_Arv (O2) (P5)) hZ (own_w98 hw) (own_w2 hw) (by decide) (by decide)) eT (by rw [hml]; rfl) (lenOf own_pd4 rfl) rfl (Nat.le_of_eq rfl) 0 0 rfl rfl (by decide) (by decide) 13 (hb hby own_d16_10) rfl ?_
  clear X eT; clear T; intro v T h1 L2 Lc X eT hL hQ2
  obtain ⟨rfl, Nq, hh⟩ := hQ2
  replace N : Fr n0 L2 := by rw [hL]; exact Fr.app N Nq
  clear Nq hL
  replace hh := hh.symm; subst hh
  show Go p e below _ T (mkF m 13 #[.val (.ref sb), .val (.ref x), .unset] [(.int 2)])
  refine gistoreN X hx #[.val (.ref sb), .val (.ref x), .val (.int 2)] 14 (hb hby own_d16_13) rfl rfl ?_
  refine galoadN (v := (.ref sb)) X hx 15 (hb hby own_d16_14) rfl rfl rfl ?_
  refine galoadN (v := (.ref sb)) X hx 16 (hb hby own_d16_15) rfl rfl rfl ?_
  refine ggetF X hx hZ (host := "") hown (Or.inl (own_w104 hw)) Via.refl eT P4_Fld 19 (hb hby own_d16_16) rfl ?_
  clear X eT; clear T; intro T X eT
  refine giloadN (v := (2 : Int32)) X hx 20 (hb hby own_d16_19) rfl rfl ?_
  refine giadd X hx 21 (hb hby own_d16_20) rfl ?_
  rw [show ((6 : Int32) + (2 : Int32)) = (8 : Int32) from by decide]
  refine gpriv (y := (⟨"java/lang/AbstractStringBuilder", "ensureCapacityInternal", "(I)V"⟩ : MethodName)) (a := sb) (argsL := [(.int 8)]) (st := []) X hx hZ hown (own_w106 hw) (own_w107 hw) (nf_sel (args := #[]) (mvT hZ (own_w109 hw)) rfl) (own_w108 hw) (own_w110 hw) (by decide) P1_Exa (payP (W := 0) (rmEC8_16 l Z a0 hw (sb) (va) (kv) ([(.int bx0), (.int bx1), (.int bx2), (.int bx3), (.int bx4), (.int bx5), (.int 0), (.int 0), (.int 0), (.int 0), (.int 0), (.int 0), (.int 0), (.int 0), (.int 0), (.int 0)]) h0 n0 (Nat.le_trans Z0 sz_h) P2_Fld P3_Fld P9_Arv) hZ (own_w110 hw) (own_w75 hw) (by decide) (by decide)) eT (by rw [hml]; rfl) (lenOf own_pd0 rfl) rfl (Nat.le_of_eq rfl) 0 0 rfl rfl (by decide) (by decide) 24 (hb hby own_d16_21) rfl ?_
  clear X eT; clear T; intro v T h5 L2 Lc X eT hL hQ6
  obtain ⟨rfl, Nq, hh⟩ := hQ6
  replace N : Fr n0 L2 := by rw [hL]; exact Fr.app N Nq
  clear Nq hL
  replace hh := hh.symm; subst hh
  show Go p e below _ T (mkF m 24 #[.val (.ref sb), .val (.ref x), .val (.int 2)] [])
  refine galoadN (v := (.ref sb)) X hx 25 (hb hby own_d16_24) rfl rfl rfl ?_
  refine galoadN (v := (.ref sb)) X hx 26 (hb hby own_d16_25) rfl rfl rfl ?_
  refine ggetF X hx hZ (host := "") hown (Or.inl (own_w104 hw)) Via.refl eT P4_Fld 29 (hb hby own_d16_26) rfl ?_
  clear X eT; clear T; intro T X eT
  refine galoadN (v := (.ref x)) X hx 30 (hb hby own_d16_29) rfl rfl rfl ?_
  refine gpriv (y := (⟨"java/lang/AbstractStringBuilder", "putStringAt", "(ILjava/lang/String;)V"⟩ : MethodName)) (a := sb) (argsL := [(.int 6), (.ref x)]) (st := []) X hx hZ hown (own_w111 hw) (own_w112 hw) (nf_sel (args := #[]) (mvT hZ (own_w109 hw)) rfl) (own_w113 hw) (own_w115 hw) (by decide) P1_Exa (payP (W := 0) (rmPA6_2_16 l Z a0 hw (sb) (x) (t) (va) (kt) (kv) (G1) (bx0) (bx1) (bx2) (bx3) (bx4) (bx5) (cx0) (cx1) h0 n0 (Nat.le_trans Z0 sz_h) ge_va P0_Old P1_Exa P2_Fld P3_Fld P5_Exa P6_Fld P7_Fld P8_Arv P9_Arv (O2) (P5) (ntv)) hZ (own_w115 hw) (own_w75 hw) (by decide) (by decide)) eT (by rw [hml]; rfl) (lenOf own_pd5 rfl) rfl (Nat.le_of_eq rfl) 0 0 rfl rfl (by decide) (by decide) 33 (hb hby own_d16_30) rfl ?_
  clear X eT; clear T; intro v T h9 L2 Lc X eT hL hQ10
  obtain ⟨rfl, Nq, K11, G13⟩ := hQ10
  replace N : Fr n0 L2 := by rw [hL]; exact Fr.app N Nq
  clear Nq hL
  have ne_sb_va : sb ≠ va := Exa.neArv P1_Exa P9_Arv (own_w66 hw)
  have ne_x_va : x ≠ va := Exa.neArv P5_Exa P9_Arv (own_w1 hw)
  replace P0_Old := P0_Old.keep K11 (allS ge_va all0)
  replace P1_Exa := P1_Exa.keep K11
  replace P2_Fld := P2_Fld.keep K11 (ninS ne_sb_va nin0)
  replace P3_Fld := P3_Fld.keep K11 (ninS ne_sb_va nin0)
  replace P4_Fld := P4_Fld.keep K11 (ninS ne_sb_va nin0)
  replace P5_Exa := P5_Exa.keep K11
  replace P6_Fld := P6_Fld.keep K11 (ninS ne_x_va nin0)
  replace P7_Fld := P7_Fld.keep K11 (ninS ne_x_va nin0)
  replace P8_Arv := P8_Arv.keep K11 (ninS ntv nin0)
  replace K0 := K0.trans K11 (allS (Or.inl (List.mem_of_getElem? (i := 1) rfl)) all0)
  replace sz_h : h0.size ≤ h9.size := Nat.le_trans sz_h K11.1
  show Go p e below _ T (mkF m 33 #[.val (.ref sb), .val (.ref x), .val (.int 2)] [])
  refine galoadN (v := (.ref sb)) X hx 34 (hb hby own_d16_33) rfl rfl rfl ?_
  refine gdup X hx 35 (hb hby own_d16_34) rfl rfl ?_
  refine ggetF X hx hZ (host := "") hown (Or.inl (own_w104 hw)) Via.refl eT P4_Fld 38 (hb hby own_d16_35) rfl ?_
  clear X eT; clear T; intro T X eT
  refine giloadN (v := (2 : Int32)) X hx 39 (hb hby own_d16_38) rfl rfl ?_
  refine giadd X hx 40 (hb hby own_d16_39) rfl ?_
  rw [show ((6 : Int32) + (2 : Int32)) = (8 : Int32) from by decide]
  refine gputF X hx hZ (host := "") hown (Or.inl (own_w104 hw)) Via.refl eT P4_Fld P1_Exa (Or.inl (own_w105 hw)) (own_w66 hw) (ty := .int) own_pf2 rfl rfl N ge_sb 43 (hb hby own_d16_40) rfl ?_
  clear X eT N; clear T; intro T h14 L X eT N W15
  have ne_x_sb : x ≠ sb := ne_exa P5_Exa P1_Exa (by decide)
  have ne_t_sb : t ≠ sb := Ne.symm (Exa.neArv P1_Exa P8_Arv (own_w66 hw))
  have ne_va_sb : va ≠ sb := Ne.symm (Exa.neArv P1_Exa G13 (own_w66 hw))
  replace P0_Old := P0_Old.wr W15 ge_sb
  replace P1_Exa := P1_Exa.wr W15
  replace P2_Fld := P2_Fld.other W15 (Or.inr (slot_ne (Or.inl (own_w80 hw)) (Or.inl (own_w105 hw)) (by decide) own_pf0 own_pf2))
  replace P3_Fld := P3_Fld.other W15 (Or.inr (slot_ne (Or.inl (own_w82 hw)) (Or.inl (own_w105 hw)) (by decide) own_pf1 own_pf2))
  replace P4_Fld := P4_Fld.same W15
  replace P5_Exa := P5_Exa.wr W15
  replace P6_Fld := P6_Fld.other W15 (Or.inl ne_x_sb)
  replace P7_Fld := P7_Fld.other W15 (Or.inl ne_x_sb)
  replace P8_Arv := P8_Arv.other W15 ne_t_sb
  replace G13 := G13.other W15 ne_va_sb
  replace K0 := K0.wr W15 (Or.inl (List.mem_of_getElem? (i := 0) rfl))
  replace sz_h : h0.size ≤ h14.size := by rw [Wr.size W15]; exact sz_h
  refine galoadN (v := (.ref sb)) X hx 44 (hb hby own_d16_43) rfl rfl rfl ?_
  exact gRetP X hx hlk hret rfl (Or.inr (Or.inr (Or.inr (Or.inr ⟨rfl, rfl, rfl⟩)))) (hb hby own_d16_44) eT (by decide) (by decide) ⟨rfl, N, K0, P2_Fld, P3_Fld, P4_Fld, G13⟩
set_option maxRecDepth 65536 in
set_option maxHeartbeats 40000000 in
theorem rmSA6_2_16 (l : Launch) (Z : State) (a0 : Array Value) (hw : HW_ a0 Z) (sb : Addr) (x : Addr) (t : Addr) (va : Addr) (kt : ClassId) (kv : ClassId) (G1 : Int32) (bx0 : Int32) (bx1 : Int32) (bx2 : Int32) (bx3 : Int32) (bx4 : Int32) (bx5 : Int32) (cx0 : Int32) (cx1 : Int32) (h0 : Heap) (n0 : Nat) (Z0 : n0 ≤ h0.size) (ge_sb : n0 ≤ sb) (ge_va : n0 ≤ va) (P0_Old : Old Z n0 h0) (P1_Exa : Exa Z h0 sb "java/lang/StringBuilder") (P2_Fld : Fld Z h0 sb "java/lang/AbstractStringBuilder" "value" "[B" (.ref va)) (P3_Fld : Fld Z h0 sb "java/lang/AbstractStringBuilder" "coder" "B" (.int 0)) (P4_Fld : Fld Z h0 sb "java/lang/AbstractStringBuilder" "count" "I" (.int 6)) (P5_Exa : Exa Z h0 x "java/lang/String") (P6_Fld : Fld Z h0 x "java/lang/String" "coder" "B" (.int 0)) (P7_Fld : Fld Z h0 x "java/lang/String" "value" "[B" (.ref t)) (P8_Arv : Arv Z h0 t kt .byte (2 : Int32) [(.int cx0), (.int cx1)] (.int 0)) (P9_Arv : Arv Z h0 va kv .byte (16 : Int32) [(.int bx0), (.int bx1), (.int bx2), (.int bx3), (.int bx4), (.int bx5), (.int 0), (.int 0), (.int 0), (.int 0), (.int 0), (.int 0), (.int 0), (.int 0), (.int 0), (.int 0)] (.int 0)) (O2 : Sta Z Z.heap "java/lang/String" "COMPACT_STRINGS" "Z" (.int G1)) (P5 : ¬ G1 = (0 : Int32)) (ntv : t ≠ va) :
    CtP l (⟨"java/lang/StringBuilder", "append", "(Ljava/lang/String;)Ljava/lang/StringBuilder;"⟩ : MethodName) jdk_67_method_7_code 2 (some (.object "java/lang/StringBuilder")) [] ({ frames := 4, cells := 0, slots := 0, locals := 61 } : Room) Z #[(.ref sb), (.ref x)] h0 (fun v h L => v = some (.ref sb) ∧ Fr n0 L ∧ Keep h0 h [sb, va] ∧ Fld Z h sb "java/lang/AbstractStringBuilder" "value" "[B" (.ref va) ∧ Fld Z h sb "java/lang/AbstractStringBuilder" "coder" "B" (.int 0) ∧ Fld Z h sb "java/lang/AbstractStringBuilder" "count" "I" (.int 8) ∧ Arv Z h va kv .byte (16 : Int32) [(.int bx0), (.int bx1), (.int bx2), (.int bx3), (.int bx4), (.int bx5), (.int cx0), (.int cx1), (.int 0), (.int 0), (.int 0), (.int 0), (.int 0), (.int 0), (.int 0), (.int 0)] (.int 0)) := by
  refine CtP.walk (Ls := #[.val (.ref sb), .val (.ref x)]) (plainFor_of_name own_pn1) (fun m => by first | (simp [entryFrame, mkF, argsToLocals, Value.category]; done) | rfl) ?_
  intro p e s m below meth cc_ T hx hby hml hown hnm hret hlk hZ X eT
  have N := Fr.nil n0
  have K0 := Keep.refl h0 [sb, va]
  have sz_h : h0.size ≤ h0.size := Nat.le_refl _
  refine galoadN (v := (.ref sb)) X hx 1 (hb hby own_d15_0) rfl rfl rfl ?_
  refine galoadN (v := (.ref x)) X hx 2 (hb hby own_d15_1) rfl rfl rfl ?_
  refine gsuper (y := (⟨"java/lang/AbstractStringBuilder", "append", "(Ljava/lang/String;)Ljava/lang/AbstractStringBuilder;"⟩ : MethodName)) (a := sb) (argsL := [(.ref x)]) (st := []) X hx hZ hown (own_w89 hw) (sm_sel (own_w90 hw) (own_w109 hw) rfl (by decide)) (own_w90 hw) (own_w91 hw) (by decide) (own_w93 hw) (Ins.self P1_Exa) (payP (W := 0) (rmAA6_2_16 l Z a0 hw (sb) (x) (t) (va) (kt) (kv) (G1) (bx0) (bx1) (bx2) (bx3) (bx4) (bx5) (cx0) (cx1) h0 n0 (Nat.le_trans Z0 sz_h) ge_sb ge_va P0_Old P1_Exa P2_Fld P3_Fld P4_Fld P5_Exa P6_Fld P7_Fld P8_Arv P9_Arv (O2) (P5) (ntv)) hZ (own_w93 hw) (own_w75 hw) (by decide) (by decide)) eT (by rw [hml]; rfl) (lenOf own_pd6 rfl) rfl (Nat.le_of_eq rfl) 0 0 rfl rfl (by decide) (by decide) 5 (hb hby own_d15_2) rfl ?_
  clear X eT; clear T; intro v T h1 L2 Lc X eT hL hQ2
  obtain ⟨rfl, Nq, K3, G5, G6, G7, G8⟩ := hQ2
  replace N : Fr n0 L2 := by rw [hL]; exact Fr.app N Nq
  clear Nq hL
  have ne_x_sb : x ≠ sb := ne_exa P5_Exa P1_Exa (by decide)
  have ne_x_va : x ≠ va := Exa.neArv P5_Exa P9_Arv (own_w1 hw)
  have ne_t_sb : t ≠ sb := Ne.symm (Exa.neArv P1_Exa P8_Arv (own_w66 hw))
  replace P0_Old := P0_Old.keep K3 (allS ge_sb (allS ge_va all0))
  replace P1_Exa := P1_Exa.keep K3
  replace P5_Exa := P5_Exa.keep K3
  replace P6_Fld := P6_Fld.keep K3 (ninS ne_x_sb (ninS ne_x_va nin0))
  replace P7_Fld := P7_Fld.keep K3 (ninS ne_x_sb (ninS ne_x_va nin0))
  replace P8_Arv := P8_Arv.keep K3 (ninS ne_t_sb (ninS ntv nin0))
  replace K0 := K0.trans K3 (allS (Or.inl (List.mem_of_getElem? (i := 0) rfl)) (allS (Or.inl (List.mem_of_getElem? (i := 1) rfl)) all0))
  replace sz_h : h0.size ≤ h1.size := Nat.le_trans sz_h K3.1
  show Go p e below _ T (mkF m 5 #[.val (.ref sb), .val (.ref x)] [(.ref sb)])
  refine gpop X hx 6 (hb hby own_d15_5) rfl rfl ?_
  refine galoadN (v := (.ref sb)) X hx 7 (hb hby own_d15_6) rfl rfl rfl ?_
  exact gRetP X hx hlk hret rfl (Or.inr (Or.inr (Or.inr (Or.inr ⟨rfl, rfl, rfl⟩)))) (hb hby own_d15_7) eT (by decide) (by decide) ⟨rfl, N, K0, G5, G6, G7, G8⟩
set_option maxRecDepth 65536 in
set_option maxHeartbeats 40000000 in
theorem rmSL11 (l : Launch) (Z : State) (a0 : Array Value) (hw : HW_ a0 Z) (x : Addr) (t : Addr) (kt : ClassId) (vs0 : List Value) (G1 : Int32) (h0 : Heap) (n0 : Nat) (Z0 : n0 ≤ h0.size) (P0_Old : Old Z n0 h0) (P1_Exa : Exa Z h0 x "java/lang/String") (P2_Fld : Fld Z h0 x "java/lang/String" "coder" "B" (.int 0)) (P3_Fld : Fld Z h0 x "java/lang/String" "value" "[B" (.ref t)) (P4_Arv : Arv Z h0 t kt .byte (11 : Int32) vs0 (.int 0)) (O2 : Sta Z Z.heap "java/lang/String" "COMPACT_STRINGS" "Z" (.int G1)) (P5 : ¬ G1 = (0 : Int32)) :
    CtP l (⟨"java/lang/String", "length", "()I"⟩ : MethodName) jdk_42_method_54_code 1 (some .int) [] ({ frames := 1, cells := 0, slots := 0, locals := 13 } : Room) Z #[(.ref x)] h0 (fun v h L => v = some (.int 11) ∧ Fr n0 L ∧ h = h0) := by
  refine CtP.walk (Ls := #[.val (.ref x)]) own_pn3 (fun m => by first | (simp [entryFrame, mkF, argsToLocals, Value.category]; done) | rfl) ?_
  intro p e s m below meth cc_ T hx hby hml hown hnm hret hlk hZ X eT
  have N := Fr.nil n0
  have sz_h : h0.size ≤ h0.size := Nat.le_refl _
  refine galoadN (v := (.ref x)) X hx 1 (hb hby own_d17_0) rfl rfl rfl ?_
  refine ggetF X hx hZ (host := "") hown (Or.inl (own_w28 hw)) Via.refl eT P3_Fld 4 (hb hby own_d17_1) rfl ?_
  clear X eT; clear T; intro T X eT
  refine garrlen X hx hZ eT P4_Arv 5 (hb hby own_d17_4) rfl ?_
  refine galoadN (v := (.ref x)) X hx 6 (hb hby own_d17_5) rfl rfl rfl ?_
  refine gvirtual (y := (⟨"java/lang/String", "coder", "()B"⟩ : MethodName)) (z := (⟨"java/lang/String", "coder", "()B"⟩ : MethodName)) (a := x) (argsL := []) (st := [(.int 11)]) X hx hZ hown (own_w99 hw) (own_w100 hw) (notFace_of_selects (args := #[]) (mvT hZ (own_w102 hw))) (own_w102 hw) (own_w101 hw) (by decide) P1_Exa (payP (W := 1) (rm18 l Z a0 hw (x) (G1) h0 n0 (Nat.le_trans Z0 sz_h) P0_Old P2_Fld (O2) (P5)) hZ (own_w103 hw) (own_w2 hw) (by decide) (by decide)) eT (by rw [hml]; rfl) (lenOf own_pd1 rfl) rfl (Nat.le_of_eq rfl) 0 0 rfl rfl (by decide) (by decide) 9 (hb hby own_d17_6) rfl ?_
  clear X eT; clear T; intro v T h1 L2 Lc X eT hL hQ2
  obtain ⟨rfl, Nq, hh⟩ := hQ2
  replace N : Fr n0 L2 := by rw [hL]; exact Fr.app N Nq
  clear Nq hL
  replace hh := hh.symm; subst hh
  show Go p e below _ T (mkF m 9 #[.val (.ref x)] [(.int 0), (.int 11)])
  refine gishr X hx 10 (hb hby own_d17_9) rfl ?_
  rw [show ((11 : Int32) >>> ((0 : Int32) &&& 31)) = (11 : Int32) from by decide]
  exact gRetP X hx hlk hret rfl (Or.inl ⟨rfl, by simp, _, rfl⟩) (hb hby own_d17_10) eT (by decide) (by decide) ⟨rfl, N, rfl⟩
set_option maxRecDepth 65536 in
set_option maxHeartbeats 40000000 in
theorem rmMx3_18 (l : Launch) (Z : State) (a0 : Array Value) (hw : HW_ a0 Z) (h0 : Heap) (n0 : Nat) (Z0 : n0 ≤ h0.size) :
    CtP l (⟨"java/lang/Math", "max", "(II)I"⟩ : MethodName) jdk_29_method_65_code 2 (some .int) [] ({ frames := 0, cells := 0, slots := 0, locals := 0 } : Room) Z #[(.int 3), (.int 18)] h0 (fun v h L => v = some (.int 18) ∧ Fr n0 L ∧ h = h0) := by
  refine CtP.walk (Ls := #[.val (.int 3), .val (.int 18)]) own_pn5 (fun m => by first | (simp [entryFrame, mkF, argsToLocals, Value.category]; done) | rfl) ?_
  intro p e s m below meth cc_ T hx hby hml hown hnm hret hlk hZ X eT
  have N := Fr.nil n0
  have sz_h : h0.size ≤ h0.size := Nat.le_refl _
  refine giloadN (v := (3 : Int32)) X hx 1 (hb hby own_d25_0) rfl rfl ?_
  refine giloadN (v := (18 : Int32)) X hx 2 (hb hby own_d25_1) rfl rfl ?_
  refine gicmpYes X hx 9 (hb hby own_d25_2) (by decide) (by decide) (by decide) ?_
  refine giloadN (v := (18 : Int32)) X hx 10 (hb hby own_d25_9) rfl rfl ?_
  exact gRetP X hx hlk hret rfl (Or.inl ⟨rfl, by simp, _, rfl⟩) (hb hby own_d25_10) eT (by decide) (by decide) ⟨rfl, N, rfl⟩
set_option maxRecDepth 65536 in
set_option maxHeartbeats 40000000 in
theorem rmNL16_19 (l : Launch) (Z : State) (a0 : Array Value) (hw : HW_ a0 Z) (h0 : Heap) (n0 : Nat) (Z0 : n0 ≤ h0.size) :
    CtP l (⟨"jdk/internal/util/ArraysSupport", "newLength", "(III)I"⟩ : MethodName) jdk_48_method_27_code 4 (some .int) [] ({ frames := 1, cells := 0, slots := 0, locals := 14 } : Room) Z #[(.int 16), (.int 3), (.int 18)] h0 (fun v h L => v = some (.int 34) ∧ Fr n0 L ∧ h = h0) := by
  refine CtP.walk (Ls := #[.val (.int 16), .val (.int 3), .val (.int 18), .unset]) (plainFor_of_name own_pn6) (fun m => by first | (simp [entryFrame, mkF, argsToLocals, Value.category]; done) | rfl) ?_
  intro p e s m below meth cc_ T hx hby hml hown hnm hret hlk hZ X eT
  have N := Fr.nil n0
  have sz_h : h0.size ≤ h0.size := Nat.le_refl _
  refine giloadN (v := (16 : Int32)) X hx 1 (hb hby own_d24_0) rfl rfl ?_
  refine giloadN (v := (3 : Int32)) X hx 2 (hb hby own_d24_1) rfl rfl ?_
  refine giloadN (v := (18 : Int32)) X hx 3 (hb hby own_d24_2) rfl rfl ?_
  refine gstatic (y := (⟨"java/lang/Math", "max", "(II)I"⟩ : MethodName)) (argsL := [(.int 3), (.int 18)]) (st := [(.int 16)]) X hx hZ hown (own_w141 hw) (own_w142 hw) (own_w143 hw) (own_w144 hw) (by decide) (payP (W := 1) (rmMx3_18 l Z a0 hw h0 n0 (Nat.le_trans Z0 sz_h)) hZ (own_w144 hw) (own_w143 hw) (by decide) (by decide)) eT (by rw [hml]; rfl) (lenOf own_pd7 rfl) rfl (Nat.le_of_eq rfl) 0 0 rfl rfl (by decide) (by decide) 6 (hb hby own_d24_3) rfl ?_
  clear X eT; clear T; intro v T h1 L2 Lc X eT hL hQ2
  obtain ⟨rfl, Nq, hh⟩ := hQ2
  replace N : Fr n0 L2 := by rw [hL]; exact Fr.app N Nq
  clear Nq hL
  replace hh := hh.symm; subst hh
  show Go p e below _ T (mkF m 6 #[.val (.int 16), .val (.int 3), .val (.int 18), .unset] [(.int 18), (.int 16)])
  refine giadd X hx 7 (hb hby own_d24_6) rfl ?_
  rw [show ((16 : Int32) + (18 : Int32)) = (34 : Int32) from by decide]
  refine gistoreN X hx #[.val (.int 16), .val (.int 3), .val (.int 18), .val (.int 34)] 8 (hb hby own_d24_7) rfl rfl ?_
  refine giconst X hx (0 : Int32) 9 (hb hby own_d24_8) rfl rfl ?_
  refine giloadN (v := (34 : Int32)) X hx 10 (hb hby own_d24_9) rfl rfl ?_
  refine gicmpNo X hx 13 (hb hby own_d24_10) rfl (by decide) ?_
  refine giloadN (v := (34 : Int32)) X hx 14 (hb hby own_d24_13) rfl rfl ?_
  refine gldcI X hx hZ hown (own_w145 hw) 16 (hb hby own_d24_14) rfl ?_
  refine gicmpNo X hx 19 (hb hby own_d24_16) rfl (by decide) ?_
  refine giloadN (v := (34 : Int32)) X hx 20 (hb hby own_d24_19) rfl rfl ?_
  exact gRetP X hx hlk hret rfl (Or.inl ⟨rfl, by simp, _, rfl⟩) (hb hby own_d24_20) eT (by decide) (by decide) ⟨rfl, N, rfl⟩
set_option maxRecDepth 65536 in
set_option maxHeartbeats 40000000 in
theorem rmNC16_19 (l : Launch) (Z : State) (a0 : Array Value) (hw : HW_ a0 Z) (sb : Addr) (va : Addr) (kv : ClassId) (vs0 : List Value) (h0 : Heap) (n0 : Nat) (Z0 : n0 ≤ h0.size) (P0_Fld : Fld Z h0 sb "java/lang/AbstractStringBuilder" "value" "[B" (.ref va)) (P1_Fld : Fld Z h0 sb "java/lang/AbstractStringBuilder" "coder" "B" (.int 0)) (P2_Arv : Arv Z h0 va kv .byte (16 : Int32) vs0 (.int 0)) :
    CtP l (⟨"java/lang/AbstractStringBuilder", "newCapacity", "(I)I"⟩ : MethodName) jdk_68_method_10_code 6 (some .int) [] ({ frames := 2, cells := 0, slots := 0, locals := 29 } : Room) Z #[(.ref sb), (.int 19)] h0 (fun v h L => v = some (.int 34) ∧ Fr n0 L ∧ h = h0) := by
  refine CtP.walk (Ls := #[.val (.ref sb), .val (.int 19), .unset, .unset, .unset, .unset]) (plainFor_of_name own_pn0) (fun m => by first | (simp [entryFrame, mkF, argsToLocals, Value.category]; done) | rfl) ?_
  intro p e s m below meth cc_ T hx hby hml hown hnm hret hlk hZ X eT
  have N := Fr.nil n0
  have sz_h : h0.size ≤ h0.size := Nat.le_refl _
  refine galoadN (v := (.ref sb)) X hx 1 (hb hby own_d23_0) rfl rfl rfl ?_
  refine ggetF X hx hZ (host := "") hown (Or.inl (own_w79 hw)) Via.refl eT P0_Fld 4 (hb hby own_d23_1) rfl ?_
  clear X eT; clear T; intro T X eT
  refine garrlen X hx hZ eT P2_Arv 5 (hb hby own_d23_4) rfl ?_
  refine gistoreN X hx #[.val (.ref sb), .val (.int 19), .val (.int 16), .unset, .unset, .unset] 6 (hb hby own_d23_5) rfl rfl ?_
  refine giloadN (v := (19 : Int32)) X hx 7 (hb hby own_d23_6) rfl rfl ?_
  refine galoadN (v := (.ref sb)) X hx 8 (hb hby own_d23_7) rfl rfl rfl ?_
  refine ggetF X hx hZ (host := "") hown (Or.inl (own_w81 hw)) Via.refl eT P1_Fld 11 (hb hby own_d23_8) rfl ?_
  clear X eT; clear T; intro T X eT
  refine gishl X hx 12 (hb hby own_d23_11) rfl ?_
  rw [show ((19 : Int32) <<< ((0 : Int32) &&& 31)) = (19 : Int32) from by decide]
  refine gistoreN X hx #[.val (.ref sb), .val (.int 19), .val (.int 16), .val (.int 19), .unset, .unset] 13 (hb hby own_d23_12) rfl rfl ?_
  refine giloadN (v := (19 : Int32)) X hx 14 (hb hby own_d23_13) rfl rfl ?_
  refine giloadN (v := (16 : Int32)) X hx 15 (hb hby own_d23_14) rfl rfl ?_
  refine gisub X hx 16 (hb hby own_d23_15) rfl ?_
  rw [show ((19 : Int32) - (16 : Int32)) = (3 : Int32) from by decide]
  refine gistore X hx #[.val (.ref sb), .val (.int 19), .val (.int 16), .val (.int 19), .val (.int 3), .unset] 18 (hb hby own_d23_16) rfl rfl ?_
  refine giloadN (v := (16 : Int32)) X hx 19 (hb hby own_d23_18) rfl rfl ?_
  refine giload (v := (3 : Int32)) X hx 21 (hb hby own_d23_19) rfl rfl ?_
  refine giloadN (v := (16 : Int32)) X hx 22 (hb hby own_d23_21) rfl rfl ?_
  refine giconst X hx (2 : Int32) 23 (hb hby own_d23_22) rfl rfl ?_
  refine galoadN (v := (.ref sb)) X hx 24 (hb hby own_d23_23) rfl rfl rfl ?_
  refine ggetF X hx hZ (host := "") hown (Or.inl (own_w81 hw)) Via.refl eT P1_Fld 27 (hb hby own_d23_24) rfl ?_
  clear X eT; clear T; intro T X eT
  refine gishl X hx 28 (hb hby own_d23_27) rfl ?_
  rw [show ((2 : Int32) <<< ((0 : Int32) &&& 31)) = (2 : Int32) from by decide]
  refine giadd X hx 29 (hb hby own_d23_28) rfl ?_
  rw [show ((16 : Int32) + (2 : Int32)) = (18 : Int32) from by decide]
  refine gstatic (y := (⟨"jdk/internal/util/ArraysSupport", "newLength", "(III)I"⟩ : MethodName)) (argsL := [(.int 16), (.int 3), (.int 18)]) (st := []) X hx hZ hown (own_w137 hw) (own_w138 hw) (own_w139 hw) (own_w140 hw) (by decide) (payP (W := 0) (rmNL16_19 l Z a0 hw h0 n0 (Nat.le_trans Z0 sz_h)) hZ (own_w140 hw) (own_w139 hw) (by decide) (by decide)) eT (by rw [hml]; rfl) (lenOf own_pd8 rfl) rfl (Nat.le_of_eq rfl) 0 0 rfl rfl (by decide) (by decide) 32 (hb hby own_d23_29) rfl ?_
  clear X eT; clear T; intro v T h1 L2 Lc X eT hL hQ2
  obtain ⟨rfl, Nq, hh⟩ := hQ2
  replace N : Fr n0 L2 := by rw [hL]; exact Fr.app N Nq
  clear Nq hL
  replace hh := hh.symm; subst hh
  show Go p e below _ T (mkF m 32 #[.val (.ref sb), .val (.int 19), .val (.int 16), .val (.int 19), .val (.int 3), .unset] [(.int 34)])
  refine gistore X hx #[.val (.ref sb), .val (.int 19), .val (.int 16), .val (.int 19), .val (.int 3), .val (.int 34)] 34 (hb hby own_d23_32) rfl rfl ?_
  refine giload (v := (34 : Int32)) X hx 36 (hb hby own_d23_34) rfl rfl ?_
  refine gldcI X hx hZ hown (own_w146 hw) 38 (hb hby own_d23_36) rfl ?_
  refine gicmpYes X hx 51 (hb hby own_d23_38) (by decide) (by decide) (by decide) ?_
  refine giload (v := (34 : Int32)) X hx 53 (hb hby own_d23_51) rfl rfl ?_
  refine galoadN (v := (.ref sb)) X hx 54 (hb hby own_d23_53) rfl rfl rfl ?_
  refine ggetF X hx hZ (host := "") hown (Or.inl (own_w81 hw)) Via.refl eT P1_Fld 57 (hb hby own_d23_54) rfl ?_
  clear X eT; clear T; intro T X eT
  refine gishr X hx 58 (hb hby own_d23_57) rfl ?_
  rw [show ((34 : Int32) >>> ((0 : Int32) &&& 31)) = (34 : Int32) from by decide]
  exact gRetP X hx hlk hret rfl (Or.inl ⟨rfl, by simp, _, rfl⟩) (hb hby own_d23_58) eT (by decide) (by decide) ⟨rfl, N, rfl⟩
set_option maxRecDepth 65536 in
set_option maxHeartbeats 40000000 in
theorem rmMn16_34 (l : Launch) (Z : State) (a0 : Array Value) (hw : HW_ a0 Z) (h0 : Heap) (n0 : Nat) (Z0 : n0 ≤ h0.size) :
    CtP l (⟨"java/lang/Math", "min", "(II)I"⟩ : MethodName) jdk_29_method_69_code 2 (some .int) [] ({ frames := 0, cells := 0, slots := 0, locals := 0 } : Room) Z #[(.int 16), (.int 34)] h0 (fun v h L => v = some (.int 16) ∧ Fr n0 L ∧ h = h0) := by
  refine CtP.walk (Ls := #[.val (.int 16), .val (.int 34)]) own_pn7 (fun m => by first | (simp [entryFrame, mkF, argsToLocals, Value.category]; done) | rfl) ?_
  intro p e s m below meth cc_ T hx hby hml hown hnm hret hlk hZ X eT
  have N := Fr.nil n0
  have sz_h : h0.size ≤ h0.size := Nat.le_refl _
  refine giloadN (v := (16 : Int32)) X hx 1 (hb hby own_d27_0) rfl rfl ?_
  refine giloadN (v := (34 : Int32)) X hx 2 (hb hby own_d27_1) rfl rfl ?_
  refine gicmpNo X hx 5 (hb hby own_d27_2) rfl (by decide) ?_
  refine giloadN (v := (16 : Int32)) X hx 6 (hb hby own_d27_5) rfl rfl ?_
  refine ggoto X hx 10 (hb hby own_d27_6) (by decide) (by decide) ?_
  exact gRetP X hx hlk hret rfl (Or.inl ⟨rfl, by simp, _, rfl⟩) (hb hby own_d27_10) eT (by decide) (by decide) ⟨rfl, N, rfl⟩
set_option maxRecDepth 65536 in
set_option maxHeartbeats 40000000 in
theorem rmCO16_34_8 (l : Launch) (Z : State) (a0 : Array Value) (hw : HW_ a0 Z) (va : Addr) (kv : ClassId) (bx0 : Int32) (bx1 : Int32) (bx2 : Int32) (bx3 : Int32) (bx4 : Int32) (bx5 : Int32) (bx6 : Int32) (bx7 : Int32) (h0 : Heap) (n0 : Nat) (Z0 : n0 ≤ h0.size) (P0_Arv : Arv Z h0 va kv .byte (16 : Int32) [(.int bx0), (.int bx1), (.int bx2), (.int bx3), (.int bx4), (.int bx5), (.int bx6), (.int bx7), (.int 0), (.int 0), (.int 0), (.int 0), (.int 0), (.int 0), (.int 0), (.int 0)] (.int 0)) :
    CtP l (⟨"java/util/Arrays", "copyOf", "([BI)[B"⟩ : MethodName) jdk_65_method_121_code 3 (some (.array .byte)) [] ({ frames := 1, cells := 1, slots := 34, locals := 18 } : Room) Z #[(.ref va), (.int 34)] h0 (fun v h L => ∃ (vb : Addr), ∃ (kw : ClassId), v = some (.ref vb) ∧ Fr n0 L ∧ Keep h0 h [] ∧ h0.size ≤ vb ∧ Arv Z h vb kw .byte (34 : Int32) [(.int bx0), (.int bx1), (.int bx2), (.int bx3), (.int bx4), (.int bx5), (.int bx6), (.int bx7), (.int 0), (.int 0), (.int 0), (.int 0), (.int 0), (.int 0), (.int 0), (.int 0), (.int 0), (.int 0), (.int 0), (.int 0), (.int 0), (.int 0), (.int 0), (.int 0), (.int 0), (.int 0), (.int 0), (.int 0), (.int 0), (.int 0), (.int 0), (.int 0), (.int 0), (.int 0)] (.int 0)) := by
  refine CtP.walk (Ls := #[.val (.ref va), .val (.int 34), .unset]) (plainFor_of_name own_pn8) (fun m => by first | (simp [entryFrame, mkF, argsToLocals, Value.category]; done) | rfl) ?_
  intro p e s m below meth cc_ T hx hby hml hown hnm hret hlk hZ X eT
  have N := Fr.nil n0
  have K0 := Keep.refl h0 []
  have sz_h : h0.size ≤ h0.size := Nat.le_refl _
  refine giloadN (v := (34 : Int32)) X hx 1 (hb hby own_d26_0) rfl rfl ?_
  refine galoadN (v := (.ref va)) X hx 2 (hb hby own_d26_1) rfl rfl rfl ?_
  refine garrlen X hx hZ eT P0_Arv 3 (hb hby own_d26_2) rfl ?_
  refine gicmpYes X hx 14 (hb hby own_d26_3) (by decide) (by decide) (by decide) ?_
  refine giloadN (v := (34 : Int32)) X hx 15 (hb hby own_d26_14) rfl rfl ?_
  refine gnewP (aty := .byte) X hx hZ (own_w19 hw) eT (n := (34 : Int32)) (by decide) 34 (by decide) (by decide) 1 34 rfl rfl (by decide) (by decide) 17 (hb hby own_d26_15) rfl ?_
  clear X eT; clear T; intro T h1 b2 kc5 X eT ga E3 V4
  have le_a := Nat.le_of_eq ga.symm
  have ne_va_b2 : va ≠ b2 := Nat.ne_of_lt (Nat.lt_of_lt_of_le P0_Arv.lt le_a)
  have ne_b2_va : b2 ≠ va := Ne.symm ne_va_b2
  have sz_b2 : h0.size ≤ b2 := Nat.le_trans sz_h le_a
  have ge_b2 : n0 ≤ b2 := Nat.le_trans Z0 sz_b2
  clear le_a ga
  replace P0_Arv := P0_Arv.ext E3
  replace K0 := K0.ext E3
  replace sz_h : h0.size ≤ h1.size := Nat.le_trans sz_h E3.1
  replace V4 : Arv Z h1 b2 kc5 .byte (34 : Int32) [(.int 0), (.int 0), (.int 0), (.int 0), (.int 0), (.int 0), (.int 0), (.int 0), (.int 0), (.int 0), (.int 0), (.int 0), (.int 0), (.int 0), (.int 0), (.int 0), (.int 0), (.int 0), (.int 0), (.int 0), (.int 0), (.int 0), (.int 0), (.int 0), (.int 0), (.int 0), (.int 0), (.int 0), (.int 0), (.int 0), (.int 0), (.int 0), (.int 0), (.int 0)] (.int 0) := V4.pad (pad_rep [] _ 34)
  refine gastoreN X hx #[.val (.ref va), .val (.int 34), .val (.ref b2)] 18 (hb hby own_d26_17) rfl rfl rfl ?_
  refine galoadN (v := (.ref va)) X hx 19 (hb hby own_d26_18) rfl rfl rfl ?_
  refine giconst X hx (0 : Int32) 20 (hb hby own_d26_19) rfl rfl ?_
  refine galoadN (v := (.ref b2)) X hx 21 (hb hby own_d26_20) rfl rfl rfl ?_
  refine giconst X hx (0 : Int32) 22 (hb hby own_d26_21) rfl rfl ?_
  refine galoadN (v := (.ref va)) X hx 23 (hb hby own_d26_22) rfl rfl rfl ?_
  refine garrlen X hx hZ eT P0_Arv 24 (hb hby own_d26_23) rfl ?_
  refine giloadN (v := (34 : Int32)) X hx 25 (hb hby own_d26_24) rfl rfl ?_
  refine gstatic (y := (⟨"java/lang/Math", "min", "(II)I"⟩ : MethodName)) (argsL := [(.int 16), (.int 34)]) (st := [(.int 0), (.ref b2), (.int 0), (.ref va)]) X hx hZ hown (own_w151 hw) (own_w152 hw) (own_w143 hw) (own_w153 hw) (by decide) (payP (W := 4) (rmMn16_34 l Z a0 hw h1 n0 (Nat.le_trans Z0 sz_h)) hZ (own_w153 hw) (own_w143 hw) (by decide) (by decide)) eT (by rw [hml]; rfl) (lenOf own_pd7 rfl) rfl (Nat.le_of_eq rfl) 1 34 rfl rfl (by decide) (by decide) 28 (hb hby own_d26_25) rfl ?_
  clear X eT; clear T; intro v T h6 L2 Lc X eT hL hQ7
  obtain ⟨rfl, Nq, hh⟩ := hQ7
  replace N : Fr n0 L2 := by rw [hL]; exact Fr.app N Nq
  clear Nq hL
  replace hh := hh.symm; subst hh
  show Go p e below _ T (mkF m 28 #[.val (.ref va), .val (.int 34), .val (.ref b2)] [(.int 16), (.int 0), (.ref b2), (.int 0), (.ref va)])
  refine gcpA (st := []) X hx hZ hown (own_w154 hw) (own_w130 hw) (own_w128 hw) (own_w129 hw) eT (by rw [hml]; rfl) P0_Arv V4 rfl 0 0 16 rfl rfl rfl (by decide) (by decide) (by decide) (by decide) (by decide) (Nat.le_of_ble_eq_true rfl) ([(.int bx0), (.int bx1), (.int bx2), (.int bx3), (.int bx4), (.int bx5), (.int bx6), (.int bx7), (.int 0), (.int 0), (.int 0), (.int 0), (.int 0), (.int 0), (.int 0), (.int 0), (.int 0), (.int 0), (.int 0), (.int 0), (.int 0), (.int 0), (.int 0), (.int 0), (.int 0), (.int 0), (.int 0), (.int 0), (.int 0), (.int 0), (.int 0), (.int 0), (.int 0), (.int 0)] : List Value) rfl N ge_b2 (by decide) 0 (Nat.le_of_eq rfl) (by decide) 31 (hb hby own_d26_28) rfl ?_
  clear X eT N; clear T; intro T h10 L X eT N K11 V12
  replace P0_Arv := P0_Arv.keep K11 (ninS ne_va_b2 nin0)
  replace K0 := K0.trans K11 (allS (Or.inr sz_b2) all0)
  replace sz_h : h0.size ≤ h10.size := Nat.le_trans sz_h K11.1
  show Go p e below _ T (mkF m 31 #[.val (.ref va), .val (.int 34), .val (.ref b2)] [])
  refine galoadN (v := (.ref b2)) X hx 32 (hb hby own_d26_31) rfl rfl rfl ?_
  exact gRetP X hx hlk hret rfl (Or.inr (Or.inr (Or.inr (Or.inr ⟨rfl, rfl, rfl⟩)))) (hb hby own_d26_32) eT (by decide) (by decide) ⟨b2, kc5, rfl, N, K0, sz_b2, V12⟩
set_option maxRecDepth 65536 in
set_option maxHeartbeats 40000000 in
theorem rmEG8_19_16 (l : Launch) (Z : State) (a0 : Array Value) (hw : HW_ a0 Z) (sb : Addr) (va : Addr) (kv : ClassId) (bx0 : Int32) (bx1 : Int32) (bx2 : Int32) (bx3 : Int32) (bx4 : Int32) (bx5 : Int32) (bx6 : Int32) (bx7 : Int32) (h0 : Heap) (n0 : Nat) (Z0 : n0 ≤ h0.size) (ge_sb : n0 ≤ sb) (P0_Exa : Exa Z h0 sb "java/lang/StringBuilder") (P1_Fld : Fld Z h0 sb "java/lang/AbstractStringBuilder" "value" "[B" (.ref va)) (P2_Fld : Fld Z h0 sb "java/lang/AbstractStringBuilder" "coder" "B" (.int 0)) (P3_Fld : Fld Z h0 sb "java/lang/AbstractStringBuilder" "count" "I" (.int 8)) (P4_Arv : Arv Z h0 va kv .byte (16 : Int32) [(.int bx0), (.int bx1), (.int bx2), (.int bx3), (.int bx4), (.int bx5), (.int bx6), (.int bx7), (.int 0), (.int 0), (.int 0), (.int 0), (.int 0), (.int 0), (.int 0), (.int 0)] (.int 0)) :
    CtP l (⟨"java/lang/AbstractStringBuilder", "ensureCapacityInternal", "(I)V"⟩ : MethodName) jdk_68_method_9_code 3 none [] ({ frames := 3, cells := 1, slots := 34, locals := 48 } : Room) Z #[(.ref sb), (.int 19)] h0 (fun v h L => ∃ (vb : Addr), ∃ (kw : ClassId), v = none ∧ Fr n0 L ∧ Keep h0 h [sb] ∧ h0.size ≤ vb ∧ Fld Z h sb "java/lang/AbstractStringBuilder" "value" "[B" (.ref vb) ∧ Fld Z h sb "java/lang/AbstractStringBuilder" "coder" "B" (.int 0) ∧ Fld Z h sb "java/lang/AbstractStringBuilder" "count" "I" (.int 8) ∧ Arv Z h vb kw .byte (34 : Int32) [(.int bx0), (.int bx1), (.int bx2), (.int bx3), (.int bx4), (.int bx5), (.int bx6), (.int bx7), (.int 0), (.int 0), (.int 0), (.int 0), (.int 0), (.int 0), (.int 0), (.int 0), (.int 0), (.int 0), (.int 0), (.int 0), (.int 0), (.int 0), (.int 0), (.int 0), (.int 0), (.int 0), (.int 0), (.int 0), (.int 0), (.int 0), (.int 0), (.int 0), (.int 0), (.int 0)] (.int 0)) := by
  refine CtP.walk (Ls := #[.val (.ref sb), .val (.int 19), .unset]) (plainFor_of_name own_pn0) (fun m => by first | (simp [entryFrame, mkF, argsToLocals, Value.category]; done) | rfl) ?_
  intro p e s m below meth cc_ T hx hby hml hown hnm hret hlk hZ X eT
  have N := Fr.nil n0
  have K0 := Keep.refl h0 [sb]
  have sz_h : h0.size ≤ h0.size := Nat.le_refl _
  refine galoadN (v := (.ref sb)) X hx 1 (hb hby own_d19_0) rfl rfl rfl ?_
  refine ggetF X hx hZ (host := "") hown (Or.inl (own_w79 hw)) Via.refl eT P1_Fld 4 (hb hby own_d19_1) rfl ?_
  clear X eT; clear T; intro T X eT
  refine garrlen X hx hZ eT P4_Arv 5 (hb hby own_d19_4) rfl ?_
  refine galoadN (v := (.ref sb)) X hx 6 (hb hby own_d19_5) rfl rfl rfl ?_
  refine ggetF X hx hZ (host := "") hown (Or.inl (own_w81 hw)) Via.refl eT P2_Fld 9 (hb hby own_d19_6) rfl ?_
  clear X eT; clear T; intro T X eT
  refine gishr X hx 10 (hb hby own_d19_9) rfl ?_
  rw [show ((16 : Int32) >>> ((0 : Int32) &&& 31)) = (16 : Int32) from by decide]
  refine gistoreN X hx #[.val (.ref sb), .val (.int 19), .val (.int 16)] 11 (hb hby own_d19_10) rfl rfl ?_
  refine giloadN (v := (19 : Int32)) X hx 12 (hb hby own_d19_11) rfl rfl ?_
  refine giloadN (v := (16 : Int32)) X hx 13 (hb hby own_d19_12) rfl rfl ?_
  refine gisub X hx 14 (hb hby own_d19_13) rfl ?_
  rw [show ((19 : Int32) - (16 : Int32)) = (3 : Int32) from by decide]
  refine gifNo X hx 17 (hb hby own_d19_14) rfl (by decide) ?_
  refine galoadN (v := (.ref sb)) X hx 18 (hb hby own_d19_17) rfl rfl rfl ?_
  refine galoadN (v := (.ref sb)) X hx 19 (hb hby own_d19_18) rfl rfl rfl ?_
  refine ggetF X hx hZ (host := "") hown (Or.inl (own_w79 hw)) Via.refl eT P1_Fld 22 (hb hby own_d19_19) rfl ?_
  clear X eT; clear T; intro T X eT
  refine galoadN (v := (.ref sb)) X hx 23 (hb hby own_d19_22) rfl rfl rfl ?_
  refine giloadN (v := (19 : Int32)) X hx 24 (hb hby own_d19_23) rfl rfl ?_
  refine gpriv (y := (⟨"java/lang/AbstractStringBuilder", "newCapacity", "(I)I"⟩ : MethodName)) (a := sb) (argsL := [(.int 19)]) (st := [(.ref va), (.ref sb)]) X hx hZ hown (own_w132 hw) (own_w133 hw) (nf_sel (args := #[]) (mvT hZ (own_w109 hw)) rfl) (own_w134 hw) (own_w136 hw) (by decide) P0_Exa (payP (W := 2) (rmNC16_19 l Z a0 hw (sb) (va) (kv) ([(.int bx0), (.int bx1), (.int bx2), (.int bx3), (.int bx4), (.int bx5), (.int bx6), (.int bx7), (.int 0), (.int 0), (.int 0), (.int 0), (.int 0), (.int 0), (.int 0), (.int 0)]) h0 n0 (Nat.le_trans Z0 sz_h) P1_Fld P2_Fld P4_Arv) hZ (own_w136 hw) (own_w75 hw) (by decide) (by decide)) eT (by rw [hml]; rfl) (lenOf own_pd9 rfl) rfl (Nat.le_of_eq rfl) 0 0 rfl rfl (by decide) (by decide) 27 (hb hby own_d19_24) rfl ?_
  clear X eT; clear T; intro v T h1 L2 Lc X eT hL hQ2
  obtain ⟨rfl, Nq, hh⟩ := hQ2
  replace N : Fr n0 L2 := by rw [hL]; exact Fr.app N Nq
  clear Nq hL
  replace hh := hh.symm; subst hh
  show Go p e below _ T (mkF m 27 #[.val (.ref sb), .val (.int 19), .val (.int 16)] [(.int 34), (.ref va), (.ref sb)])
  refine galoadN (v := (.ref sb)) X hx 28 (hb hby own_d19_27) rfl rfl rfl ?_
  refine ggetF X hx hZ (host := "") hown (Or.inl (own_w81 hw)) Via.refl eT P2_Fld 31 (hb hby own_d19_28) rfl ?_
  clear X eT; clear T; intro T X eT
  refine gishl X hx 32 (hb hby own_d19_31) rfl ?_
  rw [show ((34 : Int32) <<< ((0 : Int32) &&& 31)) = (34 : Int32) from by decide]
  refine gstatic (y := (⟨"java/util/Arrays", "copyOf", "([BI)[B"⟩ : MethodName)) (argsL := [(.ref va), (.int 34)]) (st := [(.ref sb)]) X hx hZ hown (own_w147 hw) (own_w148 hw) (own_w149 hw) (own_w150 hw) (by decide) (payP (W := 1) (rmCO16_34_8 l Z a0 hw (va) (kv) (bx0) (bx1) (bx2) (bx3) (bx4) (bx5) (bx6) (bx7) h0 n0 (Nat.le_trans Z0 sz_h) P4_Arv) hZ (own_w150 hw) (own_w149 hw) (by decide) (by decide)) eT (by rw [hml]; rfl) (lenOf own_pd10 rfl) rfl (Nat.le_of_eq rfl) 1 34 rfl rfl (by decide) (by decide) 35 (hb hby own_d19_32) rfl ?_
  clear X eT; clear T; intro v T h5 L2 Lc X eT hL hQ6
  obtain ⟨vb_7, kw_8, rfl, Nq, K9, zz_vb_7, G11⟩ := hQ6
  replace N : Fr n0 L2 := by rw [hL]; exact Fr.app N Nq
  clear Nq hL
  have ne_sb_vb_7 : sb ≠ vb_7 := Nat.ne_of_lt (Nat.lt_of_lt_of_le P0_Exa.lt zz_vb_7)
  have ne_vb_7_sb : vb_7 ≠ sb := Ne.symm ne_sb_vb_7
  have ne_va_vb_7 : va ≠ vb_7 := Nat.ne_of_lt (Nat.lt_of_lt_of_le P4_Arv.lt zz_vb_7)
  have ne_vb_7_va : vb_7 ≠ va := Ne.symm ne_va_vb_7
  have sz_vb_7 : h0.size ≤ vb_7 := Nat.le_trans sz_h zz_vb_7
  have ge_vb_7 : n0 ≤ vb_7 := Nat.le_trans Z0 sz_vb_7
  replace P0_Exa := P0_Exa.keep K9
  replace P1_Fld := P1_Fld.keep K9 nin0
  replace P2_Fld := P2_Fld.keep K9 nin0
  replace P3_Fld := P3_Fld.keep K9 nin0
  replace P4_Arv := P4_Arv.keep K9 nin0
  replace K0 := K0.trans K9 all0
  replace sz_h : h0.size ≤ h5.size := Nat.le_trans sz_h K9.1
  show Go p e below _ T (mkF m 35 #[.val (.ref sb), .val (.int 19), .val (.int 16)] [(.ref vb_7), (.ref sb)])
  refine gputF X hx hZ (host := "") hown (Or.inl (own_w79 hw)) Via.refl eT P1_Fld P0_Exa (Or.inl (own_w80 hw)) (own_w66 hw) (ty := (.array .byte)) own_pf0 rfl rfl N ge_sb 38 (hb hby own_d19_35) rfl ?_
  clear X eT N; clear T; intro T h12 L X eT N W13
  have ne_va_sb : va ≠ sb := Ne.symm (Exa.neArv P0_Exa P4_Arv (own_w66 hw))
  replace P0_Exa := P0_Exa.wr W13
  replace P1_Fld := P1_Fld.same W13
  replace P2_Fld := P2_Fld.other W13 (Or.inr (slot_ne (Or.inl (own_w82 hw)) (Or.inl (own_w80 hw)) (by decide) own_pf1 own_pf0))
  replace P3_Fld := P3_Fld.other W13 (Or.inr (slot_ne (Or.inl (own_w105 hw)) (Or.inl (own_w80 hw)) (by decide) own_pf2 own_pf0))
  replace P4_Arv := P4_Arv.other W13 ne_va_sb
  replace G11 := G11.other W13 ne_vb_7_sb
  replace K0 := K0.wr W13 (Or.inl (List.mem_of_getElem? (i := 0) rfl))
  replace sz_h : h0.size ≤ h12.size := by rw [Wr.size W13]; exact sz_h
  exact gRetP0 X hx hlk hret (hb hby own_d19_38) eT (by decide) (by decide) ⟨vb_7, kw_8, rfl, N, K0, sz_vb_7, P1_Fld, P2_Fld, P3_Fld, G11⟩
set_option maxRecDepth 65536 in
set_option maxHeartbeats 40000000 in
theorem rmGB8_11_34 (l : Launch) (Z : State) (a0 : Array Value) (hw : HW_ a0 Z) (x : Addr) (t : Addr) (va : Addr) (kt : ClassId) (kv : ClassId) (G1 : Int32) (bx0 : Int32) (bx1 : Int32) (bx2 : Int32) (bx3 : Int32) (bx4 : Int32) (bx5 : Int32) (bx6 : Int32) (bx7 : Int32) (cx0 : Int32) (cx1 : Int32) (cx2 : Int32) (cx3 : Int32) (cx4 : Int32) (cx5 : Int32) (cx6 : Int32) (cx7 : Int32) (cx8 : Int32) (cx9 : Int32) (cx10 : Int32) (h0 : Heap) (n0 : Nat) (Z0 : n0 ≤ h0.size) (ge_va : n0 ≤ va) (P0_Old : Old Z n0 h0) (P1_Exa : Exa Z h0 x "java/lang/String") (P2_Fld : Fld Z h0 x "java/lang/String" "coder" "B" (.int 0)) (P3_Fld : Fld Z h0 x "java/lang/String" "value" "[B" (.ref t)) (P4_Arv : Arv Z h0 t kt .byte (11 : Int32) [(.int cx0), (.int cx1), (.int cx2), (.int cx3), (.int cx4), (.int cx5), (.int cx6), (.int cx7), (.int cx8), (.int cx9), (.int cx10)] (.int 0)) (P5_Arv : Arv Z h0 va kv .byte (34 : Int32) [(.int bx0), (.int bx1), (.int bx2), (.int bx3), (.int bx4), (.int bx5), (.int bx6), (.int bx7), (.int 0), (.int 0), (.int 0), (.int 0), (.int 0), (.int 0), (.int 0), (.int 0), (.int 0), (.int 0), (.int 0), (.int 0), (.int 0), (.int 0), (.int 0), (.int 0), (.int 0), (.int 0), (.int 0), (.int 0), (.int 0), (.int 0), (.int 0), (.int 0), (.int 0), (.int 0)] (.int 0)) (O2 : Sta Z Z.heap "java/lang/String" "COMPACT_STRINGS" "Z" (.int G1)) (P5 : ¬ G1 = (0 : Int32)) (ntv : t ≠ va) :
    CtP l (⟨"java/lang/String", "getBytes", "([BIB)V"⟩ : MethodName) jdk_42_method_147_code 4 none [] ({ frames := 1, cells := 0, slots := 0, locals := 18 } : Room) Z #[(.ref x), (.ref va), (.int 8), (.int 0)] h0 (fun v h L => v = none ∧ Fr n0 L ∧ Keep h0 h [va] ∧ Arv Z h va kv .byte (34 : Int32) [(.int bx0), (.int bx1), (.int bx2), (.int bx3), (.int bx4), (.int bx5), (.int bx6), (.int bx7), (.int cx0), (.int cx1), (.int cx2), (.int cx3), (.int cx4), (.int cx5), (.int cx6), (.int cx7), (.int cx8), (.int cx9), (.int cx10), (.int 0), (.int 0), (.int 0), (.int 0), (.int 0), (.int 0), (.int 0), (.int 0), (.int 0), (.int 0), (.int 0), (.int 0), (.int 0), (.int 0), (.int 0)] (.int 0)) := by
  refine CtP.walk (Ls := #[.val (.ref x), .val (.ref va), .val (.int 8), .val (.int 0)]) own_pn4 (fun m => by first | (simp [entryFrame, mkF, argsToLocals, Value.category]; done) | rfl) ?_
  intro p e s m below meth cc_ T hx hby hml hown hnm hret hlk hZ X eT
  have N := Fr.nil n0
  have K0 := Keep.refl h0 [va]
  have sz_h : h0.size ≤ h0.size := Nat.le_refl _
  refine galoadN (v := (.ref x)) X hx 1 (hb hby own_d22_0) rfl rfl rfl ?_
  refine gvirtual (y := (⟨"java/lang/String", "coder", "()B"⟩ : MethodName)) (z := (⟨"java/lang/String", "coder", "()B"⟩ : MethodName)) (a := x) (argsL := []) (st := []) X hx hZ hown (own_w99 hw) (own_w100 hw) (notFace_of_selects (args := #[]) (mvT hZ (own_w102 hw))) (own_w102 hw) (own_w101 hw) (by decide) P1_Exa (payP (W := 0) (rm18 l Z a0 hw (x) (G1) h0 n0 (Nat.le_trans Z0 sz_h) P0_Old P2_Fld (O2) (P5)) hZ (own_w103 hw) (own_w2 hw) (by decide) (by decide)) eT (by rw [hml]; rfl) (lenOf own_pd1 rfl) rfl (Nat.le_of_eq rfl) 0 0 rfl rfl (by decide) (by decide) 4 (hb hby own_d22_1) rfl ?_
  clear X eT; clear T; intro v T h1 L2 Lc X eT hL hQ2
  obtain ⟨rfl, Nq, hh⟩ := hQ2
  replace N : Fr n0 L2 := by rw [hL]; exact Fr.app N Nq
  clear Nq hL
  replace hh := hh.symm; subst hh
  show Go p e below _ T (mkF m 4 #[.val (.ref x), .val (.ref va), .val (.int 8), .val (.int 0)] [(.int 0)])
  refine giloadN (v := (0 : Int32)) X hx 5 (hb hby own_d22_4) rfl rfl ?_
  refine gicmpNo X hx 8 (hb hby own_d22_5) rfl (by decide) ?_
  refine galoadN (v := (.ref x)) X hx 9 (hb hby own_d22_8) rfl rfl rfl ?_
  refine ggetF X hx hZ (host := "") hown (Or.inl (own_w28 hw)) Via.refl eT P3_Fld 12 (hb hby own_d22_9) rfl ?_
  clear X eT; clear T; intro T X eT
  refine giconst X hx (0 : Int32) 13 (hb hby own_d22_12) rfl rfl ?_
  refine galoadN (v := (.ref va)) X hx 14 (hb hby own_d22_13) rfl rfl rfl ?_
  refine giloadN (v := (8 : Int32)) X hx 15 (hb hby own_d22_14) rfl rfl ?_
  refine giloadN (v := (0 : Int32)) X hx 16 (hb hby own_d22_15) rfl rfl ?_
  refine gishl X hx 17 (hb hby own_d22_16) rfl ?_
  rw [show ((8 : Int32) <<< ((0 : Int32) &&& 31)) = (8 : Int32) from by decide]
  refine galoadN (v := (.ref x)) X hx 18 (hb hby own_d22_17) rfl rfl rfl ?_
  refine ggetF X hx hZ (host := "") hown (Or.inl (own_w28 hw)) Via.refl eT P3_Fld 21 (hb hby own_d22_18) rfl ?_
  clear X eT; clear T; intro T X eT
  refine garrlen X hx hZ eT P4_Arv 22 (hb hby own_d22_21) rfl ?_
  refine gcpA (st := []) X hx hZ hown (own_w127 hw) (own_w130 hw) (own_w128 hw) (own_w129 hw) eT (by rw [hml]; rfl) P4_Arv P5_Arv rfl 0 8 11 rfl rfl rfl (by decide) (by decide) (by decide) (by decide) (by decide) (Nat.le_of_ble_eq_true rfl) ([(.int bx0), (.int bx1), (.int bx2), (.int bx3), (.int bx4), (.int bx5), (.int bx6), (.int bx7), (.int cx0), (.int cx1), (.int cx2), (.int cx3), (.int cx4), (.int cx5), (.int cx6), (.int cx7), (.int cx8), (.int cx9), (.int cx10), (.int 0), (.int 0), (.int 0), (.int 0), (.int 0), (.int 0), (.int 0), (.int 0), (.int 0), (.int 0), (.int 0), (.int 0), (.int 0), (.int 0), (.int 0)] : List Value) rfl N ge_va (by decide) 0 (Nat.le_of_eq rfl) (by decide) 25 (hb hby own_d22_22) rfl ?_
  clear X eT N; clear T; intro T h5 L X eT N K6 V7
  have ne_x_va : x ≠ va := Exa.neArv P1_Exa P5_Arv (own_w1 hw)
  replace P0_Old := P0_Old.keep K6 (allS ge_va all0)
  replace P1_Exa := P1_Exa.keep K6
  replace P2_Fld := P2_Fld.keep K6 (ninS ne_x_va nin0)
  replace P3_Fld := P3_Fld.keep K6 (ninS ne_x_va nin0)
  replace P4_Arv := P4_Arv.keep K6 (ninS ntv nin0)
  replace K0 := K0.trans K6 (allS (Or.inl (List.mem_of_getElem? (i := 0) rfl)) all0)
  replace sz_h : h0.size ≤ h5.size := Nat.le_trans sz_h K6.1
  show Go p e below _ T (mkF m 25 #[.val (.ref x), .val (.ref va), .val (.int 8), .val (.int 0)] [])
  refine ggoto X hx 43 (hb hby own_d22_25) (by decide) (by decide) ?_
  exact gRetP0 X hx hlk hret (hb hby own_d22_43) eT (by decide) (by decide) ⟨rfl, N, K0, V7⟩
set_option maxRecDepth 65536 in
set_option maxHeartbeats 40000000 in
theorem rmPA8_11_34 (l : Launch) (Z : State) (a0 : Array Value) (hw : HW_ a0 Z) (sb : Addr) (x : Addr) (t : Addr) (va : Addr) (kt : ClassId) (kv : ClassId) (G1 : Int32) (bx0 : Int32) (bx1 : Int32) (bx2 : Int32) (bx3 : Int32) (bx4 : Int32) (bx5 : Int32) (bx6 : Int32) (bx7 : Int32) (cx0 : Int32) (cx1 : Int32) (cx2 : Int32) (cx3 : Int32) (cx4 : Int32) (cx5 : Int32) (cx6 : Int32) (cx7 : Int32) (cx8 : Int32) (cx9 : Int32) (cx10 : Int32) (h0 : Heap) (n0 : Nat) (Z0 : n0 ≤ h0.size) (ge_va : n0 ≤ va) (P0_Old : Old Z n0 h0) (P1_Exa : Exa Z h0 sb "java/lang/StringBuilder") (P2_Fld : Fld Z h0 sb "java/lang/AbstractStringBuilder" "value" "[B" (.ref va)) (P3_Fld : Fld Z h0 sb "java/lang/AbstractStringBuilder" "coder" "B" (.int 0)) (P4_Exa : Exa Z h0 x "java/lang/String") (P5_Fld : Fld Z h0 x "java/lang/String" "coder" "B" (.int 0)) (P6_Fld : Fld Z h0 x "java/lang/String" "value" "[B" (.ref t)) (P7_Arv : Arv Z h0 t kt .byte (11 : Int32) [(.int cx0), (.int cx1), (.int cx2), (.int cx3), (.int cx4), (.int cx5), (.int cx6), (.int cx7), (.int cx8), (.int cx9), (.int cx10)] (.int 0)) (P8_Arv : Arv Z h0 va kv .byte (34 : Int32) [(.int bx0), (.int bx1), (.int bx2), (.int bx3), (.int bx4), (.int bx5), (.int bx6), (.int bx7), (.int 0), (.int 0), (.int 0), (.int 0), (.int 0), (.int 0), (.int 0), (.int 0), (.int 0), (.int 0), (.int 0), (.int 0), (.int 0), (.int 0), (.int 0), (.int 0), (.int 0), (.int 0), (.int 0), (.int 0), (.int 0), (.int 0), (.int 0), (.int 0), (.int 0), (.int 0)] (.int 0)) (O2 : Sta Z Z.heap "java/lang/String" "COMPACT_STRINGS" "Z" (.int G1)) (P5 : ¬ G1 = (0 : Int32)) (ntv : t ≠ va) :
    CtP l (⟨"java/lang/AbstractStringBuilder", "putStringAt", "(ILjava/lang/String;)V"⟩ : MethodName) jdk_68_method_73_code 3 none [] ({ frames := 2, cells := 0, slots := 0, locals := 33 } : Room) Z #[(.ref sb), (.int 8), (.ref x)] h0 (fun v h L => v = none ∧ Fr n0 L ∧ Keep h0 h [va] ∧ Arv Z h va kv .byte (34 : Int32) [(.int bx0), (.int bx1), (.int bx2), (.int bx3), (.int bx4), (.int bx5), (.int bx6), (.int bx7), (.int cx0), (.int cx1), (.int cx2), (.int cx3), (.int cx4), (.int cx5), (.int cx6), (.int cx7), (.int cx8), (.int cx9), (.int cx10), (.int 0), (.int 0), (.int 0), (.int 0), (.int 0), (.int 0), (.int 0), (.int 0), (.int 0), (.int 0), (.int 0), (.int 0), (.int 0), (.int 0), (.int 0)] (.int 0)) := by
  refine CtP.walk (Ls := #[.val (.ref sb), .val (.int 8), .val (.ref x)]) (plainFor_of_name own_pn0) (fun m => by first | (simp [entryFrame, mkF, argsToLocals, Value.category]; done) | rfl) ?_
  intro p e s m below meth cc_ T hx hby hml hown hnm hret hlk hZ X eT
  have N := Fr.nil n0
  have K0 := Keep.refl h0 [va]
  have sz_h : h0.size ≤ h0.size := Nat.le_refl _
  refine galoadN (v := (.ref sb)) X hx 1 (hb hby own_d20_0) rfl rfl rfl ?_
  refine galoadN (v := (.ref x)) X hx 2 (hb hby own_d20_1) rfl rfl rfl ?_
  refine gpriv (y := (⟨"java/lang/AbstractStringBuilder", "inflateIfNeededFor", "(Ljava/lang/String;)V"⟩ : MethodName)) (a := sb) (argsL := [(.ref x)]) (st := []) X hx hZ hown (own_w116 hw) (own_w117 hw) (nf_sel (args := #[]) (mvT hZ (own_w109 hw)) rfl) (own_w118 hw) (own_w120 hw) (by decide) P1_Exa (payP (W := 0) (rm21 l Z a0 hw (sb) (x) (G1) h0 n0 (Nat.le_trans Z0 sz_h) P0_Old P4_Exa P3_Fld P5_Fld (O2) (P5)) hZ (own_w120 hw) (own_w75 hw) (by decide) (by decide)) eT (by rw [hml]; rfl) (lenOf own_pd2 rfl) rfl (Nat.le_of_eq rfl) 0 0 rfl rfl (by decide) (by decide) 5 (hb hby own_d20_2) rfl ?_
  clear X eT; clear T; intro v T h1 L2 Lc X eT hL hQ2
  obtain ⟨rfl, Nq, hh⟩ := hQ2
  replace N : Fr n0 L2 := by rw [hL]; exact Fr.app N Nq
  clear Nq hL
  replace hh := hh.symm; subst hh
  show Go p e below _ T (mkF m 5 #[.val (.ref sb), .val (.int 8), .val (.ref x)] [])
  refine galoadN (v := (.ref x)) X hx 6 (hb hby own_d20_5) rfl rfl rfl ?_
  refine galoadN (v := (.ref sb)) X hx 7 (hb hby own_d20_6) rfl rfl rfl ?_
  refine ggetF X hx hZ (host := "") hown (Or.inl (own_w79 hw)) Via.refl eT P2_Fld 10 (hb hby own_d20_7) rfl ?_
  clear X eT; clear T; intro T X eT
  refine giloadN (v := (8 : Int32)) X hx 11 (hb hby own_d20_10) rfl rfl ?_
  refine galoadN (v := (.ref sb)) X hx 12 (hb hby own_d20_11) rfl rfl rfl ?_
  refine ggetF X hx hZ (host := "") hown (Or.inl (own_w81 hw)) Via.refl eT P3_Fld 15 (hb hby own_d20_12) rfl ?_
  clear X eT; clear T; intro T X eT
  refine gvirtual (y := (⟨"java/lang/String", "getBytes", "([BIB)V"⟩ : MethodName)) (z := (⟨"java/lang/String", "getBytes", "([BIB)V"⟩ : MethodName)) (a := x) (argsL := [(.ref va), (.int 8), (.int 0)]) (st := []) X hx hZ hown (own_w122 hw) (own_w123 hw) (notFace_of_selects (args := #[]) (mvT hZ (own_w125 hw))) (own_w125 hw) (own_w124 hw) (by decide) P4_Exa (payP (W := 0) (rmGB8_11_34 l Z a0 hw (x) (t) (va) (kt) (kv) (G1) (bx0) (bx1) (bx2) (bx3) (bx4) (bx5) (bx6) (bx7) (cx0) (cx1) (cx2) (cx3) (cx4) (cx5) (cx6) (cx7) (cx8) (cx9) (cx10) h0 n0 (Nat.le_trans Z0 sz_h) ge_va P0_Old P4_Exa P5_Fld P6_Fld P7_Arv P8_Arv (O2) (P5) (ntv)) hZ (own_w126 hw) (own_w2 hw) (by decide) (by decide)) eT (by rw [hml]; rfl) (lenOf own_pd3 rfl) rfl (Nat.le_of_eq rfl) 0 0 rfl rfl (by decide) (by decide) 18 (hb hby own_d20_15) rfl ?_
  clear X eT; clear T; intro v T h5 L2 Lc X eT hL hQ6
  obtain ⟨rfl, Nq, K7, G9⟩ := hQ6
  replace N : Fr n0 L2 := by rw [hL]; exact Fr.app N Nq
  clear Nq hL
  have ne_sb_va : sb ≠ va := Exa.neArv P1_Exa P8_Arv (own_w66 hw)
  have ne_x_va : x ≠ va := Exa.neArv P4_Exa P8_Arv (own_w1 hw)
  replace P0_Old := P0_Old.keep K7 (allS ge_va all0)
  replace P1_Exa := P1_Exa.keep K7
  replace P2_Fld := P2_Fld.keep K7 (ninS ne_sb_va nin0)
  replace P3_Fld := P3_Fld.keep K7 (ninS ne_sb_va nin0)
  replace P4_Exa := P4_Exa.keep K7
  replace P5_Fld := P5_Fld.keep K7 (ninS ne_x_va nin0)
  replace P6_Fld := P6_Fld.keep K7 (ninS ne_x_va nin0)
  replace P7_Arv := P7_Arv.keep K7 (ninS ntv nin0)
  replace K0 := K0.trans K7 (allS (Or.inl (List.mem_of_getElem? (i := 0) rfl)) all0)
  replace sz_h : h0.size ≤ h5.size := Nat.le_trans sz_h K7.1
  show Go p e below _ T (mkF m 18 #[.val (.ref sb), .val (.int 8), .val (.ref x)] [])
  exact gRetP0 X hx hlk hret (hb hby own_d20_18) eT (by decide) (by decide) ⟨rfl, N, K0, G9⟩
set_option maxRecDepth 65536 in
set_option maxHeartbeats 40000000 in
theorem rmAA8_11_16 (l : Launch) (Z : State) (a0 : Array Value) (hw : HW_ a0 Z) (sb : Addr) (x : Addr) (t : Addr) (va : Addr) (kt : ClassId) (kv : ClassId) (G1 : Int32) (bx0 : Int32) (bx1 : Int32) (bx2 : Int32) (bx3 : Int32) (bx4 : Int32) (bx5 : Int32) (bx6 : Int32) (bx7 : Int32) (cx0 : Int32) (cx1 : Int32) (cx2 : Int32) (cx3 : Int32) (cx4 : Int32) (cx5 : Int32) (cx6 : Int32) (cx7 : Int32) (cx8 : Int32) (cx9 : Int32) (cx10 : Int32) (h0 : Heap) (n0 : Nat) (Z0 : n0 ≤ h0.size) (ge_sb : n0 ≤ sb) (P0_Old : Old Z n0 h0) (P1_Exa : Exa Z h0 sb "java/lang/StringBuilder") (P2_Fld : Fld Z h0 sb "java/lang/AbstractStringBuilder" "value" "[B" (.ref va)) (P3_Fld : Fld Z h0 sb "java/lang/AbstractStringBuilder" "coder" "B" (.int 0)) (P4_Fld : Fld Z h0 sb "java/lang/AbstractStringBuilder" "count" "I" (.int 8)) (P5_Exa : Exa Z h0 x "java/lang/String") (P6_Fld : Fld Z h0 x "java/lang/String" "coder" "B" (.int 0)) (P7_Fld : Fld Z h0 x "java/lang/String" "value" "[B" (.ref t)) (P8_Arv : Arv Z h0 t kt .byte (11 : Int32) [(.int cx0), (.int cx1), (.int cx2), (.int cx3), (.int cx4), (.int cx5), (.int cx6), (.int cx7), (.int cx8), (.int cx9), (.int cx10)] (.int 0)) (P9_Arv : Arv Z h0 va kv .byte (16 : Int32) [(.int bx0), (.int bx1), (.int bx2), (.int bx3), (.int bx4), (.int bx5), (.int bx6), (.int bx7), (.int 0), (.int 0), (.int 0), (.int 0), (.int 0), (.int 0), (.int 0), (.int 0)] (.int 0)) (O2 : Sta Z Z.heap "java/lang/String" "COMPACT_STRINGS" "Z" (.int G1)) (P5 : ¬ G1 = (0 : Int32)) :
    CtP l (⟨"java/lang/AbstractStringBuilder", "append", "(Ljava/lang/String;)Ljava/lang/AbstractStringBuilder;"⟩ : MethodName) jdk_68_method_22_code 3 (some (.object "java/lang/AbstractStringBuilder")) [] ({ frames := 4, cells := 1, slots := 34, locals := 62 } : Room) Z #[(.ref sb), (.ref x)] h0 (fun v h L => ∃ (vb : Addr), ∃ (kw : ClassId), v = some (.ref sb) ∧ Fr n0 L ∧ Keep h0 h [sb] ∧ h0.size ≤ vb ∧ Fld Z h sb "java/lang/AbstractStringBuilder" "value" "[B" (.ref vb) ∧ Fld Z h sb "java/lang/AbstractStringBuilder" "coder" "B" (.int 0) ∧ Fld Z h sb "java/lang/AbstractStringBuilder" "count" "I" (.int 19) ∧ Arv Z h vb kw .byte (34 : Int32) [(.int bx0), (.int bx1), (.int bx2), (.int bx3), (.int bx4), (.int bx5), (.int bx6), (.int bx7), (.int cx0), (.int cx1), (.int cx2), (.int cx3), (.int cx4), (.int cx5), (.int cx6), (.int cx7), (.int cx8), (.int cx9), (.int cx10), (.int 0), (.int 0), (.int 0), (.int 0), (.int 0), (.int 0), (.int 0), (.int 0), (.int 0), (.int 0), (.int 0), (.int 0), (.int 0), (.int 0), (.int 0)] (.int 0)) := by
  refine CtP.walk (Ls := #[.val (.ref sb), .val (.ref x), .unset]) (plainFor_of_name own_pn0) (fun m => by first | (simp [entryFrame, mkF, argsToLocals, Value.category]; done) | rfl) ?_
  intro p e s m below meth cc_ T hx hby hml hown hnm hret hlk hZ X eT
  have N := Fr.nil n0
  have K0 := Keep.refl h0 [sb]
  have sz_h : h0.size ≤ h0.size := Nat.le_refl _
  refine galoadN (v := (.ref x)) X hx 1 (hb hby own_d16_0) rfl rfl rfl ?_
  refine gifnonnullYes X hx 9 (hb hby own_d16_1) (by decide) (by decide) ?_
  refine galoadN (v := (.ref x)) X hx 10 (hb hby own_d16_9) rfl rfl rfl ?_
  refine gvirtual (y := (⟨"java/lang/String", "length", "()I"⟩ : MethodName)) (z := (⟨"java/lang/String", "length", "()I"⟩ : MethodName)) (a := x) (argsL := []) (st := []) X hx hZ hown (own_w94 hw) (own_w95 hw) (notFace_of_selects (args := #[]) (mvT hZ (own_w97 hw))) (own_w97 hw) (own_w96 hw) (by decide) P5_Exa (payP (W := 0) (rmSL11 l Z a0 hw (x) (t) (kt) ([(.int cx0), (.int cx1), (.int cx2), (.int cx3), (.int cx4), (.int cx5), (.int cx6), (.int cx7), (.int cx8), (.int cx9), (.int cx10)]) (G1) h0 n0 (Nat.le_trans Z0 sz_h) P0_Old P5_Exa P6_Fld P7_Fld P8_Arv (O2) (P5)) hZ (own_w98 hw) (own_w2 hw) (by decide) (by decide)) eT (by rw [hml]; rfl) (lenOf own_pd4 rfl) rfl (Nat.le_of_eq rfl) 0 0 rfl rfl (by decide) (by decide) 13 (hb hby own_d16_10) rfl ?_
  clear X eT; clear T; intro v T h1 L2 Lc X eT hL hQ2
  obtain ⟨rfl, Nq, hh⟩ := hQ2
  replace N : Fr n0 L2 := by rw [hL]; exact Fr.app N Nq
  clear Nq hL
  replace hh := hh.symm; subst hh
  show Go p e below _ T (mkF m 13 #[.val (.ref sb), .val (.ref x), .unset] [(.int 11)])
  refine gistoreN X hx #[.val (.ref sb), .val (.ref x), .val (.int 11)] 14 (hb hby own_d16_13) rfl rfl ?_
  refine galoadN (v := (.ref sb)) X hx 15 (hb hby own_d16_14) rfl rfl rfl ?_
  refine galoadN (v := (.ref sb)) X hx 16 (hb hby own_d16_15) rfl rfl rfl ?_
  refine ggetF X hx hZ (host := "") hown (Or.inl (own_w104 hw)) Via.refl eT P4_Fld 19 (hb hby own_d16_16) rfl ?_
  clear X eT; clear T; intro T X eT
  refine giloadN (v := (11 : Int32)) X hx 20 (hb hby own_d16_19) rfl rfl ?_
  refine giadd X hx 21 (hb hby own_d16_20) rfl ?_
  rw [show ((8 : Int32) + (11 : Int32)) = (19 : Int32) from by decide]
  refine gpriv (y := (⟨"java/lang/AbstractStringBuilder", "ensureCapacityInternal", "(I)V"⟩ : MethodName)) (a := sb) (argsL := [(.int 19)]) (st := []) X hx hZ hown (own_w106 hw) (own_w107 hw) (nf_sel (args := #[]) (mvT hZ (own_w109 hw)) rfl) (own_w108 hw) (own_w110 hw) (by decide) P1_Exa (payP (W := 0) (rmEG8_19_16 l Z a0 hw (sb) (va) (kv) (bx0) (bx1) (bx2) (bx3) (bx4) (bx5) (bx6) (bx7) h0 n0 (Nat.le_trans Z0 sz_h) ge_sb P1_Exa P2_Fld P3_Fld P4_Fld P9_Arv) hZ (own_w110 hw) (own_w75 hw) (by decide) (by decide)) eT (by rw [hml]; rfl) (lenOf own_pd0 rfl) rfl (Nat.le_of_eq rfl) 1 34 rfl rfl (by decide) (by decide) 24 (hb hby own_d16_21) rfl ?_
  clear X eT; clear T; intro v T h5 L2 Lc X eT hL hQ6
  obtain ⟨vb_7, kw_8, rfl, Nq, K9, zz_vb_7, G11, G12, G13, G14⟩ := hQ6
  replace N : Fr n0 L2 := by rw [hL]; exact Fr.app N Nq
  clear Nq hL
  have ne_sb_vb_7 : sb ≠ vb_7 := Nat.ne_of_lt (Nat.lt_of_lt_of_le P1_Exa.lt zz_vb_7)
  have ne_vb_7_sb : vb_7 ≠ sb := Ne.symm ne_sb_vb_7
  have ne_x_vb_7 : x ≠ vb_7 := Nat.ne_of_lt (Nat.lt_of_lt_of_le P5_Exa.lt zz_vb_7)
  have ne_vb_7_x : vb_7 ≠ x := Ne.symm ne_x_vb_7
  have ne_t_vb_7 : t ≠ vb_7 := Nat.ne_of_lt (Nat.lt_of_lt_of_le P8_Arv.lt zz_vb_7)
  have ne_vb_7_t : vb_7 ≠ t := Ne.symm ne_t_vb_7
  have ne_va_vb_7 : va ≠ vb_7 := Nat.ne_of_lt (Nat.lt_of_lt_of_le P9_Arv.lt zz_vb_7)
  have ne_vb_7_va : vb_7 ≠ va := Ne.symm ne_va_vb_7
  have sz_vb_7 : h0.size ≤ vb_7 := Nat.le_trans sz_h zz_vb_7
  have ge_vb_7 : n0 ≤ vb_7 := Nat.le_trans Z0 sz_vb_7
  have ne_x_sb : x ≠ sb := ne_exa P5_Exa P1_Exa (by decide)
  have ne_t_sb : t ≠ sb := Ne.symm (Exa.neArv P1_Exa P8_Arv (own_w66 hw))
  have ne_va_sb : va ≠ sb := Ne.symm (Exa.neArv P1_Exa P9_Arv (own_w66 hw))
  replace P0_Old := P0_Old.keep K9 (allS ge_sb all0)
  replace P1_Exa := P1_Exa.keep K9
  replace P5_Exa := P5_Exa.keep K9
  replace P6_Fld := P6_Fld.keep K9 (ninS ne_x_sb nin0)
  replace P7_Fld := P7_Fld.keep K9 (ninS ne_x_sb nin0)
  replace P8_Arv := P8_Arv.keep K9 (ninS ne_t_sb nin0)
  replace P9_Arv := P9_Arv.keep K9 (ninS ne_va_sb nin0)
  replace K0 := K0.trans K9 (allS (Or.inl (List.mem_of_getElem? (i := 0) rfl)) all0)
  replace sz_h : h0.size ≤ h5.size := Nat.le_trans sz_h K9.1
  show Go p e below _ T (mkF m 24 #[.val (.ref sb), .val (.ref x), .val (.int 11)] [])
  refine galoadN (v := (.ref sb)) X hx 25 (hb hby own_d16_24) rfl rfl rfl ?_
  refine galoadN (v := (.ref sb)) X hx 26 (hb hby own_d16_25) rfl rfl rfl ?_
  refine ggetF X hx hZ (host := "") hown (Or.inl (own_w104 hw)) Via.refl eT G13 29 (hb hby own_d16_26) rfl ?_
  clear X eT; clear T; intro T X eT
  refine galoadN (v := (.ref x)) X hx 30 (hb hby own_d16_29) rfl rfl rfl ?_
  refine gpriv (y := (⟨"java/lang/AbstractStringBuilder", "putStringAt", "(ILjava/lang/String;)V"⟩ : MethodName)) (a := sb) (argsL := [(.int 8), (.ref x)]) (st := []) X hx hZ hown (own_w111 hw) (own_w112 hw) (nf_sel (args := #[]) (mvT hZ (own_w109 hw)) rfl) (own_w113 hw) (own_w115 hw) (by decide) P1_Exa (payP (W := 0) (rmPA8_11_34 l Z a0 hw (sb) (x) (t) (vb_7) (kt) (kw_8) (G1) (bx0) (bx1) (bx2) (bx3) (bx4) (bx5) (bx6) (bx7) (cx0) (cx1) (cx2) (cx3) (cx4) (cx5) (cx6) (cx7) (cx8) (cx9) (cx10) h5 n0 (Nat.le_trans Z0 sz_h) ge_vb_7 P0_Old P1_Exa G11 G12 P5_Exa P6_Fld P7_Fld P8_Arv G14 (O2) (P5) (ne_t_vb_7)) hZ (own_w115 hw) (own_w75 hw) (by decide) (by decide)) eT (by rw [hml]; rfl) (lenOf own_pd5 rfl) rfl (Nat.le_of_eq rfl) 1 34 rfl rfl (by decide) (by decide) 33 (hb hby own_d16_30) rfl ?_
  clear X eT; clear T; intro v T h15 L2 Lc X eT hL hQ16
  obtain ⟨rfl, Nq, K17, G19⟩ := hQ16
  replace N : Fr n0 L2 := by rw [hL]; exact Fr.app N Nq
  clear Nq hL
  replace P0_Old := P0_Old.keep K17 (allS ge_vb_7 all0)
  replace P1_Exa := P1_Exa.keep K17
  replace P5_Exa := P5_Exa.keep K17
  replace P6_Fld := P6_Fld.keep K17 (ninS ne_x_vb_7 nin0)
  replace P7_Fld := P7_Fld.keep K17 (ninS ne_x_vb_7 nin0)
  replace P8_Arv := P8_Arv.keep K17 (ninS ne_t_vb_7 nin0)
  replace P9_Arv := P9_Arv.keep K17 (ninS ne_va_vb_7 nin0)
  replace G11 := G11.keep K17 (ninS ne_sb_vb_7 nin0)
  replace G12 := G12.keep K17 (ninS ne_sb_vb_7 nin0)
  replace G13 := G13.keep K17 (ninS ne_sb_vb_7 nin0)
  replace K0 := K0.trans K17 (allS (Or.inr sz_vb_7) all0)
  replace sz_h : h0.size ≤ h15.size := Nat.le_trans sz_h K17.1
  show Go p e below _ T (mkF m 33 #[.val (.ref sb), .val (.ref x), .val (.int 11)] [])
  refine galoadN (v := (.ref sb)) X hx 34 (hb hby own_d16_33) rfl rfl rfl ?_
  refine gdup X hx 35 (hb hby own_d16_34) rfl rfl ?_
  refine ggetF X hx hZ (host := "") hown (Or.inl (own_w104 hw)) Via.refl eT G13 38 (hb hby own_d16_35) rfl ?_
  clear X eT; clear T; intro T X eT
  refine giloadN (v := (11 : Int32)) X hx 39 (hb hby own_d16_38) rfl rfl ?_
  refine giadd X hx 40 (hb hby own_d16_39) rfl ?_
  rw [show ((8 : Int32) + (11 : Int32)) = (19 : Int32) from by decide]
  refine gputF X hx hZ (host := "") hown (Or.inl (own_w104 hw)) Via.refl eT G13 P1_Exa (Or.inl (own_w105 hw)) (own_w66 hw) (ty := .int) own_pf2 rfl rfl N ge_sb 43 (hb hby own_d16_40) rfl ?_
  clear X eT N; clear T; intro T h20 L X eT N W21
  replace P0_Old := P0_Old.wr W21 ge_sb
  replace P1_Exa := P1_Exa.wr W21
  replace P5_Exa := P5_Exa.wr W21
  replace P6_Fld := P6_Fld.other W21 (Or.inl ne_x_sb)
  replace P7_Fld := P7_Fld.other W21 (Or.inl ne_x_sb)
  replace P8_Arv := P8_Arv.other W21 ne_t_sb
  replace P9_Arv := P9_Arv.other W21 ne_va_sb
  replace G11 := G11.other W21 (Or.inr (slot_ne (Or.inl (own_w80 hw)) (Or.inl (own_w105 hw)) (by decide) own_pf0 own_pf2))
  replace G12 := G12.other W21 (Or.inr (slot_ne (Or.inl (own_w82 hw)) (Or.inl (own_w105 hw)) (by decide) own_pf1 own_pf2))
  replace G13 := G13.same W21
  replace G19 := G19.other W21 ne_vb_7_sb
  replace K0 := K0.wr W21 (Or.inl (List.mem_of_getElem? (i := 0) rfl))
  replace sz_h : h0.size ≤ h20.size := by rw [Wr.size W21]; exact sz_h
  refine galoadN (v := (.ref sb)) X hx 44 (hb hby own_d16_43) rfl rfl rfl ?_
  exact gRetP X hx hlk hret rfl (Or.inr (Or.inr (Or.inr (Or.inr ⟨rfl, rfl, rfl⟩)))) (hb hby own_d16_44) eT (by decide) (by decide) ⟨vb_7, kw_8, rfl, N, K0, sz_vb_7, G11, G12, G13, G19⟩
set_option maxRecDepth 65536 in
set_option maxHeartbeats 40000000 in
theorem rmSA8_11_16 (l : Launch) (Z : State) (a0 : Array Value) (hw : HW_ a0 Z) (sb : Addr) (x : Addr) (t : Addr) (va : Addr) (kt : ClassId) (kv : ClassId) (G1 : Int32) (bx0 : Int32) (bx1 : Int32) (bx2 : Int32) (bx3 : Int32) (bx4 : Int32) (bx5 : Int32) (bx6 : Int32) (bx7 : Int32) (cx0 : Int32) (cx1 : Int32) (cx2 : Int32) (cx3 : Int32) (cx4 : Int32) (cx5 : Int32) (cx6 : Int32) (cx7 : Int32) (cx8 : Int32) (cx9 : Int32) (cx10 : Int32) (h0 : Heap) (n0 : Nat) (Z0 : n0 ≤ h0.size) (ge_sb : n0 ≤ sb) (P0_Old : Old Z n0 h0) (P1_Exa : Exa Z h0 sb "java/lang/StringBuilder") (P2_Fld : Fld Z h0 sb "java/lang/AbstractStringBuilder" "value" "[B" (.ref va)) (P3_Fld : Fld Z h0 sb "java/lang/AbstractStringBuilder" "coder" "B" (.int 0)) (P4_Fld : Fld Z h0 sb "java/lang/AbstractStringBuilder" "count" "I" (.int 8)) (P5_Exa : Exa Z h0 x "java/lang/String") (P6_Fld : Fld Z h0 x "java/lang/String" "coder" "B" (.int 0)) (P7_Fld : Fld Z h0 x "java/lang/String" "value" "[B" (.ref t)) (P8_Arv : Arv Z h0 t kt .byte (11 : Int32) [(.int cx0), (.int cx1), (.int cx2), (.int cx3), (.int cx4), (.int cx5), (.int cx6), (.int cx7), (.int cx8), (.int cx9), (.int cx10)] (.int 0)) (P9_Arv : Arv Z h0 va kv .byte (16 : Int32) [(.int bx0), (.int bx1), (.int bx2), (.int bx3), (.int bx4), (.int bx5), (.int bx6), (.int bx7), (.int 0), (.int 0), (.int 0), (.int 0), (.int 0), (.int 0), (.int 0), (.int 0)] (.int 0)) (O2 : Sta Z Z.heap "java/lang/String" "COMPACT_STRINGS" "Z" (.int G1)) (P5 : ¬ G1 = (0 : Int32)) :
    CtP l (⟨"java/lang/StringBuilder", "append", "(Ljava/lang/String;)Ljava/lang/StringBuilder;"⟩ : MethodName) jdk_67_method_7_code 2 (some (.object "java/lang/StringBuilder")) [] ({ frames := 5, cells := 1, slots := 34, locals := 76 } : Room) Z #[(.ref sb), (.ref x)] h0 (fun v h L => ∃ (vb : Addr), ∃ (kw : ClassId), v = some (.ref sb) ∧ Fr n0 L ∧ Keep h0 h [sb] ∧ h0.size ≤ vb ∧ Fld Z h sb "java/lang/AbstractStringBuilder" "value" "[B" (.ref vb) ∧ Fld Z h sb "java/lang/AbstractStringBuilder" "coder" "B" (.int 0) ∧ Fld Z h sb "java/lang/AbstractStringBuilder" "count" "I" (.int 19) ∧ Arv Z h vb kw .byte (34 : Int32) [(.int bx0), (.int bx1), (.int bx2), (.int bx3), (.int bx4), (.int bx5), (.int bx6), (.int bx7), (.int cx0), (.int cx1), (.int cx2), (.int cx3), (.int cx4), (.int cx5), (.int cx6), (.int cx7), (.int cx8), (.int cx9), (.int cx10), (.int 0), (.int 0), (.int 0), (.int 0), (.int 0), (.int 0), (.int 0), (.int 0), (.int 0), (.int 0), (.int 0), (.int 0), (.int 0), (.int 0), (.int 0)] (.int 0)) := by
  refine CtP.walk (Ls := #[.val (.ref sb), .val (.ref x)]) (plainFor_of_name own_pn1) (fun m => by first | (simp [entryFrame, mkF, argsToLocals, Value.category]; done) | rfl) ?_
  intro p e s m below meth cc_ T hx hby hml hown hnm hret hlk hZ X eT
  have N := Fr.nil n0
  have K0 := Keep.refl h0 [sb]
  have sz_h : h0.size ≤ h0.size := Nat.le_refl _
  refine galoadN (v := (.ref sb)) X hx 1 (hb hby own_d15_0) rfl rfl rfl ?_
  refine galoadN (v := (.ref x)) X hx 2 (hb hby own_d15_1) rfl rfl rfl ?_
  refine gsuper (y := (⟨"java/lang/AbstractStringBuilder", "append", "(Ljava/lang/String;)Ljava/lang/AbstractStringBuilder;"⟩ : MethodName)) (a := sb) (argsL := [(.ref x)]) (st := []) X hx hZ hown (own_w89 hw) (sm_sel (own_w90 hw) (own_w109 hw) rfl (by decide)) (own_w90 hw) (own_w91 hw) (by decide) (own_w93 hw) (Ins.self P1_Exa) (payP (W := 0) (rmAA8_11_16 l Z a0 hw (sb) (x) (t) (va) (kt) (kv) (G1) (bx0) (bx1) (bx2) (bx3) (bx4) (bx5) (bx6) (bx7) (cx0) (cx1) (cx2) (cx3) (cx4) (cx5) (cx6) (cx7) (cx8) (cx9) (cx10) h0 n0 (Nat.le_trans Z0 sz_h) ge_sb P0_Old P1_Exa P2_Fld P3_Fld P4_Fld P5_Exa P6_Fld P7_Fld P8_Arv P9_Arv (O2) (P5)) hZ (own_w93 hw) (own_w75 hw) (by decide) (by decide)) eT (by rw [hml]; rfl) (lenOf own_pd6 rfl) rfl (Nat.le_of_eq rfl) 1 34 rfl rfl (by decide) (by decide) 5 (hb hby own_d15_2) rfl ?_
  clear X eT; clear T; intro v T h1 L2 Lc X eT hL hQ2
  obtain ⟨vb_3, kw_4, rfl, Nq, K5, zz_vb_3, G7, G8, G9, G10⟩ := hQ2
  replace N : Fr n0 L2 := by rw [hL]; exact Fr.app N Nq
  clear Nq hL
  have ne_sb_vb_3 : sb ≠ vb_3 := Nat.ne_of_lt (Nat.lt_of_lt_of_le P1_Exa.lt zz_vb_3)
  have ne_vb_3_sb : vb_3 ≠ sb := Ne.symm ne_sb_vb_3
  have ne_x_vb_3 : x ≠ vb_3 := Nat.ne_of_lt (Nat.lt_of_lt_of_le P5_Exa.lt zz_vb_3)
  have ne_vb_3_x : vb_3 ≠ x := Ne.symm ne_x_vb_3
  have ne_t_vb_3 : t ≠ vb_3 := Nat.ne_of_lt (Nat.lt_of_lt_of_le P8_Arv.lt zz_vb_3)
  have ne_vb_3_t : vb_3 ≠ t := Ne.symm ne_t_vb_3
  have ne_va_vb_3 : va ≠ vb_3 := Nat.ne_of_lt (Nat.lt_of_lt_of_le P9_Arv.lt zz_vb_3)
  have ne_vb_3_va : vb_3 ≠ va := Ne.symm ne_va_vb_3
  have sz_vb_3 : h0.size ≤ vb_3 := Nat.le_trans sz_h zz_vb_3
  have ge_vb_3 : n0 ≤ vb_3 := Nat.le_trans Z0 sz_vb_3
  have ne_x_sb : x ≠ sb := ne_exa P5_Exa P1_Exa (by decide)
  have ne_t_sb : t ≠ sb := Ne.symm (Exa.neArv P1_Exa P8_Arv (own_w66 hw))
  have ne_va_sb : va ≠ sb := Ne.symm (Exa.neArv P1_Exa P9_Arv (own_w66 hw))
  replace P0_Old := P0_Old.keep K5 (allS ge_sb all0)
  replace P1_Exa := P1_Exa.keep K5
  replace P5_Exa := P5_Exa.keep K5
  replace P6_Fld := P6_Fld.keep K5 (ninS ne_x_sb nin0)
  replace P7_Fld := P7_Fld.keep K5 (ninS ne_x_sb nin0)
  replace P8_Arv := P8_Arv.keep K5 (ninS ne_t_sb nin0)
  replace P9_Arv := P9_Arv.keep K5 (ninS ne_va_sb nin0)
  replace K0 := K0.trans K5 (allS (Or.inl (List.mem_of_getElem? (i := 0) rfl)) all0)
  replace sz_h : h0.size ≤ h1.size := Nat.le_trans sz_h K5.1
  show Go p e below _ T (mkF m 5 #[.val (.ref sb), .val (.ref x)] [(.ref sb)])
  refine gpop X hx 6 (hb hby own_d15_5) rfl rfl ?_
  refine galoadN (v := (.ref sb)) X hx 7 (hb hby own_d15_6) rfl rfl rfl ?_
  exact gRetP X hx hlk hret rfl (Or.inr (Or.inr (Or.inr (Or.inr ⟨rfl, rfl, rfl⟩)))) (hb hby own_d15_7) eT (by decide) (by decide) ⟨vb_3, kw_4, rfl, N, K0, sz_vb_3, G7, G8, G9, G10⟩
set_option maxRecDepth 65536 in
set_option maxHeartbeats 40000000 in
theorem rmSL7 (l : Launch) (Z : State) (a0 : Array Value) (hw : HW_ a0 Z) (x : Addr) (t : Addr) (kt : ClassId) (vs0 : List Value) (G1 : Int32) (h0 : Heap) (n0 : Nat) (Z0 : n0 ≤ h0.size) (P0_Old : Old Z n0 h0) (P1_Exa : Exa Z h0 x "java/lang/String") (P2_Fld : Fld Z h0 x "java/lang/String" "coder" "B" (.int 0)) (P3_Fld : Fld Z h0 x "java/lang/String" "value" "[B" (.ref t)) (P4_Arv : Arv Z h0 t kt .byte (7 : Int32) vs0 (.int 0)) (O2 : Sta Z Z.heap "java/lang/String" "COMPACT_STRINGS" "Z" (.int G1)) (P5 : ¬ G1 = (0 : Int32)) :
    CtP l (⟨"java/lang/String", "length", "()I"⟩ : MethodName) jdk_42_method_54_code 1 (some .int) [] ({ frames := 1, cells := 0, slots := 0, locals := 13 } : Room) Z #[(.ref x)] h0 (fun v h L => v = some (.int 7) ∧ Fr n0 L ∧ h = h0) := by
  refine CtP.walk (Ls := #[.val (.ref x)]) own_pn3 (fun m => by first | (simp [entryFrame, mkF, argsToLocals, Value.category]; done) | rfl) ?_
  intro p e s m below meth cc_ T hx hby hml hown hnm hret hlk hZ X eT
  have N := Fr.nil n0
  have sz_h : h0.size ≤ h0.size := Nat.le_refl _
  refine galoadN (v := (.ref x)) X hx 1 (hb hby own_d17_0) rfl rfl rfl ?_
  refine ggetF X hx hZ (host := "") hown (Or.inl (own_w28 hw)) Via.refl eT P3_Fld 4 (hb hby own_d17_1) rfl ?_
  clear X eT; clear T; intro T X eT
  refine garrlen X hx hZ eT P4_Arv 5 (hb hby own_d17_4) rfl ?_
  refine galoadN (v := (.ref x)) X hx 6 (hb hby own_d17_5) rfl rfl rfl ?_
  refine gvirtual (y := (⟨"java/lang/String", "coder", "()B"⟩ : MethodName)) (z := (⟨"java/lang/String", "coder", "()B"⟩ : MethodName)) (a := x) (argsL := []) (st := [(.int 7)]) X hx hZ hown (own_w99 hw) (own_w100 hw) (notFace_of_selects (args := #[]) (mvT hZ (own_w102 hw))) (own_w102 hw) (own_w101 hw) (by decide) P1_Exa (payP (W := 1) (rm18 l Z a0 hw (x) (G1) h0 n0 (Nat.le_trans Z0 sz_h) P0_Old P2_Fld (O2) (P5)) hZ (own_w103 hw) (own_w2 hw) (by decide) (by decide)) eT (by rw [hml]; rfl) (lenOf own_pd1 rfl) rfl (Nat.le_of_eq rfl) 0 0 rfl rfl (by decide) (by decide) 9 (hb hby own_d17_6) rfl ?_
  clear X eT; clear T; intro v T h1 L2 Lc X eT hL hQ2
  obtain ⟨rfl, Nq, hh⟩ := hQ2
  replace N : Fr n0 L2 := by rw [hL]; exact Fr.app N Nq
  clear Nq hL
  replace hh := hh.symm; subst hh
  show Go p e below _ T (mkF m 9 #[.val (.ref x)] [(.int 0), (.int 7)])
  refine gishr X hx 10 (hb hby own_d17_9) rfl ?_
  rw [show ((7 : Int32) >>> ((0 : Int32) &&& 31)) = (7 : Int32) from by decide]
  exact gRetP X hx hlk hret rfl (Or.inl ⟨rfl, by simp, _, rfl⟩) (hb hby own_d17_10) eT (by decide) (by decide) ⟨rfl, N, rfl⟩
set_option maxRecDepth 65536 in
set_option maxHeartbeats 40000000 in
theorem rmEC7_16 (l : Launch) (Z : State) (a0 : Array Value) (hw : HW_ a0 Z) (sb : Addr) (va : Addr) (kv : ClassId) (vs0 : List Value) (h0 : Heap) (n0 : Nat) (Z0 : n0 ≤ h0.size) (P0_Fld : Fld Z h0 sb "java/lang/AbstractStringBuilder" "value" "[B" (.ref va)) (P1_Fld : Fld Z h0 sb "java/lang/AbstractStringBuilder" "coder" "B" (.int 0)) (P2_Arv : Arv Z h0 va kv .byte (16 : Int32) vs0 (.int 0)) :
    CtP l (⟨"java/lang/AbstractStringBuilder", "ensureCapacityInternal", "(I)V"⟩ : MethodName) jdk_68_method_9_code 3 none [] ({ frames := 0, cells := 0, slots := 0, locals := 0 } : Room) Z #[(.ref sb), (.int 7)] h0 (fun v h L => v = none ∧ Fr n0 L ∧ h = h0) := by
  refine CtP.walk (Ls := #[.val (.ref sb), .val (.int 7), .unset]) (plainFor_of_name own_pn0) (fun m => by first | (simp [entryFrame, mkF, argsToLocals, Value.category]; done) | rfl) ?_
  intro p e s m below meth cc_ T hx hby hml hown hnm hret hlk hZ X eT
  have N := Fr.nil n0
  have sz_h : h0.size ≤ h0.size := Nat.le_refl _
  refine galoadN (v := (.ref sb)) X hx 1 (hb hby own_d19_0) rfl rfl rfl ?_
  refine ggetF X hx hZ (host := "") hown (Or.inl (own_w79 hw)) Via.refl eT P0_Fld 4 (hb hby own_d19_1) rfl ?_
  clear X eT; clear T; intro T X eT
  refine garrlen X hx hZ eT P2_Arv 5 (hb hby own_d19_4) rfl ?_
  refine galoadN (v := (.ref sb)) X hx 6 (hb hby own_d19_5) rfl rfl rfl ?_
  refine ggetF X hx hZ (host := "") hown (Or.inl (own_w81 hw)) Via.refl eT P1_Fld 9 (hb hby own_d19_6) rfl ?_
  clear X eT; clear T; intro T X eT
  refine gishr X hx 10 (hb hby own_d19_9) rfl ?_
  rw [show ((16 : Int32) >>> ((0 : Int32) &&& 31)) = (16 : Int32) from by decide]
  refine gistoreN X hx #[.val (.ref sb), .val (.int 7), .val (.int 16)] 11 (hb hby own_d19_10) rfl rfl ?_
  refine giloadN (v := (7 : Int32)) X hx 12 (hb hby own_d19_11) rfl rfl ?_
  refine giloadN (v := (16 : Int32)) X hx 13 (hb hby own_d19_12) rfl rfl ?_
  refine gisub X hx 14 (hb hby own_d19_13) rfl ?_
  rw [show ((7 : Int32) - (16 : Int32)) = (-9 : Int32) from by decide]
  refine gifYes X hx 38 (hb hby own_d19_14) (by decide) (by decide) (by decide) ?_
  exact gRetP0 X hx hlk hret (hb hby own_d19_38) eT (by decide) (by decide) ⟨rfl, N, rfl⟩
set_option maxRecDepth 65536 in
set_option maxHeartbeats 40000000 in
theorem rmGB0_7_16 (l : Launch) (Z : State) (a0 : Array Value) (hw : HW_ a0 Z) (x : Addr) (t : Addr) (va : Addr) (kt : ClassId) (kv : ClassId) (G1 : Int32) (cx0 : Int32) (cx1 : Int32) (cx2 : Int32) (cx3 : Int32) (cx4 : Int32) (cx5 : Int32) (cx6 : Int32) (h0 : Heap) (n0 : Nat) (Z0 : n0 ≤ h0.size) (ge_va : n0 ≤ va) (P0_Old : Old Z n0 h0) (P1_Exa : Exa Z h0 x "java/lang/String") (P2_Fld : Fld Z h0 x "java/lang/String" "coder" "B" (.int 0)) (P3_Fld : Fld Z h0 x "java/lang/String" "value" "[B" (.ref t)) (P4_Arv : Arv Z h0 t kt .byte (7 : Int32) [(.int cx0), (.int cx1), (.int cx2), (.int cx3), (.int cx4), (.int cx5), (.int cx6)] (.int 0)) (P5_Arv : Arv Z h0 va kv .byte (16 : Int32) [(.int 0), (.int 0), (.int 0), (.int 0), (.int 0), (.int 0), (.int 0), (.int 0), (.int 0), (.int 0), (.int 0), (.int 0), (.int 0), (.int 0), (.int 0), (.int 0)] (.int 0)) (O2 : Sta Z Z.heap "java/lang/String" "COMPACT_STRINGS" "Z" (.int G1)) (P5 : ¬ G1 = (0 : Int32)) (ntv : t ≠ va) :
    CtP l (⟨"java/lang/String", "getBytes", "([BIB)V"⟩ : MethodName) jdk_42_method_147_code 4 none [] ({ frames := 1, cells := 0, slots := 0, locals := 18 } : Room) Z #[(.ref x), (.ref va), (.int 0), (.int 0)] h0 (fun v h L => v = none ∧ Fr n0 L ∧ Keep h0 h [va] ∧ Arv Z h va kv .byte (16 : Int32) [(.int cx0), (.int cx1), (.int cx2), (.int cx3), (.int cx4), (.int cx5), (.int cx6), (.int 0), (.int 0), (.int 0), (.int 0), (.int 0), (.int 0), (.int 0), (.int 0), (.int 0)] (.int 0)) := by
  refine CtP.walk (Ls := #[.val (.ref x), .val (.ref va), .val (.int 0), .val (.int 0)]) own_pn4 (fun m => by first | (simp [entryFrame, mkF, argsToLocals, Value.category]; done) | rfl) ?_
  intro p e s m below meth cc_ T hx hby hml hown hnm hret hlk hZ X eT
  have N := Fr.nil n0
  have K0 := Keep.refl h0 [va]
  have sz_h : h0.size ≤ h0.size := Nat.le_refl _
  refine galoadN (v := (.ref x)) X hx 1 (hb hby own_d22_0) rfl rfl rfl ?_
  refine gvirtual (y := (⟨"java/lang/String", "coder", "()B"⟩ : MethodName)) (z := (⟨"java/lang/String", "coder", "()B"⟩ : MethodName)) (a := x) (argsL := []) (st := []) X hx hZ hown (own_w99 hw) (own_w100 hw) (notFace_of_selects (args := #[]) (mvT hZ (own_w102 hw))) (own_w102 hw) (own_w101 hw) (by decide) P1_Exa (payP (W := 0) (rm18 l Z a0 hw (x) (G1) h0 n0 (Nat.le_trans Z0 sz_h) P0_Old P2_Fld (O2) (P5)) hZ (own_w103 hw) (own_w2 hw) (by decide) (by decide)) eT (by rw [hml]; rfl) (lenOf own_pd1 rfl) rfl (Nat.le_of_eq rfl) 0 0 rfl rfl (by decide) (by decide) 4 (hb hby own_d22_1) rfl ?_
  clear X eT; clear T; intro v T h1 L2 Lc X eT hL hQ2
  obtain ⟨rfl, Nq, hh⟩ := hQ2
  replace N : Fr n0 L2 := by rw [hL]; exact Fr.app N Nq
  clear Nq hL
  replace hh := hh.symm; subst hh
  show Go p e below _ T (mkF m 4 #[.val (.ref x), .val (.ref va), .val (.int 0), .val (.int 0)] [(.int 0)])
  refine giloadN (v := (0 : Int32)) X hx 5 (hb hby own_d22_4) rfl rfl ?_
  refine gicmpNo X hx 8 (hb hby own_d22_5) rfl (by decide) ?_
  refine galoadN (v := (.ref x)) X hx 9 (hb hby own_d22_8) rfl rfl rfl ?_
  refine ggetF X hx hZ (host := "") hown (Or.inl (own_w28 hw)) Via.refl eT P3_Fld 12 (hb hby own_d22_9) rfl ?_
  clear X eT; clear T; intro T X eT
  refine giconst X hx (0 : Int32) 13 (hb hby own_d22_12) rfl rfl ?_
  refine galoadN (v := (.ref va)) X hx 14 (hb hby own_d22_13) rfl rfl rfl ?_
  refine giloadN (v := (0 : Int32)) X hx 15 (hb hby own_d22_14) rfl rfl ?_
  refine giloadN (v := (0 : Int32)) X hx 16 (hb hby own_d22_15) rfl rfl ?_
  refine gishl X hx 17 (hb hby own_d22_16) rfl ?_
  rw [show ((0 : Int32) <<< ((0 : Int32) &&& 31)) = (0 : Int32) from by decide]
  refine galoadN (v := (.ref x)) X hx 18 (hb hby own_d22_17) rfl rfl rfl ?_
  refine ggetF X hx hZ (host := "") hown (Or.inl (own_w28 hw)) Via.refl eT P3_Fld 21 (hb hby own_d22_18) rfl ?_
  clear X eT; clear T; intro T X eT
  refine garrlen X hx hZ eT P4_Arv 22 (hb hby own_d22_21) rfl ?_
  refine gcpA (st := []) X hx hZ hown (own_w127 hw) (own_w130 hw) (own_w128 hw) (own_w129 hw) eT (by rw [hml]; rfl) P4_Arv P5_Arv rfl 0 0 7 rfl rfl rfl (by decide) (by decide) (by decide) (by decide) (by decide) (Nat.le_of_ble_eq_true rfl) ([(.int cx0), (.int cx1), (.int cx2), (.int cx3), (.int cx4), (.int cx5), (.int cx6), (.int 0), (.int 0), (.int 0), (.int 0), (.int 0), (.int 0), (.int 0), (.int 0), (.int 0)] : List Value) rfl N ge_va (by decide) 0 (Nat.le_of_eq rfl) (by decide) 25 (hb hby own_d22_22) rfl ?_
  clear X eT N; clear T; intro T h5 L X eT N K6 V7
  have ne_x_va : x ≠ va := Exa.neArv P1_Exa P5_Arv (own_w1 hw)
  replace P0_Old := P0_Old.keep K6 (allS ge_va all0)
  replace P1_Exa := P1_Exa.keep K6
  replace P2_Fld := P2_Fld.keep K6 (ninS ne_x_va nin0)
  replace P3_Fld := P3_Fld.keep K6 (ninS ne_x_va nin0)
  replace P4_Arv := P4_Arv.keep K6 (ninS ntv nin0)
  replace K0 := K0.trans K6 (allS (Or.inl (List.mem_of_getElem? (i := 0) rfl)) all0)
  replace sz_h : h0.size ≤ h5.size := Nat.le_trans sz_h K6.1
  show Go p e below _ T (mkF m 25 #[.val (.ref x), .val (.ref va), .val (.int 0), .val (.int 0)] [])
  refine ggoto X hx 43 (hb hby own_d22_25) (by decide) (by decide) ?_
  exact gRetP0 X hx hlk hret (hb hby own_d22_43) eT (by decide) (by decide) ⟨rfl, N, K0, V7⟩
set_option maxRecDepth 65536 in
set_option maxHeartbeats 40000000 in
theorem rmPA0_7_16 (l : Launch) (Z : State) (a0 : Array Value) (hw : HW_ a0 Z) (sb : Addr) (x : Addr) (t : Addr) (va : Addr) (kt : ClassId) (kv : ClassId) (G1 : Int32) (cx0 : Int32) (cx1 : Int32) (cx2 : Int32) (cx3 : Int32) (cx4 : Int32) (cx5 : Int32) (cx6 : Int32) (h0 : Heap) (n0 : Nat) (Z0 : n0 ≤ h0.size) (ge_va : n0 ≤ va) (P0_Old : Old Z n0 h0) (P1_Exa : Exa Z h0 sb "java/lang/StringBuilder") (P2_Fld : Fld Z h0 sb "java/lang/AbstractStringBuilder" "value" "[B" (.ref va)) (P3_Fld : Fld Z h0 sb "java/lang/AbstractStringBuilder" "coder" "B" (.int 0)) (P4_Exa : Exa Z h0 x "java/lang/String") (P5_Fld : Fld Z h0 x "java/lang/String" "coder" "B" (.int 0)) (P6_Fld : Fld Z h0 x "java/lang/String" "value" "[B" (.ref t)) (P7_Arv : Arv Z h0 t kt .byte (7 : Int32) [(.int cx0), (.int cx1), (.int cx2), (.int cx3), (.int cx4), (.int cx5), (.int cx6)] (.int 0)) (P8_Arv : Arv Z h0 va kv .byte (16 : Int32) [(.int 0), (.int 0), (.int 0), (.int 0), (.int 0), (.int 0), (.int 0), (.int 0), (.int 0), (.int 0), (.int 0), (.int 0), (.int 0), (.int 0), (.int 0), (.int 0)] (.int 0)) (O2 : Sta Z Z.heap "java/lang/String" "COMPACT_STRINGS" "Z" (.int G1)) (P5 : ¬ G1 = (0 : Int32)) (ntv : t ≠ va) :
    CtP l (⟨"java/lang/AbstractStringBuilder", "putStringAt", "(ILjava/lang/String;)V"⟩ : MethodName) jdk_68_method_73_code 3 none [] ({ frames := 2, cells := 0, slots := 0, locals := 33 } : Room) Z #[(.ref sb), (.int 0), (.ref x)] h0 (fun v h L => v = none ∧ Fr n0 L ∧ Keep h0 h [va] ∧ Arv Z h va kv .byte (16 : Int32) [(.int cx0), (.int cx1), (.int cx2), (.int cx3), (.int cx4), (.int cx5), (.int cx6), (.int 0), (.int 0), (.int 0), (.int 0), (.int 0), (.int 0), (.int 0), (.int 0), (.int 0)] (.int 0)) := by
  refine CtP.walk (Ls := #[.val (.ref sb), .val (.int 0), .val (.ref x)]) (plainFor_of_name own_pn0) (fun m => by first | (simp [entryFrame, mkF, argsToLocals, Value.category]; done) | rfl) ?_
  intro p e s m below meth cc_ T hx hby hml hown hnm hret hlk hZ X eT
  have N := Fr.nil n0
  have K0 := Keep.refl h0 [va]
  have sz_h : h0.size ≤ h0.size := Nat.le_refl _
  refine galoadN (v := (.ref sb)) X hx 1 (hb hby own_d20_0) rfl rfl rfl ?_
  refine galoadN (v := (.ref x)) X hx 2 (hb hby own_d20_1) rfl rfl rfl ?_
  refine gpriv (y := (⟨"java/lang/AbstractStringBuilder", "inflateIfNeededFor", "(Ljava/lang/String;)V"⟩ : MethodName)) (a := sb) (argsL := [(.ref x)]) (st := []) X hx hZ hown (own_w116 hw) (own_w117 hw) (nf_sel (args := #[]) (mvT hZ (own_w109 hw)) rfl) (own_w118 hw) (own_w120 hw) (by decide) P1_Exa (payP (W := 0) (rm21 l Z a0 hw (sb) (x) (G1) h0 n0 (Nat.le_trans Z0 sz_h) P0_Old P4_Exa P3_Fld P5_Fld (O2) (P5)) hZ (own_w120 hw) (own_w75 hw) (by decide) (by decide)) eT (by rw [hml]; rfl) (lenOf own_pd2 rfl) rfl (Nat.le_of_eq rfl) 0 0 rfl rfl (by decide) (by decide) 5 (hb hby own_d20_2) rfl ?_
  clear X eT; clear T; intro v T h1 L2 Lc X eT hL hQ2
  obtain ⟨rfl, Nq, hh⟩ := hQ2
  replace N : Fr n0 L2 := by rw [hL]; exact Fr.app N Nq
  clear Nq hL
  replace hh := hh.symm; subst hh
  show Go p e below _ T (mkF m 5 #[.val (.ref sb), .val (.int 0), .val (.ref x)] [])
  refine galoadN (v := (.ref x)) X hx 6 (hb hby own_d20_5) rfl rfl rfl ?_
  refine galoadN (v := (.ref sb)) X hx 7 (hb hby own_d20_6) rfl rfl rfl ?_
  refine ggetF X hx hZ (host := "") hown (Or.inl (own_w79 hw)) Via.refl eT P2_Fld 10 (hb hby own_d20_7) rfl ?_
  clear X eT; clear T; intro T X eT
  refine giloadN (v := (0 : Int32)) X hx 11 (hb hby own_d20_10) rfl rfl ?_
  refine galoadN (v := (.ref sb)) X hx 12 (hb hby own_d20_11) rfl rfl rfl ?_
  refine ggetF X hx hZ (host := "") hown (Or.inl (own_w81 hw)) Via.refl eT P3_Fld 15 (hb hby own_d20_12) rfl ?_
  clear X eT; clear T; intro T X eT
  refine gvirtual (y := (⟨"java/lang/String", "getBytes", "([BIB)V"⟩ : MethodName)) (z := (⟨"java/lang/String", "getBytes", "([BIB)V"⟩ : MethodName)) (a := x) (argsL := [(.ref va), (.int 0), (.int 0)]) (st := []) X hx hZ hown (own_w122 hw) (own_w123 hw) (notFace_of_selects (args := #[]) (mvT hZ (own_w125 hw))) (own_w125 hw) (own_w124 hw) (by decide) P4_Exa (payP (W := 0) (rmGB0_7_16 l Z a0 hw (x) (t) (va) (kt) (kv) (G1) (cx0) (cx1) (cx2) (cx3) (cx4) (cx5) (cx6) h0 n0 (Nat.le_trans Z0 sz_h) ge_va P0_Old P4_Exa P5_Fld P6_Fld P7_Arv P8_Arv (O2) (P5) (ntv)) hZ (own_w126 hw) (own_w2 hw) (by decide) (by decide)) eT (by rw [hml]; rfl) (lenOf own_pd3 rfl) rfl (Nat.le_of_eq rfl) 0 0 rfl rfl (by decide) (by decide) 18 (hb hby own_d20_15) rfl ?_
  clear X eT; clear T; intro v T h5 L2 Lc X eT hL hQ6
  obtain ⟨rfl, Nq, K7, G9⟩ := hQ6
  replace N : Fr n0 L2 := by rw [hL]; exact Fr.app N Nq
  clear Nq hL
  have ne_sb_va : sb ≠ va := Exa.neArv P1_Exa P8_Arv (own_w66 hw)
  have ne_x_va : x ≠ va := Exa.neArv P4_Exa P8_Arv (own_w1 hw)
  replace P0_Old := P0_Old.keep K7 (allS ge_va all0)
  replace P1_Exa := P1_Exa.keep K7
  replace P2_Fld := P2_Fld.keep K7 (ninS ne_sb_va nin0)
  replace P3_Fld := P3_Fld.keep K7 (ninS ne_sb_va nin0)
  replace P4_Exa := P4_Exa.keep K7
  replace P5_Fld := P5_Fld.keep K7 (ninS ne_x_va nin0)
  replace P6_Fld := P6_Fld.keep K7 (ninS ne_x_va nin0)
  replace P7_Arv := P7_Arv.keep K7 (ninS ntv nin0)
  replace K0 := K0.trans K7 (allS (Or.inl (List.mem_of_getElem? (i := 0) rfl)) all0)
  replace sz_h : h0.size ≤ h5.size := Nat.le_trans sz_h K7.1
  show Go p e below _ T (mkF m 18 #[.val (.ref sb), .val (.int 0), .val (.ref x)] [])
  exact gRetP0 X hx hlk hret (hb hby own_d20_18) eT (by decide) (by decide) ⟨rfl, N, K0, G9⟩
set_option maxRecDepth 65536 in
set_option maxHeartbeats 40000000 in
theorem rmAA0_7_16 (l : Launch) (Z : State) (a0 : Array Value) (hw : HW_ a0 Z) (sb : Addr) (x : Addr) (t : Addr) (va : Addr) (kt : ClassId) (kv : ClassId) (G1 : Int32) (cx0 : Int32) (cx1 : Int32) (cx2 : Int32) (cx3 : Int32) (cx4 : Int32) (cx5 : Int32) (cx6 : Int32) (h0 : Heap) (n0 : Nat) (Z0 : n0 ≤ h0.size) (ge_sb : n0 ≤ sb) (ge_va : n0 ≤ va) (P0_Old : Old Z n0 h0) (P1_Exa : Exa Z h0 sb "java/lang/StringBuilder") (P2_Fld : Fld Z h0 sb "java/lang/AbstractStringBuilder" "value" "[B" (.ref va)) (P3_Fld : Fld Z h0 sb "java/lang/AbstractStringBuilder" "coder" "B" (.int 0)) (P4_Fld : Fld Z h0 sb "java/lang/AbstractStringBuilder" "count" "I" (.int 0)) (P5_Exa : Exa Z h0 x "java/lang/String") (P6_Fld : Fld Z h0 x "java/lang/String" "coder" "B" (.int 0)) (P7_Fld : Fld Z h0 x "java/lang/String" "value" "[B" (.ref t)) (P8_Arv : Arv Z h0 t kt .byte (7 : Int32) [(.int cx0), (.int cx1), (.int cx2), (.int cx3), (.int cx4), (.int cx5), (.int cx6)] (.int 0)) (P9_Arv : Arv Z h0 va kv .byte (16 : Int32) [(.int 0), (.int 0), (.int 0), (.int 0), (.int 0), (.int 0), (.int 0), (.int 0), (.int 0), (.int 0), (.int 0), (.int 0), (.int 0), (.int 0), (.int 0), (.int 0)] (.int 0)) (O2 : Sta Z Z.heap "java/lang/String" "COMPACT_STRINGS" "Z" (.int G1)) (P5 : ¬ G1 = (0 : Int32)) (ntv : t ≠ va) :
    CtP l (⟨"java/lang/AbstractStringBuilder", "append", "(Ljava/lang/String;)Ljava/lang/AbstractStringBuilder;"⟩ : MethodName) jdk_68_method_22_code 3 (some (.object "java/lang/AbstractStringBuilder")) [] ({ frames := 3, cells := 0, slots := 0, locals := 47 } : Room) Z #[(.ref sb), (.ref x)] h0 (fun v h L => v = some (.ref sb) ∧ Fr n0 L ∧ Keep h0 h [sb, va] ∧ Fld Z h sb "java/lang/AbstractStringBuilder" "value" "[B" (.ref va) ∧ Fld Z h sb "java/lang/AbstractStringBuilder" "coder" "B" (.int 0) ∧ Fld Z h sb "java/lang/AbstractStringBuilder" "count" "I" (.int 7) ∧ Arv Z h va kv .byte (16 : Int32) [(.int cx0), (.int cx1), (.int cx2), (.int cx3), (.int cx4), (.int cx5), (.int cx6), (.int 0), (.int 0), (.int 0), (.int 0), (.int 0), (.int 0), (.int 0), (.int 0), (.int 0)] (.int 0)) := by
  refine CtP.walk (Ls := #[.val (.ref sb), .val (.ref x), .unset]) (plainFor_of_name own_pn0) (fun m => by first | (simp [entryFrame, mkF, argsToLocals, Value.category]; done) | rfl) ?_
  intro p e s m below meth cc_ T hx hby hml hown hnm hret hlk hZ X eT
  have N := Fr.nil n0
  have K0 := Keep.refl h0 [sb, va]
  have sz_h : h0.size ≤ h0.size := Nat.le_refl _
  refine galoadN (v := (.ref x)) X hx 1 (hb hby own_d16_0) rfl rfl rfl ?_
  refine gifnonnullYes X hx 9 (hb hby own_d16_1) (by decide) (by decide) ?_
  refine galoadN (v := (.ref x)) X hx 10 (hb hby own_d16_9) rfl rfl rfl ?_
  refine gvirtual (y := (⟨"java/lang/String", "length", "()I"⟩ : MethodName)) (z := (⟨"java/lang/String", "length", "()I"⟩ : MethodName)) (a := x) (argsL := []) (st := []) X hx hZ hown (own_w94 hw) (own_w95 hw) (notFace_of_selects (args := #[]) (mvT hZ (own_w97 hw))) (own_w97 hw) (own_w96 hw) (by decide) P5_Exa (payP (W := 0) (rmSL7 l Z a0 hw (x) (t) (kt) ([(.int cx0), (.int cx1), (.int cx2), (.int cx3), (.int cx4), (.int cx5), (.int cx6)]) (G1) h0 n0 (Nat.le_trans Z0 sz_h) P0_Old P5_Exa P6_Fld P7_Fld P8_Arv (O2) (P5)) hZ (own_w98 hw) (own_w2 hw) (by decide) (by decide)) eT (by rw [hml]; rfl) (lenOf own_pd4 rfl) rfl (Nat.le_of_eq rfl) 0 0 rfl rfl (by decide) (by decide) 13 (hb hby own_d16_10) rfl ?_
  clear X eT; clear T; intro v T h1 L2 Lc X eT hL hQ2
  obtain ⟨rfl, Nq, hh⟩ := hQ2
  replace N : Fr n0 L2 := by rw [hL]; exact Fr.app N Nq
  clear Nq hL
  replace hh := hh.symm; subst hh
  show Go p e below _ T (mkF m 13 #[.val (.ref sb), .val (.ref x), .unset] [(.int 7)])
  refine gistoreN X hx #[.val (.ref sb), .val (.ref x), .val (.int 7)] 14 (hb hby own_d16_13) rfl rfl ?_
  refine galoadN (v := (.ref sb)) X hx 15 (hb hby own_d16_14) rfl rfl rfl ?_
  refine galoadN (v := (.ref sb)) X hx 16 (hb hby own_d16_15) rfl rfl rfl ?_
  refine ggetF X hx hZ (host := "") hown (Or.inl (own_w104 hw)) Via.refl eT P4_Fld 19 (hb hby own_d16_16) rfl ?_
  clear X eT; clear T; intro T X eT
  refine giloadN (v := (7 : Int32)) X hx 20 (hb hby own_d16_19) rfl rfl ?_
  refine giadd X hx 21 (hb hby own_d16_20) rfl ?_
  rw [show ((0 : Int32) + (7 : Int32)) = (7 : Int32) from by decide]
  refine gpriv (y := (⟨"java/lang/AbstractStringBuilder", "ensureCapacityInternal", "(I)V"⟩ : MethodName)) (a := sb) (argsL := [(.int 7)]) (st := []) X hx hZ hown (own_w106 hw) (own_w107 hw) (nf_sel (args := #[]) (mvT hZ (own_w109 hw)) rfl) (own_w108 hw) (own_w110 hw) (by decide) P1_Exa (payP (W := 0) (rmEC7_16 l Z a0 hw (sb) (va) (kv) ([(.int 0), (.int 0), (.int 0), (.int 0), (.int 0), (.int 0), (.int 0), (.int 0), (.int 0), (.int 0), (.int 0), (.int 0), (.int 0), (.int 0), (.int 0), (.int 0)]) h0 n0 (Nat.le_trans Z0 sz_h) P2_Fld P3_Fld P9_Arv) hZ (own_w110 hw) (own_w75 hw) (by decide) (by decide)) eT (by rw [hml]; rfl) (lenOf own_pd0 rfl) rfl (Nat.le_of_eq rfl) 0 0 rfl rfl (by decide) (by decide) 24 (hb hby own_d16_21) rfl ?_
  clear X eT; clear T; intro v T h5 L2 Lc X eT hL hQ6
  obtain ⟨rfl, Nq, hh⟩ := hQ6
  replace N : Fr n0 L2 := by rw [hL]; exact Fr.app N Nq
  clear Nq hL
  replace hh := hh.symm; subst hh
  show Go p e below _ T (mkF m 24 #[.val (.ref sb), .val (.ref x), .val (.int 7)] [])
  refine galoadN (v := (.ref sb)) X hx 25 (hb hby own_d16_24) rfl rfl rfl ?_
  refine galoadN (v := (.ref sb)) X hx 26 (hb hby own_d16_25) rfl rfl rfl ?_
  refine ggetF X hx hZ (host := "") hown (Or.inl (own_w104 hw)) Via.refl eT P4_Fld 29 (hb hby own_d16_26) rfl ?_
  clear X eT; clear T; intro T X eT
  refine galoadN (v := (.ref x)) X hx 30 (hb hby own_d16_29) rfl rfl rfl ?_
  refine gpriv (y := (⟨"java/lang/AbstractStringBuilder", "putStringAt", "(ILjava/lang/String;)V"⟩ : MethodName)) (a := sb) (argsL := [(.int 0), (.ref x)]) (st := []) X hx hZ hown (own_w111 hw) (own_w112 hw) (nf_sel (args := #[]) (mvT hZ (own_w109 hw)) rfl) (own_w113 hw) (own_w115 hw) (by decide) P1_Exa (payP (W := 0) (rmPA0_7_16 l Z a0 hw (sb) (x) (t) (va) (kt) (kv) (G1) (cx0) (cx1) (cx2) (cx3) (cx4) (cx5) (cx6) h0 n0 (Nat.le_trans Z0 sz_h) ge_va P0_Old P1_Exa P2_Fld P3_Fld P5_Exa P6_Fld P7_Fld P8_Arv P9_Arv (O2) (P5) (ntv)) hZ (own_w115 hw) (own_w75 hw) (by decide) (by decide)) eT (by rw [hml]; rfl) (lenOf own_pd5 rfl) rfl (Nat.le_of_eq rfl) 0 0 rfl rfl (by decide) (by decide) 33 (hb hby own_d16_30) rfl ?_
  clear X eT; clear T; intro v T h9 L2 Lc X eT hL hQ10
  obtain ⟨rfl, Nq, K11, G13⟩ := hQ10
  replace N : Fr n0 L2 := by rw [hL]; exact Fr.app N Nq
  clear Nq hL
  have ne_sb_va : sb ≠ va := Exa.neArv P1_Exa P9_Arv (own_w66 hw)
  have ne_x_va : x ≠ va := Exa.neArv P5_Exa P9_Arv (own_w1 hw)
  replace P0_Old := P0_Old.keep K11 (allS ge_va all0)
  replace P1_Exa := P1_Exa.keep K11
  replace P2_Fld := P2_Fld.keep K11 (ninS ne_sb_va nin0)
  replace P3_Fld := P3_Fld.keep K11 (ninS ne_sb_va nin0)
  replace P4_Fld := P4_Fld.keep K11 (ninS ne_sb_va nin0)
  replace P5_Exa := P5_Exa.keep K11
  replace P6_Fld := P6_Fld.keep K11 (ninS ne_x_va nin0)
  replace P7_Fld := P7_Fld.keep K11 (ninS ne_x_va nin0)
  replace P8_Arv := P8_Arv.keep K11 (ninS ntv nin0)
  replace K0 := K0.trans K11 (allS (Or.inl (List.mem_of_getElem? (i := 1) rfl)) all0)
  replace sz_h : h0.size ≤ h9.size := Nat.le_trans sz_h K11.1
  show Go p e below _ T (mkF m 33 #[.val (.ref sb), .val (.ref x), .val (.int 7)] [])
  refine galoadN (v := (.ref sb)) X hx 34 (hb hby own_d16_33) rfl rfl rfl ?_
  refine gdup X hx 35 (hb hby own_d16_34) rfl rfl ?_
  refine ggetF X hx hZ (host := "") hown (Or.inl (own_w104 hw)) Via.refl eT P4_Fld 38 (hb hby own_d16_35) rfl ?_
  clear X eT; clear T; intro T X eT
  refine giloadN (v := (7 : Int32)) X hx 39 (hb hby own_d16_38) rfl rfl ?_
  refine giadd X hx 40 (hb hby own_d16_39) rfl ?_
  rw [show ((0 : Int32) + (7 : Int32)) = (7 : Int32) from by decide]
  refine gputF X hx hZ (host := "") hown (Or.inl (own_w104 hw)) Via.refl eT P4_Fld P1_Exa (Or.inl (own_w105 hw)) (own_w66 hw) (ty := .int) own_pf2 rfl rfl N ge_sb 43 (hb hby own_d16_40) rfl ?_
  clear X eT N; clear T; intro T h14 L X eT N W15
  have ne_x_sb : x ≠ sb := ne_exa P5_Exa P1_Exa (by decide)
  have ne_t_sb : t ≠ sb := Ne.symm (Exa.neArv P1_Exa P8_Arv (own_w66 hw))
  have ne_va_sb : va ≠ sb := Ne.symm (Exa.neArv P1_Exa G13 (own_w66 hw))
  replace P0_Old := P0_Old.wr W15 ge_sb
  replace P1_Exa := P1_Exa.wr W15
  replace P2_Fld := P2_Fld.other W15 (Or.inr (slot_ne (Or.inl (own_w80 hw)) (Or.inl (own_w105 hw)) (by decide) own_pf0 own_pf2))
  replace P3_Fld := P3_Fld.other W15 (Or.inr (slot_ne (Or.inl (own_w82 hw)) (Or.inl (own_w105 hw)) (by decide) own_pf1 own_pf2))
  replace P4_Fld := P4_Fld.same W15
  replace P5_Exa := P5_Exa.wr W15
  replace P6_Fld := P6_Fld.other W15 (Or.inl ne_x_sb)
  replace P7_Fld := P7_Fld.other W15 (Or.inl ne_x_sb)
  replace P8_Arv := P8_Arv.other W15 ne_t_sb
  replace G13 := G13.other W15 ne_va_sb
  replace K0 := K0.wr W15 (Or.inl (List.mem_of_getElem? (i := 0) rfl))
  replace sz_h : h0.size ≤ h14.size := by rw [Wr.size W15]; exact sz_h
  refine galoadN (v := (.ref sb)) X hx 44 (hb hby own_d16_43) rfl rfl rfl ?_
  exact gRetP X hx hlk hret rfl (Or.inr (Or.inr (Or.inr (Or.inr ⟨rfl, rfl, rfl⟩)))) (hb hby own_d16_44) eT (by decide) (by decide) ⟨rfl, N, K0, P2_Fld, P3_Fld, P4_Fld, G13⟩
set_option maxRecDepth 65536 in
set_option maxHeartbeats 40000000 in
theorem rmSA0_7_16 (l : Launch) (Z : State) (a0 : Array Value) (hw : HW_ a0 Z) (sb : Addr) (x : Addr) (t : Addr) (va : Addr) (kt : ClassId) (kv : ClassId) (G1 : Int32) (cx0 : Int32) (cx1 : Int32) (cx2 : Int32) (cx3 : Int32) (cx4 : Int32) (cx5 : Int32) (cx6 : Int32) (h0 : Heap) (n0 : Nat) (Z0 : n0 ≤ h0.size) (ge_sb : n0 ≤ sb) (ge_va : n0 ≤ va) (P0_Old : Old Z n0 h0) (P1_Exa : Exa Z h0 sb "java/lang/StringBuilder") (P2_Fld : Fld Z h0 sb "java/lang/AbstractStringBuilder" "value" "[B" (.ref va)) (P3_Fld : Fld Z h0 sb "java/lang/AbstractStringBuilder" "coder" "B" (.int 0)) (P4_Fld : Fld Z h0 sb "java/lang/AbstractStringBuilder" "count" "I" (.int 0)) (P5_Exa : Exa Z h0 x "java/lang/String") (P6_Fld : Fld Z h0 x "java/lang/String" "coder" "B" (.int 0)) (P7_Fld : Fld Z h0 x "java/lang/String" "value" "[B" (.ref t)) (P8_Arv : Arv Z h0 t kt .byte (7 : Int32) [(.int cx0), (.int cx1), (.int cx2), (.int cx3), (.int cx4), (.int cx5), (.int cx6)] (.int 0)) (P9_Arv : Arv Z h0 va kv .byte (16 : Int32) [(.int 0), (.int 0), (.int 0), (.int 0), (.int 0), (.int 0), (.int 0), (.int 0), (.int 0), (.int 0), (.int 0), (.int 0), (.int 0), (.int 0), (.int 0), (.int 0)] (.int 0)) (O2 : Sta Z Z.heap "java/lang/String" "COMPACT_STRINGS" "Z" (.int G1)) (P5 : ¬ G1 = (0 : Int32)) (ntv : t ≠ va) :
    CtP l (⟨"java/lang/StringBuilder", "append", "(Ljava/lang/String;)Ljava/lang/StringBuilder;"⟩ : MethodName) jdk_67_method_7_code 2 (some (.object "java/lang/StringBuilder")) [] ({ frames := 4, cells := 0, slots := 0, locals := 61 } : Room) Z #[(.ref sb), (.ref x)] h0 (fun v h L => v = some (.ref sb) ∧ Fr n0 L ∧ Keep h0 h [sb, va] ∧ Fld Z h sb "java/lang/AbstractStringBuilder" "value" "[B" (.ref va) ∧ Fld Z h sb "java/lang/AbstractStringBuilder" "coder" "B" (.int 0) ∧ Fld Z h sb "java/lang/AbstractStringBuilder" "count" "I" (.int 7) ∧ Arv Z h va kv .byte (16 : Int32) [(.int cx0), (.int cx1), (.int cx2), (.int cx3), (.int cx4), (.int cx5), (.int cx6), (.int 0), (.int 0), (.int 0), (.int 0), (.int 0), (.int 0), (.int 0), (.int 0), (.int 0)] (.int 0)) := by
  refine CtP.walk (Ls := #[.val (.ref sb), .val (.ref x)]) (plainFor_of_name own_pn1) (fun m => by first | (simp [entryFrame, mkF, argsToLocals, Value.category]; done) | rfl) ?_
  intro p e s m below meth cc_ T hx hby hml hown hnm hret hlk hZ X eT
  have N := Fr.nil n0
  have K0 := Keep.refl h0 [sb, va]
  have sz_h : h0.size ≤ h0.size := Nat.le_refl _
  refine galoadN (v := (.ref sb)) X hx 1 (hb hby own_d15_0) rfl rfl rfl ?_
  refine galoadN (v := (.ref x)) X hx 2 (hb hby own_d15_1) rfl rfl rfl ?_
  refine gsuper (y := (⟨"java/lang/AbstractStringBuilder", "append", "(Ljava/lang/String;)Ljava/lang/AbstractStringBuilder;"⟩ : MethodName)) (a := sb) (argsL := [(.ref x)]) (st := []) X hx hZ hown (own_w89 hw) (sm_sel (own_w90 hw) (own_w109 hw) rfl (by decide)) (own_w90 hw) (own_w91 hw) (by decide) (own_w93 hw) (Ins.self P1_Exa) (payP (W := 0) (rmAA0_7_16 l Z a0 hw (sb) (x) (t) (va) (kt) (kv) (G1) (cx0) (cx1) (cx2) (cx3) (cx4) (cx5) (cx6) h0 n0 (Nat.le_trans Z0 sz_h) ge_sb ge_va P0_Old P1_Exa P2_Fld P3_Fld P4_Fld P5_Exa P6_Fld P7_Fld P8_Arv P9_Arv (O2) (P5) (ntv)) hZ (own_w93 hw) (own_w75 hw) (by decide) (by decide)) eT (by rw [hml]; rfl) (lenOf own_pd6 rfl) rfl (Nat.le_of_eq rfl) 0 0 rfl rfl (by decide) (by decide) 5 (hb hby own_d15_2) rfl ?_
  clear X eT; clear T; intro v T h1 L2 Lc X eT hL hQ2
  obtain ⟨rfl, Nq, K3, G5, G6, G7, G8⟩ := hQ2
  replace N : Fr n0 L2 := by rw [hL]; exact Fr.app N Nq
  clear Nq hL
  have ne_x_sb : x ≠ sb := ne_exa P5_Exa P1_Exa (by decide)
  have ne_x_va : x ≠ va := Exa.neArv P5_Exa P9_Arv (own_w1 hw)
  have ne_t_sb : t ≠ sb := Ne.symm (Exa.neArv P1_Exa P8_Arv (own_w66 hw))
  replace P0_Old := P0_Old.keep K3 (allS ge_sb (allS ge_va all0))
  replace P1_Exa := P1_Exa.keep K3
  replace P5_Exa := P5_Exa.keep K3
  replace P6_Fld := P6_Fld.keep K3 (ninS ne_x_sb (ninS ne_x_va nin0))
  replace P7_Fld := P7_Fld.keep K3 (ninS ne_x_sb (ninS ne_x_va nin0))
  replace P8_Arv := P8_Arv.keep K3 (ninS ne_t_sb (ninS ntv nin0))
  replace K0 := K0.trans K3 (allS (Or.inl (List.mem_of_getElem? (i := 0) rfl)) (allS (Or.inl (List.mem_of_getElem? (i := 1) rfl)) all0))
  replace sz_h : h0.size ≤ h1.size := Nat.le_trans sz_h K3.1
  show Go p e below _ T (mkF m 5 #[.val (.ref sb), .val (.ref x)] [(.ref sb)])
  refine gpop X hx 6 (hb hby own_d15_5) rfl rfl ?_
  refine galoadN (v := (.ref sb)) X hx 7 (hb hby own_d15_6) rfl rfl rfl ?_
  exact gRetP X hx hlk hret rfl (Or.inr (Or.inr (Or.inr (Or.inr ⟨rfl, rfl, rfl⟩)))) (hb hby own_d15_7) eT (by decide) (by decide) ⟨rfl, N, K0, G5, G6, G7, G8⟩
set_option maxRecDepth 65536 in
set_option maxHeartbeats 40000000 in
theorem rmEC9_16 (l : Launch) (Z : State) (a0 : Array Value) (hw : HW_ a0 Z) (sb : Addr) (va : Addr) (kv : ClassId) (vs0 : List Value) (h0 : Heap) (n0 : Nat) (Z0 : n0 ≤ h0.size) (P0_Fld : Fld Z h0 sb "java/lang/AbstractStringBuilder" "value" "[B" (.ref va)) (P1_Fld : Fld Z h0 sb "java/lang/AbstractStringBuilder" "coder" "B" (.int 0)) (P2_Arv : Arv Z h0 va kv .byte (16 : Int32) vs0 (.int 0)) :
    CtP l (⟨"java/lang/AbstractStringBuilder", "ensureCapacityInternal", "(I)V"⟩ : MethodName) jdk_68_method_9_code 3 none [] ({ frames := 0, cells := 0, slots := 0, locals := 0 } : Room) Z #[(.ref sb), (.int 9)] h0 (fun v h L => v = none ∧ Fr n0 L ∧ h = h0) := by
  refine CtP.walk (Ls := #[.val (.ref sb), .val (.int 9), .unset]) (plainFor_of_name own_pn0) (fun m => by first | (simp [entryFrame, mkF, argsToLocals, Value.category]; done) | rfl) ?_
  intro p e s m below meth cc_ T hx hby hml hown hnm hret hlk hZ X eT
  have N := Fr.nil n0
  have sz_h : h0.size ≤ h0.size := Nat.le_refl _
  refine galoadN (v := (.ref sb)) X hx 1 (hb hby own_d19_0) rfl rfl rfl ?_
  refine ggetF X hx hZ (host := "") hown (Or.inl (own_w79 hw)) Via.refl eT P0_Fld 4 (hb hby own_d19_1) rfl ?_
  clear X eT; clear T; intro T X eT
  refine garrlen X hx hZ eT P2_Arv 5 (hb hby own_d19_4) rfl ?_
  refine galoadN (v := (.ref sb)) X hx 6 (hb hby own_d19_5) rfl rfl rfl ?_
  refine ggetF X hx hZ (host := "") hown (Or.inl (own_w81 hw)) Via.refl eT P1_Fld 9 (hb hby own_d19_6) rfl ?_
  clear X eT; clear T; intro T X eT
  refine gishr X hx 10 (hb hby own_d19_9) rfl ?_
  rw [show ((16 : Int32) >>> ((0 : Int32) &&& 31)) = (16 : Int32) from by decide]
  refine gistoreN X hx #[.val (.ref sb), .val (.int 9), .val (.int 16)] 11 (hb hby own_d19_10) rfl rfl ?_
  refine giloadN (v := (9 : Int32)) X hx 12 (hb hby own_d19_11) rfl rfl ?_
  refine giloadN (v := (16 : Int32)) X hx 13 (hb hby own_d19_12) rfl rfl ?_
  refine gisub X hx 14 (hb hby own_d19_13) rfl ?_
  rw [show ((9 : Int32) - (16 : Int32)) = (-7 : Int32) from by decide]
  refine gifYes X hx 38 (hb hby own_d19_14) (by decide) (by decide) (by decide) ?_
  exact gRetP0 X hx hlk hret (hb hby own_d19_38) eT (by decide) (by decide) ⟨rfl, N, rfl⟩
set_option maxRecDepth 65536 in
set_option maxHeartbeats 40000000 in
theorem rmGB7_2_16 (l : Launch) (Z : State) (a0 : Array Value) (hw : HW_ a0 Z) (x : Addr) (t : Addr) (va : Addr) (kt : ClassId) (kv : ClassId) (G1 : Int32) (bx0 : Int32) (bx1 : Int32) (bx2 : Int32) (bx3 : Int32) (bx4 : Int32) (bx5 : Int32) (bx6 : Int32) (cx0 : Int32) (cx1 : Int32) (h0 : Heap) (n0 : Nat) (Z0 : n0 ≤ h0.size) (ge_va : n0 ≤ va) (P0_Old : Old Z n0 h0) (P1_Exa : Exa Z h0 x "java/lang/String") (P2_Fld : Fld Z h0 x "java/lang/String" "coder" "B" (.int 0)) (P3_Fld : Fld Z h0 x "java/lang/String" "value" "[B" (.ref t)) (P4_Arv : Arv Z h0 t kt .byte (2 : Int32) [(.int cx0), (.int cx1)] (.int 0)) (P5_Arv : Arv Z h0 va kv .byte (16 : Int32) [(.int bx0), (.int bx1), (.int bx2), (.int bx3), (.int bx4), (.int bx5), (.int bx6), (.int 0), (.int 0), (.int 0), (.int 0), (.int 0), (.int 0), (.int 0), (.int 0), (.int 0)] (.int 0)) (O2 : Sta Z Z.heap "java/lang/String" "COMPACT_STRINGS" "Z" (.int G1)) (P5 : ¬ G1 = (0 : Int32)) (ntv : t ≠ va) :
    CtP l (⟨"java/lang/String", "getBytes", "([BIB)V"⟩ : MethodName) jdk_42_method_147_code 4 none [] ({ frames := 1, cells := 0, slots := 0, locals := 18 } : Room) Z #[(.ref x), (.ref va), (.int 7), (.int 0)] h0 (fun v h L => v = none ∧ Fr n0 L ∧ Keep h0 h [va] ∧ Arv Z h va kv .byte (16 : Int32) [(.int bx0), (.int bx1), (.int bx2), (.int bx3), (.int bx4), (.int bx5), (.int bx6), (.int cx0), (.int cx1), (.int 0), (.int 0), (.int 0), (.int 0), (.int 0), (.int 0), (.int 0)] (.int 0)) := by
  refine CtP.walk (Ls := #[.val (.ref x), .val (.ref va), .val (.int 7), .val (.int 0)]) own_pn4 (fun m => by first | (simp [entryFrame, mkF, argsToLocals, Value.category]; done) | rfl) ?_
  intro p e s m below meth cc_ T hx hby hml hown hnm hret hlk hZ X eT
  have N := Fr.nil n0
  have K0 := Keep.refl h0 [va]
  have sz_h : h0.size ≤ h0.size := Nat.le_refl _
  refine galoadN (v := (.ref x)) X hx 1 (hb hby own_d22_0) rfl rfl rfl ?_
  refine gvirtual (y := (⟨"java/lang/String", "coder", "()B"⟩ : MethodName)) (z := (⟨"java/lang/String", "coder", "()B"⟩ : MethodName)) (a := x) (argsL := []) (st := []) X hx hZ hown (own_w99 hw) (own_w100 hw) (notFace_of_selects (args := #[]) (mvT hZ (own_w102 hw))) (own_w102 hw) (own_w101 hw) (by decide) P1_Exa (payP (W := 0) (rm18 l Z a0 hw (x) (G1) h0 n0 (Nat.le_trans Z0 sz_h) P0_Old P2_Fld (O2) (P5)) hZ (own_w103 hw) (own_w2 hw) (by decide) (by decide)) eT (by rw [hml]; rfl) (lenOf own_pd1 rfl) rfl (Nat.le_of_eq rfl) 0 0 rfl rfl (by decide) (by decide) 4 (hb hby own_d22_1) rfl ?_
  clear X eT; clear T; intro v T h1 L2 Lc X eT hL hQ2
  obtain ⟨rfl, Nq, hh⟩ := hQ2
  replace N : Fr n0 L2 := by rw [hL]; exact Fr.app N Nq
  clear Nq hL
  replace hh := hh.symm; subst hh
  show Go p e below _ T (mkF m 4 #[.val (.ref x), .val (.ref va), .val (.int 7), .val (.int 0)] [(.int 0)])
  refine giloadN (v := (0 : Int32)) X hx 5 (hb hby own_d22_4) rfl rfl ?_
  refine gicmpNo X hx 8 (hb hby own_d22_5) rfl (by decide) ?_
  refine galoadN (v := (.ref x)) X hx 9 (hb hby own_d22_8) rfl rfl rfl ?_
  refine ggetF X hx hZ (host := "") hown (Or.inl (own_w28 hw)) Via.refl eT P3_Fld 12 (hb hby own_d22_9) rfl ?_
  clear X eT; clear T; intro T X eT
  refine giconst X hx (0 : Int32) 13 (hb hby own_d22_12) rfl rfl ?_
  refine galoadN (v := (.ref va)) X hx 14 (hb hby own_d22_13) rfl rfl rfl ?_
  refine giloadN (v := (7 : Int32)) X hx 15 (hb hby own_d22_14) rfl rfl ?_
  refine giloadN (v := (0 : Int32)) X hx 16 (hb hby own_d22_15) rfl rfl ?_
  refine gishl X hx 17 (hb hby own_d22_16) rfl ?_
  rw [show ((7 : Int32) <<< ((0 : Int32) &&& 31)) = (7 : Int32) from by decide]
  refine galoadN (v := (.ref x)) X hx 18 (hb hby own_d22_17) rfl rfl rfl ?_
  refine ggetF X hx hZ (host := "") hown (Or.inl (own_w28 hw)) Via.refl eT P3_Fld 21 (hb hby own_d22_18) rfl ?_
  clear X eT; clear T; intro T X eT
  refine garrlen X hx hZ eT P4_Arv 22 (hb hby own_d22_21) rfl ?_
  refine gcpA (st := []) X hx hZ hown (own_w127 hw) (own_w130 hw) (own_w128 hw) (own_w129 hw) eT (by rw [hml]; rfl) P4_Arv P5_Arv rfl 0 7 2 rfl rfl rfl (by decide) (by decide) (by decide) (by decide) (by decide) (Nat.le_of_ble_eq_true rfl) ([(.int bx0), (.int bx1), (.int bx2), (.int bx3), (.int bx4), (.int bx5), (.int bx6), (.int cx0), (.int cx1), (.int 0), (.int 0), (.int 0), (.int 0), (.int 0), (.int 0), (.int 0)] : List Value) rfl N ge_va (by decide) 0 (Nat.le_of_eq rfl) (by decide) 25 (hb hby own_d22_22) rfl ?_
  clear X eT N; clear T; intro T h5 L X eT N K6 V7
  have ne_x_va : x ≠ va := Exa.neArv P1_Exa P5_Arv (own_w1 hw)
  replace P0_Old := P0_Old.keep K6 (allS ge_va all0)
  replace P1_Exa := P1_Exa.keep K6
  replace P2_Fld := P2_Fld.keep K6 (ninS ne_x_va nin0)
  replace P3_Fld := P3_Fld.keep K6 (ninS ne_x_va nin0)
  replace P4_Arv := P4_Arv.keep K6 (ninS ntv nin0)
  replace K0 := K0.trans K6 (allS (Or.inl (List.mem_of_getElem? (i := 0) rfl)) all0)
  replace sz_h : h0.size ≤ h5.size := Nat.le_trans sz_h K6.1
  show Go p e below _ T (mkF m 25 #[.val (.ref x), .val (.ref va), .val (.int 7), .val (.int 0)] [])
  refine ggoto X hx 43 (hb hby own_d22_25) (by decide) (by decide) ?_
  exact gRetP0 X hx hlk hret (hb hby own_d22_43) eT (by decide) (by decide) ⟨rfl, N, K0, V7⟩
set_option maxRecDepth 65536 in
set_option maxHeartbeats 40000000 in
theorem rmPA7_2_16 (l : Launch) (Z : State) (a0 : Array Value) (hw : HW_ a0 Z) (sb : Addr) (x : Addr) (t : Addr) (va : Addr) (kt : ClassId) (kv : ClassId) (G1 : Int32) (bx0 : Int32) (bx1 : Int32) (bx2 : Int32) (bx3 : Int32) (bx4 : Int32) (bx5 : Int32) (bx6 : Int32) (cx0 : Int32) (cx1 : Int32) (h0 : Heap) (n0 : Nat) (Z0 : n0 ≤ h0.size) (ge_va : n0 ≤ va) (P0_Old : Old Z n0 h0) (P1_Exa : Exa Z h0 sb "java/lang/StringBuilder") (P2_Fld : Fld Z h0 sb "java/lang/AbstractStringBuilder" "value" "[B" (.ref va)) (P3_Fld : Fld Z h0 sb "java/lang/AbstractStringBuilder" "coder" "B" (.int 0)) (P4_Exa : Exa Z h0 x "java/lang/String") (P5_Fld : Fld Z h0 x "java/lang/String" "coder" "B" (.int 0)) (P6_Fld : Fld Z h0 x "java/lang/String" "value" "[B" (.ref t)) (P7_Arv : Arv Z h0 t kt .byte (2 : Int32) [(.int cx0), (.int cx1)] (.int 0)) (P8_Arv : Arv Z h0 va kv .byte (16 : Int32) [(.int bx0), (.int bx1), (.int bx2), (.int bx3), (.int bx4), (.int bx5), (.int bx6), (.int 0), (.int 0), (.int 0), (.int 0), (.int 0), (.int 0), (.int 0), (.int 0), (.int 0)] (.int 0)) (O2 : Sta Z Z.heap "java/lang/String" "COMPACT_STRINGS" "Z" (.int G1)) (P5 : ¬ G1 = (0 : Int32)) (ntv : t ≠ va) :
    CtP l (⟨"java/lang/AbstractStringBuilder", "putStringAt", "(ILjava/lang/String;)V"⟩ : MethodName) jdk_68_method_73_code 3 none [] ({ frames := 2, cells := 0, slots := 0, locals := 33 } : Room) Z #[(.ref sb), (.int 7), (.ref x)] h0 (fun v h L => v = none ∧ Fr n0 L ∧ Keep h0 h [va] ∧ Arv Z h va kv .byte (16 : Int32) [(.int bx0), (.int bx1), (.int bx2), (.int bx3), (.int bx4), (.int bx5), (.int bx6), (.int cx0), (.int cx1), (.int 0), (.int 0), (.int 0), (.int 0), (.int 0), (.int 0), (.int 0)] (.int 0)) := by
  refine CtP.walk (Ls := #[.val (.ref sb), .val (.int 7), .val (.ref x)]) (plainFor_of_name own_pn0) (fun m => by first | (simp [entryFrame, mkF, argsToLocals, Value.category]; done) | rfl) ?_
  intro p e s m below meth cc_ T hx hby hml hown hnm hret hlk hZ X eT
  have N := Fr.nil n0
  have K0 := Keep.refl h0 [va]
  have sz_h : h0.size ≤ h0.size := Nat.le_refl _
  refine galoadN (v := (.ref sb)) X hx 1 (hb hby own_d20_0) rfl rfl rfl ?_
  refine galoadN (v := (.ref x)) X hx 2 (hb hby own_d20_1) rfl rfl rfl ?_
  refine gpriv (y := (⟨"java/lang/AbstractStringBuilder", "inflateIfNeededFor", "(Ljava/lang/String;)V"⟩ : MethodName)) (a := sb) (argsL := [(.ref x)]) (st := []) X hx hZ hown (own_w116 hw) (own_w117 hw) (nf_sel (args := #[]) (mvT hZ (own_w109 hw)) rfl) (own_w118 hw) (own_w120 hw) (by decide) P1_Exa (payP (W := 0) (rm21 l Z a0 hw (sb) (x) (G1) h0 n0 (Nat.le_trans Z0 sz_h) P0_Old P4_Exa P3_Fld P5_Fld (O2) (P5)) hZ (own_w120 hw) (own_w75 hw) (by decide) (by decide)) eT (by rw [hml]; rfl) (lenOf own_pd2 rfl) rfl (Nat.le_of_eq rfl) 0 0 rfl rfl (by decide) (by decide) 5 (hb hby own_d20_2) rfl ?_
  clear X eT; clear T; intro v T h1 L2 Lc X eT hL hQ2
  obtain ⟨rfl, Nq, hh⟩ := hQ2
  replace N : Fr n0 L2 := by rw [hL]; exact Fr.app N Nq
  clear Nq hL
  replace hh := hh.symm; subst hh
  show Go p e below _ T (mkF m 5 #[.val (.ref sb), .val (.int 7), .val (.ref x)] [])
  refine galoadN (v := (.ref x)) X hx 6 (hb hby own_d20_5) rfl rfl rfl ?_
  refine galoadN (v := (.ref sb)) X hx 7 (hb hby own_d20_6) rfl rfl rfl ?_
  refine ggetF X hx hZ (host := "") hown (Or.inl (own_w79 hw)) Via.refl eT P2_Fld 10 (hb hby own_d20_7) rfl ?_
  clear X eT; clear T; intro T X eT
  refine giloadN (v := (7 : Int32)) X hx 11 (hb hby own_d20_10) rfl rfl ?_
  refine galoadN (v := (.ref sb)) X hx 12 (hb hby own_d20_11) rfl rfl rfl ?_
  refine ggetF X hx hZ (host := "") hown (Or.inl (own_w81 hw)) Via.refl eT P3_Fld 15 (hb hby own_d20_12) rfl ?_
  clear X eT; clear T; intro T X eT
  refine gvirtual (y := (⟨"java/lang/String", "getBytes", "([BIB)V"⟩ : MethodName)) (z := (⟨"java/lang/String", "getBytes", "([BIB)V"⟩ : MethodName)) (a := x) (argsL := [(.ref va), (.int 7), (.int 0)]) (st := []) X hx hZ hown (own_w122 hw) (own_w123 hw) (notFace_of_selects (args := #[]) (mvT hZ (own_w125 hw))) (own_w125 hw) (own_w124 hw) (by decide) P4_Exa (payP (W := 0) (rmGB7_2_16 l Z a0 hw (x) (t) (va) (kt) (kv) (G1) (bx0) (bx1) (bx2) (bx3) (bx4) (bx5) (bx6) (cx0) (cx1) h0 n0 (Nat.le_trans Z0 sz_h) ge_va P0_Old P4_Exa P5_Fld P6_Fld P7_Arv P8_Arv (O2) (P5) (ntv)) hZ (own_w126 hw) (own_w2 hw) (by decide) (by decide)) eT (by rw [hml]; rfl) (lenOf own_pd3 rfl) rfl (Nat.le_of_eq rfl) 0 0 rfl rfl (by decide) (by decide) 18 (hb hby own_d20_15) rfl ?_
  clear X eT; clear T; intro v T h5 L2 Lc X eT hL hQ6
  obtain ⟨rfl, Nq, K7, G9⟩ := hQ6
  replace N : Fr n0 L2 := by rw [hL]; exact Fr.app N Nq
  clear Nq hL
  have ne_sb_va : sb ≠ va := Exa.neArv P1_Exa P8_Arv (own_w66 hw)
  have ne_x_va : x ≠ va := Exa.neArv P4_Exa P8_Arv (own_w1 hw)
  replace P0_Old := P0_Old.keep K7 (allS ge_va all0)
  replace P1_Exa := P1_Exa.keep K7
  replace P2_Fld := P2_Fld.keep K7 (ninS ne_sb_va nin0)
  replace P3_Fld := P3_Fld.keep K7 (ninS ne_sb_va nin0)
  replace P4_Exa := P4_Exa.keep K7
  replace P5_Fld := P5_Fld.keep K7 (ninS ne_x_va nin0)
  replace P6_Fld := P6_Fld.keep K7 (ninS ne_x_va nin0)
  replace P7_Arv := P7_Arv.keep K7 (ninS ntv nin0)
  replace K0 := K0.trans K7 (allS (Or.inl (List.mem_of_getElem? (i := 0) rfl)) all0)
  replace sz_h : h0.size ≤ h5.size := Nat.le_trans sz_h K7.1
  show Go p e below _ T (mkF m 18 #[.val (.ref sb), .val (.int 7), .val (.ref x)] [])
  exact gRetP0 X hx hlk hret (hb hby own_d20_18) eT (by decide) (by decide) ⟨rfl, N, K0, G9⟩
set_option maxRecDepth 65536 in
set_option maxHeartbeats 40000000 in
theorem rmAA7_2_16 (l : Launch) (Z : State) (a0 : Array Value) (hw : HW_ a0 Z) (sb : Addr) (x : Addr) (t : Addr) (va : Addr) (kt : ClassId) (kv : ClassId) (G1 : Int32) (bx0 : Int32) (bx1 : Int32) (bx2 : Int32) (bx3 : Int32) (bx4 : Int32) (bx5 : Int32) (bx6 : Int32) (cx0 : Int32) (cx1 : Int32) (h0 : Heap) (n0 : Nat) (Z0 : n0 ≤ h0.size) (ge_sb : n0 ≤ sb) (ge_va : n0 ≤ va) (P0_Old : Old Z n0 h0) (P1_Exa : Exa Z h0 sb "java/lang/StringBuilder") (P2_Fld : Fld Z h0 sb "java/lang/AbstractStringBuilder" "value" "[B" (.ref va)) (P3_Fld : Fld Z h0 sb "java/lang/AbstractStringBuilder" "coder" "B" (.int 0)) (P4_Fld : Fld Z h0 sb "java/lang/AbstractStringBuilder" "count" "I" (.int 7)) (P5_Exa : Exa Z h0 x "java/lang/String") (P6_Fld : Fld Z h0 x "java/lang/String" "coder" "B" (.int 0)) (P7_Fld : Fld Z h0 x "java/lang/String" "value" "[B" (.ref t)) (P8_Arv : Arv Z h0 t kt .byte (2 : Int32) [(.int cx0), (.int cx1)] (.int 0)) (P9_Arv : Arv Z h0 va kv .byte (16 : Int32) [(.int bx0), (.int bx1), (.int bx2), (.int bx3), (.int bx4), (.int bx5), (.int bx6), (.int 0), (.int 0), (.int 0), (.int 0), (.int 0), (.int 0), (.int 0), (.int 0), (.int 0)] (.int 0)) (O2 : Sta Z Z.heap "java/lang/String" "COMPACT_STRINGS" "Z" (.int G1)) (P5 : ¬ G1 = (0 : Int32)) (ntv : t ≠ va) :
    CtP l (⟨"java/lang/AbstractStringBuilder", "append", "(Ljava/lang/String;)Ljava/lang/AbstractStringBuilder;"⟩ : MethodName) jdk_68_method_22_code 3 (some (.object "java/lang/AbstractStringBuilder")) [] ({ frames := 3, cells := 0, slots := 0, locals := 47 } : Room) Z #[(.ref sb), (.ref x)] h0 (fun v h L => v = some (.ref sb) ∧ Fr n0 L ∧ Keep h0 h [sb, va] ∧ Fld Z h sb "java/lang/AbstractStringBuilder" "value" "[B" (.ref va) ∧ Fld Z h sb "java/lang/AbstractStringBuilder" "coder" "B" (.int 0) ∧ Fld Z h sb "java/lang/AbstractStringBuilder" "count" "I" (.int 9) ∧ Arv Z h va kv .byte (16 : Int32) [(.int bx0), (.int bx1), (.int bx2), (.int bx3), (.int bx4), (.int bx5), (.int bx6), (.int cx0), (.int cx1), (.int 0), (.int 0), (.int 0), (.int 0), (.int 0), (.int 0), (.int 0)] (.int 0)) := by
  refine CtP.walk (Ls := #[.val (.ref sb), .val (.ref x), .unset]) (plainFor_of_name own_pn0) (fun m => by first | (simp [entryFrame, mkF, argsToLocals, Value.category]; done) | rfl) ?_
  intro p e s m below meth cc_ T hx hby hml hown hnm hret hlk hZ X eT
  have N := Fr.nil n0
  have K0 := Keep.refl h0 [sb, va]
  have sz_h : h0.size ≤ h0.size := Nat.le_refl _
  refine galoadN (v := (.ref x)) X hx 1 (hb hby own_d16_0) rfl rfl rfl ?_
  refine gifnonnullYes X hx 9 (hb hby own_d16_1) (by decide) (by decide) ?_
  refine galoadN (v := (.ref x)) X hx 10 (hb hby own_d16_9) rfl rfl rfl ?_
  refine gvirtual (y := (⟨"java/lang/String", "length", "()I"⟩ : MethodName)) (z := (⟨"java/lang/String", "length", "()I"⟩ : MethodName)) (a := x) (argsL := []) (st := []) X hx hZ hown (own_w94 hw) (own_w95 hw) (notFace_of_selects (args := #[]) (mvT hZ (own_w97 hw))) (own_w97 hw) (own_w96 hw) (by decide) P5_Exa (payP (W := 0) (rmSL2 l Z a0 hw (x) (t) (kt) ([(.int cx0), (.int cx1)]) (G1) h0 n0 (Nat.le_trans Z0 sz_h) P0_Old P5_Exa P6_Fld P7_Fld P8_Arv (O2) (P5)) hZ (own_w98 hw) (own_w2 hw) (by decide) (by decide)) eT (by rw [hml]; rfl) (lenOf own_pd4 rfl) rfl (Nat.le_of_eq rfl) 0 0 rfl rfl (by decide) (by decide) 13 (hb hby own_d16_10) rfl ?_
  clear X eT; clear T; intro v T h1 L2 Lc X eT hL hQ2
  obtain ⟨rfl, Nq, hh⟩ := hQ2
  replace N : Fr n0 L2 := by rw [hL]; exact Fr.app N Nq
  clear Nq hL
  replace hh := hh.symm; subst hh
  show Go p e below _ T (mkF m 13 #[.val (.ref sb), .val (.ref x), .unset] [(.int 2)])
  refine gistoreN X hx #[.val (.ref sb), .val (.ref x), .val (.int 2)] 14 (hb hby own_d16_13) rfl rfl ?_
  refine galoadN (v := (.ref sb)) X hx 15 (hb hby own_d16_14) rfl rfl rfl ?_
  refine galoadN (v := (.ref sb)) X hx 16 (hb hby own_d16_15) rfl rfl rfl ?_
  refine ggetF X hx hZ (host := "") hown (Or.inl (own_w104 hw)) Via.refl eT P4_Fld 19 (hb hby own_d16_16) rfl ?_
  clear X eT; clear T; intro T X eT
  refine giloadN (v := (2 : Int32)) X hx 20 (hb hby own_d16_19) rfl rfl ?_
  refine giadd X hx 21 (hb hby own_d16_20) rfl ?_
  rw [show ((7 : Int32) + (2 : Int32)) = (9 : Int32) from by decide]
  refine gpriv (y := (⟨"java/lang/AbstractStringBuilder", "ensureCapacityInternal", "(I)V"⟩ : MethodName)) (a := sb) (argsL := [(.int 9)]) (st := []) X hx hZ hown (own_w106 hw) (own_w107 hw) (nf_sel (args := #[]) (mvT hZ (own_w109 hw)) rfl) (own_w108 hw) (own_w110 hw) (by decide) P1_Exa (payP (W := 0) (rmEC9_16 l Z a0 hw (sb) (va) (kv) ([(.int bx0), (.int bx1), (.int bx2), (.int bx3), (.int bx4), (.int bx5), (.int bx6), (.int 0), (.int 0), (.int 0), (.int 0), (.int 0), (.int 0), (.int 0), (.int 0), (.int 0)]) h0 n0 (Nat.le_trans Z0 sz_h) P2_Fld P3_Fld P9_Arv) hZ (own_w110 hw) (own_w75 hw) (by decide) (by decide)) eT (by rw [hml]; rfl) (lenOf own_pd0 rfl) rfl (Nat.le_of_eq rfl) 0 0 rfl rfl (by decide) (by decide) 24 (hb hby own_d16_21) rfl ?_
  clear X eT; clear T; intro v T h5 L2 Lc X eT hL hQ6
  obtain ⟨rfl, Nq, hh⟩ := hQ6
  replace N : Fr n0 L2 := by rw [hL]; exact Fr.app N Nq
  clear Nq hL
  replace hh := hh.symm; subst hh
  show Go p e below _ T (mkF m 24 #[.val (.ref sb), .val (.ref x), .val (.int 2)] [])
  refine galoadN (v := (.ref sb)) X hx 25 (hb hby own_d16_24) rfl rfl rfl ?_
  refine galoadN (v := (.ref sb)) X hx 26 (hb hby own_d16_25) rfl rfl rfl ?_
  refine ggetF X hx hZ (host := "") hown (Or.inl (own_w104 hw)) Via.refl eT P4_Fld 29 (hb hby own_d16_26) rfl ?_
  clear X eT; clear T; intro T X eT
  refine galoadN (v := (.ref x)) X hx 30 (hb hby own_d16_29) rfl rfl rfl ?_
  refine gpriv (y := (⟨"java/lang/AbstractStringBuilder", "putStringAt", "(ILjava/lang/String;)V"⟩ : MethodName)) (a := sb) (argsL := [(.int 7), (.ref x)]) (st := []) X hx hZ hown (own_w111 hw) (own_w112 hw) (nf_sel (args := #[]) (mvT hZ (own_w109 hw)) rfl) (own_w113 hw) (own_w115 hw) (by decide) P1_Exa (payP (W := 0) (rmPA7_2_16 l Z a0 hw (sb) (x) (t) (va) (kt) (kv) (G1) (bx0) (bx1) (bx2) (bx3) (bx4) (bx5) (bx6) (cx0) (cx1) h0 n0 (Nat.le_trans Z0 sz_h) ge_va P0_Old P1_Exa P2_Fld P3_Fld P5_Exa P6_Fld P7_Fld P8_Arv P9_Arv (O2) (P5) (ntv)) hZ (own_w115 hw) (own_w75 hw) (by decide) (by decide)) eT (by rw [hml]; rfl) (lenOf own_pd5 rfl) rfl (Nat.le_of_eq rfl) 0 0 rfl rfl (by decide) (by decide) 33 (hb hby own_d16_30) rfl ?_
  clear X eT; clear T; intro v T h9 L2 Lc X eT hL hQ10
  obtain ⟨rfl, Nq, K11, G13⟩ := hQ10
  replace N : Fr n0 L2 := by rw [hL]; exact Fr.app N Nq
  clear Nq hL
  have ne_sb_va : sb ≠ va := Exa.neArv P1_Exa P9_Arv (own_w66 hw)
  have ne_x_va : x ≠ va := Exa.neArv P5_Exa P9_Arv (own_w1 hw)
  replace P0_Old := P0_Old.keep K11 (allS ge_va all0)
  replace P1_Exa := P1_Exa.keep K11
  replace P2_Fld := P2_Fld.keep K11 (ninS ne_sb_va nin0)
  replace P3_Fld := P3_Fld.keep K11 (ninS ne_sb_va nin0)
  replace P4_Fld := P4_Fld.keep K11 (ninS ne_sb_va nin0)
  replace P5_Exa := P5_Exa.keep K11
  replace P6_Fld := P6_Fld.keep K11 (ninS ne_x_va nin0)
  replace P7_Fld := P7_Fld.keep K11 (ninS ne_x_va nin0)
  replace P8_Arv := P8_Arv.keep K11 (ninS ntv nin0)
  replace K0 := K0.trans K11 (allS (Or.inl (List.mem_of_getElem? (i := 1) rfl)) all0)
  replace sz_h : h0.size ≤ h9.size := Nat.le_trans sz_h K11.1
  show Go p e below _ T (mkF m 33 #[.val (.ref sb), .val (.ref x), .val (.int 2)] [])
  refine galoadN (v := (.ref sb)) X hx 34 (hb hby own_d16_33) rfl rfl rfl ?_
  refine gdup X hx 35 (hb hby own_d16_34) rfl rfl ?_
  refine ggetF X hx hZ (host := "") hown (Or.inl (own_w104 hw)) Via.refl eT P4_Fld 38 (hb hby own_d16_35) rfl ?_
  clear X eT; clear T; intro T X eT
  refine giloadN (v := (2 : Int32)) X hx 39 (hb hby own_d16_38) rfl rfl ?_
  refine giadd X hx 40 (hb hby own_d16_39) rfl ?_
  rw [show ((7 : Int32) + (2 : Int32)) = (9 : Int32) from by decide]
  refine gputF X hx hZ (host := "") hown (Or.inl (own_w104 hw)) Via.refl eT P4_Fld P1_Exa (Or.inl (own_w105 hw)) (own_w66 hw) (ty := .int) own_pf2 rfl rfl N ge_sb 43 (hb hby own_d16_40) rfl ?_
  clear X eT N; clear T; intro T h14 L X eT N W15
  have ne_x_sb : x ≠ sb := ne_exa P5_Exa P1_Exa (by decide)
  have ne_t_sb : t ≠ sb := Ne.symm (Exa.neArv P1_Exa P8_Arv (own_w66 hw))
  have ne_va_sb : va ≠ sb := Ne.symm (Exa.neArv P1_Exa G13 (own_w66 hw))
  replace P0_Old := P0_Old.wr W15 ge_sb
  replace P1_Exa := P1_Exa.wr W15
  replace P2_Fld := P2_Fld.other W15 (Or.inr (slot_ne (Or.inl (own_w80 hw)) (Or.inl (own_w105 hw)) (by decide) own_pf0 own_pf2))
  replace P3_Fld := P3_Fld.other W15 (Or.inr (slot_ne (Or.inl (own_w82 hw)) (Or.inl (own_w105 hw)) (by decide) own_pf1 own_pf2))
  replace P4_Fld := P4_Fld.same W15
  replace P5_Exa := P5_Exa.wr W15
  replace P6_Fld := P6_Fld.other W15 (Or.inl ne_x_sb)
  replace P7_Fld := P7_Fld.other W15 (Or.inl ne_x_sb)
  replace P8_Arv := P8_Arv.other W15 ne_t_sb
  replace G13 := G13.other W15 ne_va_sb
  replace K0 := K0.wr W15 (Or.inl (List.mem_of_getElem? (i := 0) rfl))
  replace sz_h : h0.size ≤ h14.size := by rw [Wr.size W15]; exact sz_h
  refine galoadN (v := (.ref sb)) X hx 44 (hb hby own_d16_43) rfl rfl rfl ?_
  exact gRetP X hx hlk hret rfl (Or.inr (Or.inr (Or.inr (Or.inr ⟨rfl, rfl, rfl⟩)))) (hb hby own_d16_44) eT (by decide) (by decide) ⟨rfl, N, K0, P2_Fld, P3_Fld, P4_Fld, G13⟩
set_option maxRecDepth 65536 in
set_option maxHeartbeats 40000000 in
theorem rmSA7_2_16 (l : Launch) (Z : State) (a0 : Array Value) (hw : HW_ a0 Z) (sb : Addr) (x : Addr) (t : Addr) (va : Addr) (kt : ClassId) (kv : ClassId) (G1 : Int32) (bx0 : Int32) (bx1 : Int32) (bx2 : Int32) (bx3 : Int32) (bx4 : Int32) (bx5 : Int32) (bx6 : Int32) (cx0 : Int32) (cx1 : Int32) (h0 : Heap) (n0 : Nat) (Z0 : n0 ≤ h0.size) (ge_sb : n0 ≤ sb) (ge_va : n0 ≤ va) (P0_Old : Old Z n0 h0) (P1_Exa : Exa Z h0 sb "java/lang/StringBuilder") (P2_Fld : Fld Z h0 sb "java/lang/AbstractStringBuilder" "value" "[B" (.ref va)) (P3_Fld : Fld Z h0 sb "java/lang/AbstractStringBuilder" "coder" "B" (.int 0)) (P4_Fld : Fld Z h0 sb "java/lang/AbstractStringBuilder" "count" "I" (.int 7)) (P5_Exa : Exa Z h0 x "java/lang/String") (P6_Fld : Fld Z h0 x "java/lang/String" "coder" "B" (.int 0)) (P7_Fld : Fld Z h0 x "java/lang/String" "value" "[B" (.ref t)) (P8_Arv : Arv Z h0 t kt .byte (2 : Int32) [(.int cx0), (.int cx1)] (.int 0)) (P9_Arv : Arv Z h0 va kv .byte (16 : Int32) [(.int bx0), (.int bx1), (.int bx2), (.int bx3), (.int bx4), (.int bx5), (.int bx6), (.int 0), (.int 0), (.int 0), (.int 0), (.int 0), (.int 0), (.int 0), (.int 0), (.int 0)] (.int 0)) (O2 : Sta Z Z.heap "java/lang/String" "COMPACT_STRINGS" "Z" (.int G1)) (P5 : ¬ G1 = (0 : Int32)) (ntv : t ≠ va) :
    CtP l (⟨"java/lang/StringBuilder", "append", "(Ljava/lang/String;)Ljava/lang/StringBuilder;"⟩ : MethodName) jdk_67_method_7_code 2 (some (.object "java/lang/StringBuilder")) [] ({ frames := 4, cells := 0, slots := 0, locals := 61 } : Room) Z #[(.ref sb), (.ref x)] h0 (fun v h L => v = some (.ref sb) ∧ Fr n0 L ∧ Keep h0 h [sb, va] ∧ Fld Z h sb "java/lang/AbstractStringBuilder" "value" "[B" (.ref va) ∧ Fld Z h sb "java/lang/AbstractStringBuilder" "coder" "B" (.int 0) ∧ Fld Z h sb "java/lang/AbstractStringBuilder" "count" "I" (.int 9) ∧ Arv Z h va kv .byte (16 : Int32) [(.int bx0), (.int bx1), (.int bx2), (.int bx3), (.int bx4), (.int bx5), (.int bx6), (.int cx0), (.int cx1), (.int 0), (.int 0), (.int 0), (.int 0), (.int 0), (.int 0), (.int 0)] (.int 0)) := by
  refine CtP.walk (Ls := #[.val (.ref sb), .val (.ref x)]) (plainFor_of_name own_pn1) (fun m => by first | (simp [entryFrame, mkF, argsToLocals, Value.category]; done) | rfl) ?_
  intro p e s m below meth cc_ T hx hby hml hown hnm hret hlk hZ X eT
  have N := Fr.nil n0
  have K0 := Keep.refl h0 [sb, va]
  have sz_h : h0.size ≤ h0.size := Nat.le_refl _
  refine galoadN (v := (.ref sb)) X hx 1 (hb hby own_d15_0) rfl rfl rfl ?_
  refine galoadN (v := (.ref x)) X hx 2 (hb hby own_d15_1) rfl rfl rfl ?_
  refine gsuper (y := (⟨"java/lang/AbstractStringBuilder", "append", "(Ljava/lang/String;)Ljava/lang/AbstractStringBuilder;"⟩ : MethodName)) (a := sb) (argsL := [(.ref x)]) (st := []) X hx hZ hown (own_w89 hw) (sm_sel (own_w90 hw) (own_w109 hw) rfl (by decide)) (own_w90 hw) (own_w91 hw) (by decide) (own_w93 hw) (Ins.self P1_Exa) (payP (W := 0) (rmAA7_2_16 l Z a0 hw (sb) (x) (t) (va) (kt) (kv) (G1) (bx0) (bx1) (bx2) (bx3) (bx4) (bx5) (bx6) (cx0) (cx1) h0 n0 (Nat.le_trans Z0 sz_h) ge_sb ge_va P0_Old P1_Exa P2_Fld P3_Fld P4_Fld P5_Exa P6_Fld P7_Fld P8_Arv P9_Arv (O2) (P5) (ntv)) hZ (own_w93 hw) (own_w75 hw) (by decide) (by decide)) eT (by rw [hml]; rfl) (lenOf own_pd6 rfl) rfl (Nat.le_of_eq rfl) 0 0 rfl rfl (by decide) (by decide) 5 (hb hby own_d15_2) rfl ?_
  clear X eT; clear T; intro v T h1 L2 Lc X eT hL hQ2
  obtain ⟨rfl, Nq, K3, G5, G6, G7, G8⟩ := hQ2
  replace N : Fr n0 L2 := by rw [hL]; exact Fr.app N Nq
  clear Nq hL
  have ne_x_sb : x ≠ sb := ne_exa P5_Exa P1_Exa (by decide)
  have ne_x_va : x ≠ va := Exa.neArv P5_Exa P9_Arv (own_w1 hw)
  have ne_t_sb : t ≠ sb := Ne.symm (Exa.neArv P1_Exa P8_Arv (own_w66 hw))
  replace P0_Old := P0_Old.keep K3 (allS ge_sb (allS ge_va all0))
  replace P1_Exa := P1_Exa.keep K3
  replace P5_Exa := P5_Exa.keep K3
  replace P6_Fld := P6_Fld.keep K3 (ninS ne_x_sb (ninS ne_x_va nin0))
  replace P7_Fld := P7_Fld.keep K3 (ninS ne_x_sb (ninS ne_x_va nin0))
  replace P8_Arv := P8_Arv.keep K3 (ninS ne_t_sb (ninS ntv nin0))
  replace K0 := K0.trans K3 (allS (Or.inl (List.mem_of_getElem? (i := 0) rfl)) (allS (Or.inl (List.mem_of_getElem? (i := 1) rfl)) all0))
  replace sz_h : h0.size ≤ h1.size := Nat.le_trans sz_h K3.1
  show Go p e below _ T (mkF m 5 #[.val (.ref sb), .val (.ref x)] [(.ref sb)])
  refine gpop X hx 6 (hb hby own_d15_5) rfl rfl ?_
  refine galoadN (v := (.ref sb)) X hx 7 (hb hby own_d15_6) rfl rfl rfl ?_
  exact gRetP X hx hlk hret rfl (Or.inr (Or.inr (Or.inr (Or.inr ⟨rfl, rfl, rfl⟩)))) (hb hby own_d15_7) eT (by decide) (by decide) ⟨rfl, N, K0, G5, G6, G7, G8⟩
set_option maxRecDepth 65536 in
set_option maxHeartbeats 40000000 in
theorem rmSL10 (l : Launch) (Z : State) (a0 : Array Value) (hw : HW_ a0 Z) (x : Addr) (t : Addr) (kt : ClassId) (vs0 : List Value) (G1 : Int32) (h0 : Heap) (n0 : Nat) (Z0 : n0 ≤ h0.size) (P0_Old : Old Z n0 h0) (P1_Exa : Exa Z h0 x "java/lang/String") (P2_Fld : Fld Z h0 x "java/lang/String" "coder" "B" (.int 0)) (P3_Fld : Fld Z h0 x "java/lang/String" "value" "[B" (.ref t)) (P4_Arv : Arv Z h0 t kt .byte (10 : Int32) vs0 (.int 0)) (O2 : Sta Z Z.heap "java/lang/String" "COMPACT_STRINGS" "Z" (.int G1)) (P5 : ¬ G1 = (0 : Int32)) :
    CtP l (⟨"java/lang/String", "length", "()I"⟩ : MethodName) jdk_42_method_54_code 1 (some .int) [] ({ frames := 1, cells := 0, slots := 0, locals := 13 } : Room) Z #[(.ref x)] h0 (fun v h L => v = some (.int 10) ∧ Fr n0 L ∧ h = h0) := by
  refine CtP.walk (Ls := #[.val (.ref x)]) own_pn3 (fun m => by first | (simp [entryFrame, mkF, argsToLocals, Value.category]; done) | rfl) ?_
  intro p e s m below meth cc_ T hx hby hml hown hnm hret hlk hZ X eT
  have N := Fr.nil n0
  have sz_h : h0.size ≤ h0.size := Nat.le_refl _
  refine galoadN (v := (.ref x)) X hx 1 (hb hby own_d17_0) rfl rfl rfl ?_
  refine ggetF X hx hZ (host := "") hown (Or.inl (own_w28 hw)) Via.refl eT P3_Fld 4 (hb hby own_d17_1) rfl ?_
  clear X eT; clear T; intro T X eT
  refine garrlen X hx hZ eT P4_Arv 5 (hb hby own_d17_4) rfl ?_
  refine galoadN (v := (.ref x)) X hx 6 (hb hby own_d17_5) rfl rfl rfl ?_
  refine gvirtual (y := (⟨"java/lang/String", "coder", "()B"⟩ : MethodName)) (z := (⟨"java/lang/String", "coder", "()B"⟩ : MethodName)) (a := x) (argsL := []) (st := [(.int 10)]) X hx hZ hown (own_w99 hw) (own_w100 hw) (notFace_of_selects (args := #[]) (mvT hZ (own_w102 hw))) (own_w102 hw) (own_w101 hw) (by decide) P1_Exa (payP (W := 1) (rm18 l Z a0 hw (x) (G1) h0 n0 (Nat.le_trans Z0 sz_h) P0_Old P2_Fld (O2) (P5)) hZ (own_w103 hw) (own_w2 hw) (by decide) (by decide)) eT (by rw [hml]; rfl) (lenOf own_pd1 rfl) rfl (Nat.le_of_eq rfl) 0 0 rfl rfl (by decide) (by decide) 9 (hb hby own_d17_6) rfl ?_
  clear X eT; clear T; intro v T h1 L2 Lc X eT hL hQ2
  obtain ⟨rfl, Nq, hh⟩ := hQ2
  replace N : Fr n0 L2 := by rw [hL]; exact Fr.app N Nq
  clear Nq hL
  replace hh := hh.symm; subst hh
  show Go p e below _ T (mkF m 9 #[.val (.ref x)] [(.int 0), (.int 10)])
  refine gishr X hx 10 (hb hby own_d17_9) rfl ?_
  rw [show ((10 : Int32) >>> ((0 : Int32) &&& 31)) = (10 : Int32) from by decide]
  exact gRetP X hx hlk hret rfl (Or.inl ⟨rfl, by simp, _, rfl⟩) (hb hby own_d17_10) eT (by decide) (by decide) ⟨rfl, N, rfl⟩
set_option maxRecDepth 65536 in
set_option maxHeartbeats 40000000 in
theorem rmCO16_34_9 (l : Launch) (Z : State) (a0 : Array Value) (hw : HW_ a0 Z) (va : Addr) (kv : ClassId) (bx0 : Int32) (bx1 : Int32) (bx2 : Int32) (bx3 : Int32) (bx4 : Int32) (bx5 : Int32) (bx6 : Int32) (bx7 : Int32) (bx8 : Int32) (h0 : Heap) (n0 : Nat) (Z0 : n0 ≤ h0.size) (P0_Arv : Arv Z h0 va kv .byte (16 : Int32) [(.int bx0), (.int bx1), (.int bx2), (.int bx3), (.int bx4), (.int bx5), (.int bx6), (.int bx7), (.int bx8), (.int 0), (.int 0), (.int 0), (.int 0), (.int 0), (.int 0), (.int 0)] (.int 0)) :
    CtP l (⟨"java/util/Arrays", "copyOf", "([BI)[B"⟩ : MethodName) jdk_65_method_121_code 3 (some (.array .byte)) [] ({ frames := 1, cells := 1, slots := 34, locals := 18 } : Room) Z #[(.ref va), (.int 34)] h0 (fun v h L => ∃ (vb : Addr), ∃ (kw : ClassId), v = some (.ref vb) ∧ Fr n0 L ∧ Keep h0 h [] ∧ h0.size ≤ vb ∧ Arv Z h vb kw .byte (34 : Int32) [(.int bx0), (.int bx1), (.int bx2), (.int bx3), (.int bx4), (.int bx5), (.int bx6), (.int bx7), (.int bx8), (.int 0), (.int 0), (.int 0), (.int 0), (.int 0), (.int 0), (.int 0), (.int 0), (.int 0), (.int 0), (.int 0), (.int 0), (.int 0), (.int 0), (.int 0), (.int 0), (.int 0), (.int 0), (.int 0), (.int 0), (.int 0), (.int 0), (.int 0), (.int 0), (.int 0)] (.int 0)) := by
  refine CtP.walk (Ls := #[.val (.ref va), .val (.int 34), .unset]) (plainFor_of_name own_pn8) (fun m => by first | (simp [entryFrame, mkF, argsToLocals, Value.category]; done) | rfl) ?_
  intro p e s m below meth cc_ T hx hby hml hown hnm hret hlk hZ X eT
  have N := Fr.nil n0
  have K0 := Keep.refl h0 []
  have sz_h : h0.size ≤ h0.size := Nat.le_refl _
  refine giloadN (v := (34 : Int32)) X hx 1 (hb hby own_d26_0) rfl rfl ?_
  refine galoadN (v := (.ref va)) X hx 2 (hb hby own_d26_1) rfl rfl rfl ?_
  refine garrlen X hx hZ eT P0_Arv 3 (hb hby own_d26_2) rfl ?_
  refine gicmpYes X hx 14 (hb hby own_d26_3) (by decide) (by decide) (by decide) ?_
  refine giloadN (v := (34 : Int32)) X hx 15 (hb hby own_d26_14) rfl rfl ?_
  refine gnewP (aty := .byte) X hx hZ (own_w19 hw) eT (n := (34 : Int32)) (by decide) 34 (by decide) (by decide) 1 34 rfl rfl (by decide) (by decide) 17 (hb hby own_d26_15) rfl ?_
  clear X eT; clear T; intro T h1 b2 kc5 X eT ga E3 V4
  have le_a := Nat.le_of_eq ga.symm
  have ne_va_b2 : va ≠ b2 := Nat.ne_of_lt (Nat.lt_of_lt_of_le P0_Arv.lt le_a)
  have ne_b2_va : b2 ≠ va := Ne.symm ne_va_b2
  have sz_b2 : h0.size ≤ b2 := Nat.le_trans sz_h le_a
  have ge_b2 : n0 ≤ b2 := Nat.le_trans Z0 sz_b2
  clear le_a ga
  replace P0_Arv := P0_Arv.ext E3
  replace K0 := K0.ext E3
  replace sz_h : h0.size ≤ h1.size := Nat.le_trans sz_h E3.1
  replace V4 : Arv Z h1 b2 kc5 .byte (34 : Int32) [(.int 0), (.int 0), (.int 0), (.int 0), (.int 0), (.int 0), (.int 0), (.int 0), (.int 0), (.int 0), (.int 0), (.int 0), (.int 0), (.int 0), (.int 0), (.int 0), (.int 0), (.int 0), (.int 0), (.int 0), (.int 0), (.int 0), (.int 0), (.int 0), (.int 0), (.int 0), (.int 0), (.int 0), (.int 0), (.int 0), (.int 0), (.int 0), (.int 0), (.int 0)] (.int 0) := V4.pad (pad_rep [] _ 34)
  refine gastoreN X hx #[.val (.ref va), .val (.int 34), .val (.ref b2)] 18 (hb hby own_d26_17) rfl rfl rfl ?_
  refine galoadN (v := (.ref va)) X hx 19 (hb hby own_d26_18) rfl rfl rfl ?_
  refine giconst X hx (0 : Int32) 20 (hb hby own_d26_19) rfl rfl ?_
  refine galoadN (v := (.ref b2)) X hx 21 (hb hby own_d26_20) rfl rfl rfl ?_
  refine giconst X hx (0 : Int32) 22 (hb hby own_d26_21) rfl rfl ?_
  refine galoadN (v := (.ref va)) X hx 23 (hb hby own_d26_22) rfl rfl rfl ?_
  refine garrlen X hx hZ eT P0_Arv 24 (hb hby own_d26_23) rfl ?_
  refine giloadN (v := (34 : Int32)) X hx 25 (hb hby own_d26_24) rfl rfl ?_
  refine gstatic (y := (⟨"java/lang/Math", "min", "(II)I"⟩ : MethodName)) (argsL := [(.int 16), (.int 34)]) (st := [(.int 0), (.ref b2), (.int 0), (.ref va)]) X hx hZ hown (own_w151 hw) (own_w152 hw) (own_w143 hw) (own_w153 hw) (by decide) (payP (W := 4) (rmMn16_34 l Z a0 hw h1 n0 (Nat.le_trans Z0 sz_h)) hZ (own_w153 hw) (own_w143 hw) (by decide) (by decide)) eT (by rw [hml]; rfl) (lenOf own_pd7 rfl) rfl (Nat.le_of_eq rfl) 1 34 rfl rfl (by decide) (by decide) 28 (hb hby own_d26_25) rfl ?_
  clear X eT; clear T; intro v T h6 L2 Lc X eT hL hQ7
  obtain ⟨rfl, Nq, hh⟩ := hQ7
  replace N : Fr n0 L2 := by rw [hL]; exact Fr.app N Nq
  clear Nq hL
  replace hh := hh.symm; subst hh
  show Go p e below _ T (mkF m 28 #[.val (.ref va), .val (.int 34), .val (.ref b2)] [(.int 16), (.int 0), (.ref b2), (.int 0), (.ref va)])
  refine gcpA (st := []) X hx hZ hown (own_w154 hw) (own_w130 hw) (own_w128 hw) (own_w129 hw) eT (by rw [hml]; rfl) P0_Arv V4 rfl 0 0 16 rfl rfl rfl (by decide) (by decide) (by decide) (by decide) (by decide) (Nat.le_of_ble_eq_true rfl) ([(.int bx0), (.int bx1), (.int bx2), (.int bx3), (.int bx4), (.int bx5), (.int bx6), (.int bx7), (.int bx8), (.int 0), (.int 0), (.int 0), (.int 0), (.int 0), (.int 0), (.int 0), (.int 0), (.int 0), (.int 0), (.int 0), (.int 0), (.int 0), (.int 0), (.int 0), (.int 0), (.int 0), (.int 0), (.int 0), (.int 0), (.int 0), (.int 0), (.int 0), (.int 0), (.int 0)] : List Value) rfl N ge_b2 (by decide) 0 (Nat.le_of_eq rfl) (by decide) 31 (hb hby own_d26_28) rfl ?_
  clear X eT N; clear T; intro T h10 L X eT N K11 V12
  replace P0_Arv := P0_Arv.keep K11 (ninS ne_va_b2 nin0)
  replace K0 := K0.trans K11 (allS (Or.inr sz_b2) all0)
  replace sz_h : h0.size ≤ h10.size := Nat.le_trans sz_h K11.1
  show Go p e below _ T (mkF m 31 #[.val (.ref va), .val (.int 34), .val (.ref b2)] [])
  refine galoadN (v := (.ref b2)) X hx 32 (hb hby own_d26_31) rfl rfl rfl ?_
  exact gRetP X hx hlk hret rfl (Or.inr (Or.inr (Or.inr (Or.inr ⟨rfl, rfl, rfl⟩)))) (hb hby own_d26_32) eT (by decide) (by decide) ⟨b2, kc5, rfl, N, K0, sz_b2, V12⟩
set_option maxRecDepth 65536 in
set_option maxHeartbeats 40000000 in
theorem rmEG9_19_16 (l : Launch) (Z : State) (a0 : Array Value) (hw : HW_ a0 Z) (sb : Addr) (va : Addr) (kv : ClassId) (bx0 : Int32) (bx1 : Int32) (bx2 : Int32) (bx3 : Int32) (bx4 : Int32) (bx5 : Int32) (bx6 : Int32) (bx7 : Int32) (bx8 : Int32) (h0 : Heap) (n0 : Nat) (Z0 : n0 ≤ h0.size) (ge_sb : n0 ≤ sb) (P0_Exa : Exa Z h0 sb "java/lang/StringBuilder") (P1_Fld : Fld Z h0 sb "java/lang/AbstractStringBuilder" "value" "[B" (.ref va)) (P2_Fld : Fld Z h0 sb "java/lang/AbstractStringBuilder" "coder" "B" (.int 0)) (P3_Fld : Fld Z h0 sb "java/lang/AbstractStringBuilder" "count" "I" (.int 9)) (P4_Arv : Arv Z h0 va kv .byte (16 : Int32) [(.int bx0), (.int bx1), (.int bx2), (.int bx3), (.int bx4), (.int bx5), (.int bx6), (.int bx7), (.int bx8), (.int 0), (.int 0), (.int 0), (.int 0), (.int 0), (.int 0), (.int 0)] (.int 0)) :
    CtP l (⟨"java/lang/AbstractStringBuilder", "ensureCapacityInternal", "(I)V"⟩ : MethodName) jdk_68_method_9_code 3 none [] ({ frames := 3, cells := 1, slots := 34, locals := 48 } : Room) Z #[(.ref sb), (.int 19)] h0 (fun v h L => ∃ (vb : Addr), ∃ (kw : ClassId), v = none ∧ Fr n0 L ∧ Keep h0 h [sb] ∧ h0.size ≤ vb ∧ Fld Z h sb "java/lang/AbstractStringBuilder" "value" "[B" (.ref vb) ∧ Fld Z h sb "java/lang/AbstractStringBuilder" "coder" "B" (.int 0) ∧ Fld Z h sb "java/lang/AbstractStringBuilder" "count" "I" (.int 9) ∧ Arv Z h vb kw .byte (34 : Int32) [(.int bx0), (.int bx1), (.int bx2), (.int bx3), (.int bx4), (.int bx5), (.int bx6), (.int bx7), (.int bx8), (.int 0), (.int 0), (.int 0), (.int 0), (.int 0), (.int 0), (.int 0), (.int 0), (.int 0), (.int 0), (.int 0), (.int 0), (.int 0), (.int 0), (.int 0), (.int 0), (.int 0), (.int 0), (.int 0), (.int 0), (.int 0), (.int 0), (.int 0), (.int 0), (.int 0)] (.int 0)) := by
  refine CtP.walk (Ls := #[.val (.ref sb), .val (.int 19), .unset]) (plainFor_of_name own_pn0) (fun m => by first | (simp [entryFrame, mkF, argsToLocals, Value.category]; done) | rfl) ?_
  intro p e s m below meth cc_ T hx hby hml hown hnm hret hlk hZ X eT
  have N := Fr.nil n0
  have K0 := Keep.refl h0 [sb]
  have sz_h : h0.size ≤ h0.size := Nat.le_refl _
  refine galoadN (v := (.ref sb)) X hx 1 (hb hby own_d19_0) rfl rfl rfl ?_
  refine ggetF X hx hZ (host := "") hown (Or.inl (own_w79 hw)) Via.refl eT P1_Fld 4 (hb hby own_d19_1) rfl ?_
  clear X eT; clear T; intro T X eT
  refine garrlen X hx hZ eT P4_Arv 5 (hb hby own_d19_4) rfl ?_
  refine galoadN (v := (.ref sb)) X hx 6 (hb hby own_d19_5) rfl rfl rfl ?_
  refine ggetF X hx hZ (host := "") hown (Or.inl (own_w81 hw)) Via.refl eT P2_Fld 9 (hb hby own_d19_6) rfl ?_
  clear X eT; clear T; intro T X eT
  refine gishr X hx 10 (hb hby own_d19_9) rfl ?_
  rw [show ((16 : Int32) >>> ((0 : Int32) &&& 31)) = (16 : Int32) from by decide]
  refine gistoreN X hx #[.val (.ref sb), .val (.int 19), .val (.int 16)] 11 (hb hby own_d19_10) rfl rfl ?_
  refine giloadN (v := (19 : Int32)) X hx 12 (hb hby own_d19_11) rfl rfl ?_
  refine giloadN (v := (16 : Int32)) X hx 13 (hb hby own_d19_12) rfl rfl ?_
  refine gisub X hx 14 (hb hby own_d19_13) rfl ?_
  rw [show ((19 : Int32) - (16 : Int32)) = (3 : Int32) from by decide]
  refine gifNo X hx 17 (hb hby own_d19_14) rfl (by decide) ?_
  refine galoadN (v := (.ref sb)) X hx 18 (hb hby own_d19_17) rfl rfl rfl ?_
  refine galoadN (v := (.ref sb)) X hx 19 (hb hby own_d19_18) rfl rfl rfl ?_
  refine ggetF X hx hZ (host := "") hown (Or.inl (own_w79 hw)) Via.refl eT P1_Fld 22 (hb hby own_d19_19) rfl ?_
  clear X eT; clear T; intro T X eT
  refine galoadN (v := (.ref sb)) X hx 23 (hb hby own_d19_22) rfl rfl rfl ?_
  refine giloadN (v := (19 : Int32)) X hx 24 (hb hby own_d19_23) rfl rfl ?_
  refine gpriv (y := (⟨"java/lang/AbstractStringBuilder", "newCapacity", "(I)I"⟩ : MethodName)) (a := sb) (argsL := [(.int 19)]) (st := [(.ref va), (.ref sb)]) X hx hZ hown (own_w132 hw) (own_w133 hw) (nf_sel (args := #[]) (mvT hZ (own_w109 hw)) rfl) (own_w134 hw) (own_w136 hw) (by decide) P0_Exa (payP (W := 2) (rmNC16_19 l Z a0 hw (sb) (va) (kv) ([(.int bx0), (.int bx1), (.int bx2), (.int bx3), (.int bx4), (.int bx5), (.int bx6), (.int bx7), (.int bx8), (.int 0), (.int 0), (.int 0), (.int 0), (.int 0), (.int 0), (.int 0)]) h0 n0 (Nat.le_trans Z0 sz_h) P1_Fld P2_Fld P4_Arv) hZ (own_w136 hw) (own_w75 hw) (by decide) (by decide)) eT (by rw [hml]; rfl) (lenOf own_pd9 rfl) rfl (Nat.le_of_eq rfl) 0 0 rfl rfl (by decide) (by decide) 27 (hb hby own_d19_24) rfl ?_
  clear X eT; clear T; intro v T h1 L2 Lc X eT hL hQ2
  obtain ⟨rfl, Nq, hh⟩ := hQ2
  replace N : Fr n0 L2 := by rw [hL]; exact Fr.app N Nq
  clear Nq hL
  replace hh := hh.symm; subst hh
  show Go p e below _ T (mkF m 27 #[.val (.ref sb), .val (.int 19), .val (.int 16)] [(.int 34), (.ref va), (.ref sb)])
  refine galoadN (v := (.ref sb)) X hx 28 (hb hby own_d19_27) rfl rfl rfl ?_
  refine ggetF X hx hZ (host := "") hown (Or.inl (own_w81 hw)) Via.refl eT P2_Fld 31 (hb hby own_d19_28) rfl ?_
  clear X eT; clear T; intro T X eT
  refine gishl X hx 32 (hb hby own_d19_31) rfl ?_
  rw [show ((34 : Int32) <<< ((0 : Int32) &&& 31)) = (34 : Int32) from by decide]
  refine gstatic (y := (⟨"java/util/Arrays", "copyOf", "([BI)[B"⟩ : MethodName)) (argsL := [(.ref va), (.int 34)]) (st := [(.ref sb)]) X hx hZ hown (own_w147 hw) (own_w148 hw) (own_w149 hw) (own_w150 hw) (by decide) (payP (W := 1) (rmCO16_34_9 l Z a0 hw (va) (kv) (bx0) (bx1) (bx2) (bx3) (bx4) (bx5) (bx6) (bx7) (bx8) h0 n0 (Nat.le_trans Z0 sz_h) P4_Arv) hZ (own_w150 hw) (own_w149 hw) (by decide) (by decide)) eT (by rw [hml]; rfl) (lenOf own_pd10 rfl) rfl (Nat.le_of_eq rfl) 1 34 rfl rfl (by decide) (by decide) 35 (hb hby own_d19_32) rfl ?_
  clear X eT; clear T; intro v T h5 L2 Lc X eT hL hQ6
  obtain ⟨vb_7, kw_8, rfl, Nq, K9, zz_vb_7, G11⟩ := hQ6
  replace N : Fr n0 L2 := by rw [hL]; exact Fr.app N Nq
  clear Nq hL
  have ne_sb_vb_7 : sb ≠ vb_7 := Nat.ne_of_lt (Nat.lt_of_lt_of_le P0_Exa.lt zz_vb_7)
  have ne_vb_7_sb : vb_7 ≠ sb := Ne.symm ne_sb_vb_7
  have ne_va_vb_7 : va ≠ vb_7 := Nat.ne_of_lt (Nat.lt_of_lt_of_le P4_Arv.lt zz_vb_7)
  have ne_vb_7_va : vb_7 ≠ va := Ne.symm ne_va_vb_7
  have sz_vb_7 : h0.size ≤ vb_7 := Nat.le_trans sz_h zz_vb_7
  have ge_vb_7 : n0 ≤ vb_7 := Nat.le_trans Z0 sz_vb_7
  replace P0_Exa := P0_Exa.keep K9
  replace P1_Fld := P1_Fld.keep K9 nin0
  replace P2_Fld := P2_Fld.keep K9 nin0
  replace P3_Fld := P3_Fld.keep K9 nin0
  replace P4_Arv := P4_Arv.keep K9 nin0
  replace K0 := K0.trans K9 all0
  replace sz_h : h0.size ≤ h5.size := Nat.le_trans sz_h K9.1
  show Go p e below _ T (mkF m 35 #[.val (.ref sb), .val (.int 19), .val (.int 16)] [(.ref vb_7), (.ref sb)])
  refine gputF X hx hZ (host := "") hown (Or.inl (own_w79 hw)) Via.refl eT P1_Fld P0_Exa (Or.inl (own_w80 hw)) (own_w66 hw) (ty := (.array .byte)) own_pf0 rfl rfl N ge_sb 38 (hb hby own_d19_35) rfl ?_
  clear X eT N; clear T; intro T h12 L X eT N W13
  have ne_va_sb : va ≠ sb := Ne.symm (Exa.neArv P0_Exa P4_Arv (own_w66 hw))
  replace P0_Exa := P0_Exa.wr W13
  replace P1_Fld := P1_Fld.same W13
  replace P2_Fld := P2_Fld.other W13 (Or.inr (slot_ne (Or.inl (own_w82 hw)) (Or.inl (own_w80 hw)) (by decide) own_pf1 own_pf0))
  replace P3_Fld := P3_Fld.other W13 (Or.inr (slot_ne (Or.inl (own_w105 hw)) (Or.inl (own_w80 hw)) (by decide) own_pf2 own_pf0))
  replace P4_Arv := P4_Arv.other W13 ne_va_sb
  replace G11 := G11.other W13 ne_vb_7_sb
  replace K0 := K0.wr W13 (Or.inl (List.mem_of_getElem? (i := 0) rfl))
  replace sz_h : h0.size ≤ h12.size := by rw [Wr.size W13]; exact sz_h
  exact gRetP0 X hx hlk hret (hb hby own_d19_38) eT (by decide) (by decide) ⟨vb_7, kw_8, rfl, N, K0, sz_vb_7, P1_Fld, P2_Fld, P3_Fld, G11⟩
set_option maxRecDepth 65536 in
set_option maxHeartbeats 40000000 in
theorem rmGB9_10_34 (l : Launch) (Z : State) (a0 : Array Value) (hw : HW_ a0 Z) (x : Addr) (t : Addr) (va : Addr) (kt : ClassId) (kv : ClassId) (G1 : Int32) (bx0 : Int32) (bx1 : Int32) (bx2 : Int32) (bx3 : Int32) (bx4 : Int32) (bx5 : Int32) (bx6 : Int32) (bx7 : Int32) (bx8 : Int32) (cx0 : Int32) (cx1 : Int32) (cx2 : Int32) (cx3 : Int32) (cx4 : Int32) (cx5 : Int32) (cx6 : Int32) (cx7 : Int32) (cx8 : Int32) (cx9 : Int32) (h0 : Heap) (n0 : Nat) (Z0 : n0 ≤ h0.size) (ge_va : n0 ≤ va) (P0_Old : Old Z n0 h0) (P1_Exa : Exa Z h0 x "java/lang/String") (P2_Fld : Fld Z h0 x "java/lang/String" "coder" "B" (.int 0)) (P3_Fld : Fld Z h0 x "java/lang/String" "value" "[B" (.ref t)) (P4_Arv : Arv Z h0 t kt .byte (10 : Int32) [(.int cx0), (.int cx1), (.int cx2), (.int cx3), (.int cx4), (.int cx5), (.int cx6), (.int cx7), (.int cx8), (.int cx9)] (.int 0)) (P5_Arv : Arv Z h0 va kv .byte (34 : Int32) [(.int bx0), (.int bx1), (.int bx2), (.int bx3), (.int bx4), (.int bx5), (.int bx6), (.int bx7), (.int bx8), (.int 0), (.int 0), (.int 0), (.int 0), (.int 0), (.int 0), (.int 0), (.int 0), (.int 0), (.int 0), (.int 0), (.int 0), (.int 0), (.int 0), (.int 0), (.int 0), (.int 0), (.int 0), (.int 0), (.int 0), (.int 0), (.int 0), (.int 0), (.int 0), (.int 0)] (.int 0)) (O2 : Sta Z Z.heap "java/lang/String" "COMPACT_STRINGS" "Z" (.int G1)) (P5 : ¬ G1 = (0 : Int32)) (ntv : t ≠ va) :
    CtP l (⟨"java/lang/String", "getBytes", "([BIB)V"⟩ : MethodName) jdk_42_method_147_code 4 none [] ({ frames := 1, cells := 0, slots := 0, locals := 18 } : Room) Z #[(.ref x), (.ref va), (.int 9), (.int 0)] h0 (fun v h L => v = none ∧ Fr n0 L ∧ Keep h0 h [va] ∧ Arv Z h va kv .byte (34 : Int32) [(.int bx0), (.int bx1), (.int bx2), (.int bx3), (.int bx4), (.int bx5), (.int bx6), (.int bx7), (.int bx8), (.int cx0), (.int cx1), (.int cx2), (.int cx3), (.int cx4), (.int cx5), (.int cx6), (.int cx7), (.int cx8), (.int cx9), (.int 0), (.int 0), (.int 0), (.int 0), (.int 0), (.int 0), (.int 0), (.int 0), (.int 0), (.int 0), (.int 0), (.int 0), (.int 0), (.int 0), (.int 0)] (.int 0)) := by
  refine CtP.walk (Ls := #[.val (.ref x), .val (.ref va), .val (.int 9), .val (.int 0)]) own_pn4 (fun m => by first | (simp [entryFrame, mkF, argsToLocals, Value.category]; done) | rfl) ?_
  intro p e s m below meth cc_ T hx hby hml hown hnm hret hlk hZ X eT
  have N := Fr.nil n0
  have K0 := Keep.refl h0 [va]
  have sz_h : h0.size ≤ h0.size := Nat.le_refl _
  refine galoadN (v := (.ref x)) X hx 1 (hb hby own_d22_0) rfl rfl rfl ?_
  refine gvirtual (y := (⟨"java/lang/String", "coder", "()B"⟩ : MethodName)) (z := (⟨"java/lang/String", "coder", "()B"⟩ : MethodName)) (a := x) (argsL := []) (st := []) X hx hZ hown (own_w99 hw) (own_w100 hw) (notFace_of_selects (args := #[]) (mvT hZ (own_w102 hw))) (own_w102 hw) (own_w101 hw) (by decide) P1_Exa (payP (W := 0) (rm18 l Z a0 hw (x) (G1) h0 n0 (Nat.le_trans Z0 sz_h) P0_Old P2_Fld (O2) (P5)) hZ (own_w103 hw) (own_w2 hw) (by decide) (by decide)) eT (by rw [hml]; rfl) (lenOf own_pd1 rfl) rfl (Nat.le_of_eq rfl) 0 0 rfl rfl (by decide) (by decide) 4 (hb hby own_d22_1) rfl ?_
  clear X eT; clear T; intro v T h1 L2 Lc X eT hL hQ2
  obtain ⟨rfl, Nq, hh⟩ := hQ2
  replace N : Fr n0 L2 := by rw [hL]; exact Fr.app N Nq
  clear Nq hL
  replace hh := hh.symm; subst hh
  show Go p e below _ T (mkF m 4 #[.val (.ref x), .val (.ref va), .val (.int 9), .val (.int 0)] [(.int 0)])
  refine giloadN (v := (0 : Int32)) X hx 5 (hb hby own_d22_4) rfl rfl ?_
  refine gicmpNo X hx 8 (hb hby own_d22_5) rfl (by decide) ?_
  refine galoadN (v := (.ref x)) X hx 9 (hb hby own_d22_8) rfl rfl rfl ?_
  refine ggetF X hx hZ (host := "") hown (Or.inl (own_w28 hw)) Via.refl eT P3_Fld 12 (hb hby own_d22_9) rfl ?_
  clear X eT; clear T; intro T X eT
  refine giconst X hx (0 : Int32) 13 (hb hby own_d22_12) rfl rfl ?_
  refine galoadN (v := (.ref va)) X hx 14 (hb hby own_d22_13) rfl rfl rfl ?_
  refine giloadN (v := (9 : Int32)) X hx 15 (hb hby own_d22_14) rfl rfl ?_
  refine giloadN (v := (0 : Int32)) X hx 16 (hb hby own_d22_15) rfl rfl ?_
  refine gishl X hx 17 (hb hby own_d22_16) rfl ?_
  rw [show ((9 : Int32) <<< ((0 : Int32) &&& 31)) = (9 : Int32) from by decide]
  refine galoadN (v := (.ref x)) X hx 18 (hb hby own_d22_17) rfl rfl rfl ?_
  refine ggetF X hx hZ (host := "") hown (Or.inl (own_w28 hw)) Via.refl eT P3_Fld 21 (hb hby own_d22_18) rfl ?_
  clear X eT; clear T; intro T X eT
  refine garrlen X hx hZ eT P4_Arv 22 (hb hby own_d22_21) rfl ?_
  refine gcpA (st := []) X hx hZ hown (own_w127 hw) (own_w130 hw) (own_w128 hw) (own_w129 hw) eT (by rw [hml]; rfl) P4_Arv P5_Arv rfl 0 9 10 rfl rfl rfl (by decide) (by decide) (by decide) (by decide) (by decide) (Nat.le_of_ble_eq_true rfl) ([(.int bx0), (.int bx1), (.int bx2), (.int bx3), (.int bx4), (.int bx5), (.int bx6), (.int bx7), (.int bx8), (.int cx0), (.int cx1), (.int cx2), (.int cx3), (.int cx4), (.int cx5), (.int cx6), (.int cx7), (.int cx8), (.int cx9), (.int 0), (.int 0), (.int 0), (.int 0), (.int 0), (.int 0), (.int 0), (.int 0), (.int 0), (.int 0), (.int 0), (.int 0), (.int 0), (.int 0), (.int 0)] : List Value) rfl N ge_va (by decide) 0 (Nat.le_of_eq rfl) (by decide) 25 (hb hby own_d22_22) rfl ?_
  clear X eT N; clear T; intro T h5 L X eT N K6 V7
  have ne_x_va : x ≠ va := Exa.neArv P1_Exa P5_Arv (own_w1 hw)
  replace P0_Old := P0_Old.keep K6 (allS ge_va all0)
  replace P1_Exa := P1_Exa.keep K6
  replace P2_Fld := P2_Fld.keep K6 (ninS ne_x_va nin0)
  replace P3_Fld := P3_Fld.keep K6 (ninS ne_x_va nin0)
  replace P4_Arv := P4_Arv.keep K6 (ninS ntv nin0)
  replace K0 := K0.trans K6 (allS (Or.inl (List.mem_of_getElem? (i := 0) rfl)) all0)
  replace sz_h : h0.size ≤ h5.size := Nat.le_trans sz_h K6.1
  show Go p e below _ T (mkF m 25 #[.val (.ref x), .val (.ref va), .val (.int 9), .val (.int 0)] [])
  refine ggoto X hx 43 (hb hby own_d22_25) (by decide) (by decide) ?_
  exact gRetP0 X hx hlk hret (hb hby own_d22_43) eT (by decide) (by decide) ⟨rfl, N, K0, V7⟩
set_option maxRecDepth 65536 in
set_option maxHeartbeats 40000000 in
theorem rmPA9_10_34 (l : Launch) (Z : State) (a0 : Array Value) (hw : HW_ a0 Z) (sb : Addr) (x : Addr) (t : Addr) (va : Addr) (kt : ClassId) (kv : ClassId) (G1 : Int32) (bx0 : Int32) (bx1 : Int32) (bx2 : Int32) (bx3 : Int32) (bx4 : Int32) (bx5 : Int32) (bx6 : Int32) (bx7 : Int32) (bx8 : Int32) (cx0 : Int32) (cx1 : Int32) (cx2 : Int32) (cx3 : Int32) (cx4 : Int32) (cx5 : Int32) (cx6 : Int32) (cx7 : Int32) (cx8 : Int32) (cx9 : Int32) (h0 : Heap) (n0 : Nat) (Z0 : n0 ≤ h0.size) (ge_va : n0 ≤ va) (P0_Old : Old Z n0 h0) (P1_Exa : Exa Z h0 sb "java/lang/StringBuilder") (P2_Fld : Fld Z h0 sb "java/lang/AbstractStringBuilder" "value" "[B" (.ref va)) (P3_Fld : Fld Z h0 sb "java/lang/AbstractStringBuilder" "coder" "B" (.int 0)) (P4_Exa : Exa Z h0 x "java/lang/String") (P5_Fld : Fld Z h0 x "java/lang/String" "coder" "B" (.int 0)) (P6_Fld : Fld Z h0 x "java/lang/String" "value" "[B" (.ref t)) (P7_Arv : Arv Z h0 t kt .byte (10 : Int32) [(.int cx0), (.int cx1), (.int cx2), (.int cx3), (.int cx4), (.int cx5), (.int cx6), (.int cx7), (.int cx8), (.int cx9)] (.int 0)) (P8_Arv : Arv Z h0 va kv .byte (34 : Int32) [(.int bx0), (.int bx1), (.int bx2), (.int bx3), (.int bx4), (.int bx5), (.int bx6), (.int bx7), (.int bx8), (.int 0), (.int 0), (.int 0), (.int 0), (.int 0), (.int 0), (.int 0), (.int 0), (.int 0), (.int 0), (.int 0), (.int 0), (.int 0), (.int 0), (.int 0), (.int 0), (.int 0), (.int 0), (.int 0), (.int 0), (.int 0), (.int 0), (.int 0), (.int 0), (.int 0)] (.int 0)) (O2 : Sta Z Z.heap "java/lang/String" "COMPACT_STRINGS" "Z" (.int G1)) (P5 : ¬ G1 = (0 : Int32)) (ntv : t ≠ va) :
    CtP l (⟨"java/lang/AbstractStringBuilder", "putStringAt", "(ILjava/lang/String;)V"⟩ : MethodName) jdk_68_method_73_code 3 none [] ({ frames := 2, cells := 0, slots := 0, locals := 33 } : Room) Z #[(.ref sb), (.int 9), (.ref x)] h0 (fun v h L => v = none ∧ Fr n0 L ∧ Keep h0 h [va] ∧ Arv Z h va kv .byte (34 : Int32) [(.int bx0), (.int bx1), (.int bx2), (.int bx3), (.int bx4), (.int bx5), (.int bx6), (.int bx7), (.int bx8), (.int cx0), (.int cx1), (.int cx2), (.int cx3), (.int cx4), (.int cx5), (.int cx6), (.int cx7), (.int cx8), (.int cx9), (.int 0), (.int 0), (.int 0), (.int 0), (.int 0), (.int 0), (.int 0), (.int 0), (.int 0), (.int 0), (.int 0), (.int 0), (.int 0), (.int 0), (.int 0)] (.int 0)) := by
  refine CtP.walk (Ls := #[.val (.ref sb), .val (.int 9), .val (.ref x)]) (plainFor_of_name own_pn0) (fun m => by first | (simp [entryFrame, mkF, argsToLocals, Value.category]; done) | rfl) ?_
  intro p e s m below meth cc_ T hx hby hml hown hnm hret hlk hZ X eT
  have N := Fr.nil n0
  have K0 := Keep.refl h0 [va]
  have sz_h : h0.size ≤ h0.size := Nat.le_refl _
  refine galoadN (v := (.ref sb)) X hx 1 (hb hby own_d20_0) rfl rfl rfl ?_
  refine galoadN (v := (.ref x)) X hx 2 (hb hby own_d20_1) rfl rfl rfl ?_
  refine gpriv (y := (⟨"java/lang/AbstractStringBuilder", "inflateIfNeededFor", "(Ljava/lang/String;)V"⟩ : MethodName)) (a := sb) (argsL := [(.ref x)]) (st := []) X hx hZ hown (own_w116 hw) (own_w117 hw) (nf_sel (args := #[]) (mvT hZ (own_w109 hw)) rfl) (own_w118 hw) (own_w120 hw) (by decide) P1_Exa (payP (W := 0) (rm21 l Z a0 hw (sb) (x) (G1) h0 n0 (Nat.le_trans Z0 sz_h) P0_Old P4_Exa P3_Fld P5_Fld (O2) (P5)) hZ (own_w120 hw) (own_w75 hw) (by decide) (by decide)) eT (by rw [hml]; rfl) (lenOf own_pd2 rfl) rfl (Nat.le_of_eq rfl) 0 0 rfl rfl (by decide) (by decide) 5 (hb hby own_d20_2) rfl ?_
  clear X eT; clear T; intro v T h1 L2 Lc X eT hL hQ2
  obtain ⟨rfl, Nq, hh⟩ := hQ2
  replace N : Fr n0 L2 := by rw [hL]; exact Fr.app N Nq
  clear Nq hL
  replace hh := hh.symm; subst hh
  show Go p e below _ T (mkF m 5 #[.val (.ref sb), .val (.int 9), .val (.ref x)] [])
  refine galoadN (v := (.ref x)) X hx 6 (hb hby own_d20_5) rfl rfl rfl ?_
  refine galoadN (v := (.ref sb)) X hx 7 (hb hby own_d20_6) rfl rfl rfl ?_
  refine ggetF X hx hZ (host := "") hown (Or.inl (own_w79 hw)) Via.refl eT P2_Fld 10 (hb hby own_d20_7) rfl ?_
  clear X eT; clear T; intro T X eT
  refine giloadN (v := (9 : Int32)) X hx 11 (hb hby own_d20_10) rfl rfl ?_
  refine galoadN (v := (.ref sb)) X hx 12 (hb hby own_d20_11) rfl rfl rfl ?_
  refine ggetF X hx hZ (host := "") hown (Or.inl (own_w81 hw)) Via.refl eT P3_Fld 15 (hb hby own_d20_12) rfl ?_
  clear X eT; clear T; intro T X eT
  refine gvirtual (y := (⟨"java/lang/String", "getBytes", "([BIB)V"⟩ : MethodName)) (z := (⟨"java/lang/String", "getBytes", "([BIB)V"⟩ : MethodName)) (a := x) (argsL := [(.ref va), (.int 9), (.int 0)]) (st := []) X hx hZ hown (own_w122 hw) (own_w123 hw) (notFace_of_selects (args := #[]) (mvT hZ (own_w125 hw))) (own_w125 hw) (own_w124 hw) (by decide) P4_Exa (payP (W := 0) (rmGB9_10_34 l Z a0 hw (x) (t) (va) (kt) (kv) (G1) (bx0) (bx1) (bx2) (bx3) (bx4) (bx5) (bx6) (bx7) (bx8) (cx0) (cx1) (cx2) (cx3) (cx4) (cx5) (cx6) (cx7) (cx8) (cx9) h0 n0 (Nat.le_trans Z0 sz_h) ge_va P0_Old P4_Exa P5_Fld P6_Fld P7_Arv P8_Arv (O2) (P5) (ntv)) hZ (own_w126 hw) (own_w2 hw) (by decide) (by decide)) eT (by rw [hml]; rfl) (lenOf own_pd3 rfl) rfl (Nat.le_of_eq rfl) 0 0 rfl rfl (by decide) (by decide) 18 (hb hby own_d20_15) rfl ?_
  clear X eT; clear T; intro v T h5 L2 Lc X eT hL hQ6
  obtain ⟨rfl, Nq, K7, G9⟩ := hQ6
  replace N : Fr n0 L2 := by rw [hL]; exact Fr.app N Nq
  clear Nq hL
  have ne_sb_va : sb ≠ va := Exa.neArv P1_Exa P8_Arv (own_w66 hw)
  have ne_x_va : x ≠ va := Exa.neArv P4_Exa P8_Arv (own_w1 hw)
  replace P0_Old := P0_Old.keep K7 (allS ge_va all0)
  replace P1_Exa := P1_Exa.keep K7
  replace P2_Fld := P2_Fld.keep K7 (ninS ne_sb_va nin0)
  replace P3_Fld := P3_Fld.keep K7 (ninS ne_sb_va nin0)
  replace P4_Exa := P4_Exa.keep K7
  replace P5_Fld := P5_Fld.keep K7 (ninS ne_x_va nin0)
  replace P6_Fld := P6_Fld.keep K7 (ninS ne_x_va nin0)
  replace P7_Arv := P7_Arv.keep K7 (ninS ntv nin0)
  replace K0 := K0.trans K7 (allS (Or.inl (List.mem_of_getElem? (i := 0) rfl)) all0)
  replace sz_h : h0.size ≤ h5.size := Nat.le_trans sz_h K7.1
  show Go p e below _ T (mkF m 18 #[.val (.ref sb), .val (.int 9), .val (.ref x)] [])
  exact gRetP0 X hx hlk hret (hb hby own_d20_18) eT (by decide) (by decide) ⟨rfl, N, K0, G9⟩
set_option maxRecDepth 65536 in
set_option maxHeartbeats 40000000 in
theorem rmAA9_10_16 (l : Launch) (Z : State) (a0 : Array Value) (hw : HW_ a0 Z) (sb : Addr) (x : Addr) (t : Addr) (va : Addr) (kt : ClassId) (kv : ClassId) (G1 : Int32) (bx0 : Int32) (bx1 : Int32) (bx2 : Int32) (bx3 : Int32) (bx4 : Int32) (bx5 : Int32) (bx6 : Int32) (bx7 : Int32) (bx8 : Int32) (cx0 : Int32) (cx1 : Int32) (cx2 : Int32) (cx3 : Int32) (cx4 : Int32) (cx5 : Int32) (cx6 : Int32) (cx7 : Int32) (cx8 : Int32) (cx9 : Int32) (h0 : Heap) (n0 : Nat) (Z0 : n0 ≤ h0.size) (ge_sb : n0 ≤ sb) (P0_Old : Old Z n0 h0) (P1_Exa : Exa Z h0 sb "java/lang/StringBuilder") (P2_Fld : Fld Z h0 sb "java/lang/AbstractStringBuilder" "value" "[B" (.ref va)) (P3_Fld : Fld Z h0 sb "java/lang/AbstractStringBuilder" "coder" "B" (.int 0)) (P4_Fld : Fld Z h0 sb "java/lang/AbstractStringBuilder" "count" "I" (.int 9)) (P5_Exa : Exa Z h0 x "java/lang/String") (P6_Fld : Fld Z h0 x "java/lang/String" "coder" "B" (.int 0)) (P7_Fld : Fld Z h0 x "java/lang/String" "value" "[B" (.ref t)) (P8_Arv : Arv Z h0 t kt .byte (10 : Int32) [(.int cx0), (.int cx1), (.int cx2), (.int cx3), (.int cx4), (.int cx5), (.int cx6), (.int cx7), (.int cx8), (.int cx9)] (.int 0)) (P9_Arv : Arv Z h0 va kv .byte (16 : Int32) [(.int bx0), (.int bx1), (.int bx2), (.int bx3), (.int bx4), (.int bx5), (.int bx6), (.int bx7), (.int bx8), (.int 0), (.int 0), (.int 0), (.int 0), (.int 0), (.int 0), (.int 0)] (.int 0)) (O2 : Sta Z Z.heap "java/lang/String" "COMPACT_STRINGS" "Z" (.int G1)) (P5 : ¬ G1 = (0 : Int32)) :
    CtP l (⟨"java/lang/AbstractStringBuilder", "append", "(Ljava/lang/String;)Ljava/lang/AbstractStringBuilder;"⟩ : MethodName) jdk_68_method_22_code 3 (some (.object "java/lang/AbstractStringBuilder")) [] ({ frames := 4, cells := 1, slots := 34, locals := 62 } : Room) Z #[(.ref sb), (.ref x)] h0 (fun v h L => ∃ (vb : Addr), ∃ (kw : ClassId), v = some (.ref sb) ∧ Fr n0 L ∧ Keep h0 h [sb] ∧ h0.size ≤ vb ∧ Fld Z h sb "java/lang/AbstractStringBuilder" "value" "[B" (.ref vb) ∧ Fld Z h sb "java/lang/AbstractStringBuilder" "coder" "B" (.int 0) ∧ Fld Z h sb "java/lang/AbstractStringBuilder" "count" "I" (.int 19) ∧ Arv Z h vb kw .byte (34 : Int32) [(.int bx0), (.int bx1), (.int bx2), (.int bx3), (.int bx4), (.int bx5), (.int bx6), (.int bx7), (.int bx8), (.int cx0), (.int cx1), (.int cx2), (.int cx3), (.int cx4), (.int cx5), (.int cx6), (.int cx7), (.int cx8), (.int cx9), (.int 0), (.int 0), (.int 0), (.int 0), (.int 0), (.int 0), (.int 0), (.int 0), (.int 0), (.int 0), (.int 0), (.int 0), (.int 0), (.int 0), (.int 0)] (.int 0)) := by
  refine CtP.walk (Ls := #[.val (.ref sb), .val (.ref x), .unset]) (plainFor_of_name own_pn0) (fun m => by first | (simp [entryFrame, mkF, argsToLocals, Value.category]; done) | rfl) ?_
  intro p e s m below meth cc_ T hx hby hml hown hnm hret hlk hZ X eT
  have N := Fr.nil n0
  have K0 := Keep.refl h0 [sb]
  have sz_h : h0.size ≤ h0.size := Nat.le_refl _
  refine galoadN (v := (.ref x)) X hx 1 (hb hby own_d16_0) rfl rfl rfl ?_
  refine gifnonnullYes X hx 9 (hb hby own_d16_1) (by decide) (by decide) ?_
  refine galoadN (v := (.ref x)) X hx 10 (hb hby own_d16_9) rfl rfl rfl ?_
  refine gvirtual (y := (⟨"java/lang/String", "length", "()I"⟩ : MethodName)) (z := (⟨"java/lang/String", "length", "()I"⟩ : MethodName)) (a := x) (argsL := []) (st := []) X hx hZ hown (own_w94 hw) (own_w95 hw) (notFace_of_selects (args := #[]) (mvT hZ (own_w97 hw))) (own_w97 hw) (own_w96 hw) (by decide) P5_Exa (payP (W := 0) (rmSL10 l Z a0 hw (x) (t) (kt) ([(.int cx0), (.int cx1), (.int cx2), (.int cx3), (.int cx4), (.int cx5), (.int cx6), (.int cx7), (.int cx8), (.int cx9)]) (G1) h0 n0 (Nat.le_trans Z0 sz_h) P0_Old P5_Exa P6_Fld P7_Fld P8_Arv (O2) (P5)) hZ (own_w98 hw) (own_w2 hw) (by decide) (by decide)) eT (by rw [hml]; rfl) (lenOf own_pd4 rfl) rfl (Nat.le_of_eq rfl) 0 0 rfl rfl (by decide) (by decide) 13 (hb hby own_d16_10) rfl ?_
  clear X eT; clear T; intro v T h1 L2 Lc X eT hL hQ2
  obtain ⟨rfl, Nq, hh⟩ := hQ2
  replace N : Fr n0 L2 := by rw [hL]; exact Fr.app N Nq
  clear Nq hL
  replace hh := hh.symm; subst hh
  show Go p e below _ T (mkF m 13 #[.val (.ref sb), .val (.ref x), .unset] [(.int 10)])
  refine gistoreN X hx #[.val (.ref sb), .val (.ref x), .val (.int 10)] 14 (hb hby own_d16_13) rfl rfl ?_
  refine galoadN (v := (.ref sb)) X hx 15 (hb hby own_d16_14) rfl rfl rfl ?_
  refine galoadN (v := (.ref sb)) X hx 16 (hb hby own_d16_15) rfl rfl rfl ?_
  refine ggetF X hx hZ (host := "") hown (Or.inl (own_w104 hw)) Via.refl eT P4_Fld 19 (hb hby own_d16_16) rfl ?_
  clear X eT; clear T; intro T X eT
  refine giloadN (v := (10 : Int32)) X hx 20 (hb hby own_d16_19) rfl rfl ?_
  refine giadd X hx 21 (hb hby own_d16_20) rfl ?_
  rw [show ((9 : Int32) + (10 : Int32)) = (19 : Int32) from by decide]
  refine gpriv (y := (⟨"java/lang/AbstractStringBuilder", "ensureCapacityInternal", "(I)V"⟩ : MethodName)) (a := sb) (argsL := [(.int 19)]) (st := []) X hx hZ hown (own_w106 hw) (own_w107 hw) (nf_sel (args := #[]) (mvT hZ (own_w109 hw)) rfl) (own_w108 hw) (own_w110 hw) (by decide) P1_Exa (payP (W := 0) (rmEG9_19_16 l Z a0 hw (sb) (va) (kv) (bx0) (bx1) (bx2) (bx3) (bx4) (bx5) (bx6) (bx7) (bx8) h0 n0 (Nat.le_trans Z0 sz_h) ge_sb P1_Exa P2_Fld P3_Fld P4_Fld P9_Arv) hZ (own_w110 hw) (own_w75 hw) (by decide) (by decide)) eT (by rw [hml]; rfl) (lenOf own_pd0 rfl) rfl (Nat.le_of_eq rfl) 1 34 rfl rfl (by decide) (by decide) 24 (hb hby own_d16_21) rfl ?_
  clear X eT; clear T; intro v T h5 L2 Lc X eT hL hQ6
  obtain ⟨vb_7, kw_8, rfl, Nq, K9, zz_vb_7, G11, G12, G13, G14⟩ := hQ6
  replace N : Fr n0 L2 := by rw [hL]; exact Fr.app N Nq
  clear Nq hL
  have ne_sb_vb_7 : sb ≠ vb_7 := Nat.ne_of_lt (Nat.lt_of_lt_of_le P1_Exa.lt zz_vb_7)
  have ne_vb_7_sb : vb_7 ≠ sb := Ne.symm ne_sb_vb_7
  have ne_x_vb_7 : x ≠ vb_7 := Nat.ne_of_lt (Nat.lt_of_lt_of_le P5_Exa.lt zz_vb_7)
  have ne_vb_7_x : vb_7 ≠ x := Ne.symm ne_x_vb_7
  have ne_t_vb_7 : t ≠ vb_7 := Nat.ne_of_lt (Nat.lt_of_lt_of_le P8_Arv.lt zz_vb_7)
  have ne_vb_7_t : vb_7 ≠ t := Ne.symm ne_t_vb_7
  have ne_va_vb_7 : va ≠ vb_7 := Nat.ne_of_lt (Nat.lt_of_lt_of_le P9_Arv.lt zz_vb_7)
  have ne_vb_7_va : vb_7 ≠ va := Ne.symm ne_va_vb_7
  have sz_vb_7 : h0.size ≤ vb_7 := Nat.le_trans sz_h zz_vb_7
  have ge_vb_7 : n0 ≤ vb_7 := Nat.le_trans Z0 sz_vb_7
  have ne_x_sb : x ≠ sb := ne_exa P5_Exa P1_Exa (by decide)
  have ne_t_sb : t ≠ sb := Ne.symm (Exa.neArv P1_Exa P8_Arv (own_w66 hw))
  have ne_va_sb : va ≠ sb := Ne.symm (Exa.neArv P1_Exa P9_Arv (own_w66 hw))
  replace P0_Old := P0_Old.keep K9 (allS ge_sb all0)
  replace P1_Exa := P1_Exa.keep K9
  replace P5_Exa := P5_Exa.keep K9
  replace P6_Fld := P6_Fld.keep K9 (ninS ne_x_sb nin0)
  replace P7_Fld := P7_Fld.keep K9 (ninS ne_x_sb nin0)
  replace P8_Arv := P8_Arv.keep K9 (ninS ne_t_sb nin0)
  replace P9_Arv := P9_Arv.keep K9 (ninS ne_va_sb nin0)
  replace K0 := K0.trans K9 (allS (Or.inl (List.mem_of_getElem? (i := 0) rfl)) all0)
  replace sz_h : h0.size ≤ h5.size := Nat.le_trans sz_h K9.1
  show Go p e below _ T (mkF m 24 #[.val (.ref sb), .val (.ref x), .val (.int 10)] [])
  refine galoadN (v := (.ref sb)) X hx 25 (hb hby own_d16_24) rfl rfl rfl ?_
  refine galoadN (v := (.ref sb)) X hx 26 (hb hby own_d16_25) rfl rfl rfl ?_
  refine ggetF X hx hZ (host := "") hown (Or.inl (own_w104 hw)) Via.refl eT G13 29 (hb hby own_d16_26) rfl ?_
  clear X eT; clear T; intro T X eT
  refine galoadN (v := (.ref x)) X hx 30 (hb hby own_d16_29) rfl rfl rfl ?_
  refine gpriv (y := (⟨"java/lang/AbstractStringBuilder", "putStringAt", "(ILjava/lang/String;)V"⟩ : MethodName)) (a := sb) (argsL := [(.int 9), (.ref x)]) (st := []) X hx hZ hown (own_w111 hw) (own_w112 hw) (nf_sel (args := #[]) (mvT hZ (own_w109 hw)) rfl) (own_w113 hw) (own_w115 hw) (by decide) P1_Exa (payP (W := 0) (rmPA9_10_34 l Z a0 hw (sb) (x) (t) (vb_7) (kt) (kw_8) (G1) (bx0) (bx1) (bx2) (bx3) (bx4) (bx5) (bx6) (bx7) (bx8) (cx0) (cx1) (cx2) (cx3) (cx4) (cx5) (cx6) (cx7) (cx8) (cx9) h5 n0 (Nat.le_trans Z0 sz_h) ge_vb_7 P0_Old P1_Exa G11 G12 P5_Exa P6_Fld P7_Fld P8_Arv G14 (O2) (P5) (ne_t_vb_7)) hZ (own_w115 hw) (own_w75 hw) (by decide) (by decide)) eT (by rw [hml]; rfl) (lenOf own_pd5 rfl) rfl (Nat.le_of_eq rfl) 1 34 rfl rfl (by decide) (by decide) 33 (hb hby own_d16_30) rfl ?_
  clear X eT; clear T; intro v T h15 L2 Lc X eT hL hQ16
  obtain ⟨rfl, Nq, K17, G19⟩ := hQ16
  replace N : Fr n0 L2 := by rw [hL]; exact Fr.app N Nq
  clear Nq hL
  replace P0_Old := P0_Old.keep K17 (allS ge_vb_7 all0)
  replace P1_Exa := P1_Exa.keep K17
  replace P5_Exa := P5_Exa.keep K17
  replace P6_Fld := P6_Fld.keep K17 (ninS ne_x_vb_7 nin0)
  replace P7_Fld := P7_Fld.keep K17 (ninS ne_x_vb_7 nin0)
  replace P8_Arv := P8_Arv.keep K17 (ninS ne_t_vb_7 nin0)
  replace P9_Arv := P9_Arv.keep K17 (ninS ne_va_vb_7 nin0)
  replace G11 := G11.keep K17 (ninS ne_sb_vb_7 nin0)
  replace G12 := G12.keep K17 (ninS ne_sb_vb_7 nin0)
  replace G13 := G13.keep K17 (ninS ne_sb_vb_7 nin0)
  replace K0 := K0.trans K17 (allS (Or.inr sz_vb_7) all0)
  replace sz_h : h0.size ≤ h15.size := Nat.le_trans sz_h K17.1
  show Go p e below _ T (mkF m 33 #[.val (.ref sb), .val (.ref x), .val (.int 10)] [])
  refine galoadN (v := (.ref sb)) X hx 34 (hb hby own_d16_33) rfl rfl rfl ?_
  refine gdup X hx 35 (hb hby own_d16_34) rfl rfl ?_
  refine ggetF X hx hZ (host := "") hown (Or.inl (own_w104 hw)) Via.refl eT G13 38 (hb hby own_d16_35) rfl ?_
  clear X eT; clear T; intro T X eT
  refine giloadN (v := (10 : Int32)) X hx 39 (hb hby own_d16_38) rfl rfl ?_
  refine giadd X hx 40 (hb hby own_d16_39) rfl ?_
  rw [show ((9 : Int32) + (10 : Int32)) = (19 : Int32) from by decide]
  refine gputF X hx hZ (host := "") hown (Or.inl (own_w104 hw)) Via.refl eT G13 P1_Exa (Or.inl (own_w105 hw)) (own_w66 hw) (ty := .int) own_pf2 rfl rfl N ge_sb 43 (hb hby own_d16_40) rfl ?_
  clear X eT N; clear T; intro T h20 L X eT N W21
  replace P0_Old := P0_Old.wr W21 ge_sb
  replace P1_Exa := P1_Exa.wr W21
  replace P5_Exa := P5_Exa.wr W21
  replace P6_Fld := P6_Fld.other W21 (Or.inl ne_x_sb)
  replace P7_Fld := P7_Fld.other W21 (Or.inl ne_x_sb)
  replace P8_Arv := P8_Arv.other W21 ne_t_sb
  replace P9_Arv := P9_Arv.other W21 ne_va_sb
  replace G11 := G11.other W21 (Or.inr (slot_ne (Or.inl (own_w80 hw)) (Or.inl (own_w105 hw)) (by decide) own_pf0 own_pf2))
  replace G12 := G12.other W21 (Or.inr (slot_ne (Or.inl (own_w82 hw)) (Or.inl (own_w105 hw)) (by decide) own_pf1 own_pf2))
  replace G13 := G13.same W21
  replace G19 := G19.other W21 ne_vb_7_sb
  replace K0 := K0.wr W21 (Or.inl (List.mem_of_getElem? (i := 0) rfl))
  replace sz_h : h0.size ≤ h20.size := by rw [Wr.size W21]; exact sz_h
  refine galoadN (v := (.ref sb)) X hx 44 (hb hby own_d16_43) rfl rfl rfl ?_
  exact gRetP X hx hlk hret rfl (Or.inr (Or.inr (Or.inr (Or.inr ⟨rfl, rfl, rfl⟩)))) (hb hby own_d16_44) eT (by decide) (by decide) ⟨vb_7, kw_8, rfl, N, K0, sz_vb_7, G11, G12, G13, G19⟩
set_option maxRecDepth 65536 in
set_option maxHeartbeats 40000000 in
theorem rmSA9_10_16 (l : Launch) (Z : State) (a0 : Array Value) (hw : HW_ a0 Z) (sb : Addr) (x : Addr) (t : Addr) (va : Addr) (kt : ClassId) (kv : ClassId) (G1 : Int32) (bx0 : Int32) (bx1 : Int32) (bx2 : Int32) (bx3 : Int32) (bx4 : Int32) (bx5 : Int32) (bx6 : Int32) (bx7 : Int32) (bx8 : Int32) (cx0 : Int32) (cx1 : Int32) (cx2 : Int32) (cx3 : Int32) (cx4 : Int32) (cx5 : Int32) (cx6 : Int32) (cx7 : Int32) (cx8 : Int32) (cx9 : Int32) (h0 : Heap) (n0 : Nat) (Z0 : n0 ≤ h0.size) (ge_sb : n0 ≤ sb) (P0_Old : Old Z n0 h0) (P1_Exa : Exa Z h0 sb "java/lang/StringBuilder") (P2_Fld : Fld Z h0 sb "java/lang/AbstractStringBuilder" "value" "[B" (.ref va)) (P3_Fld : Fld Z h0 sb "java/lang/AbstractStringBuilder" "coder" "B" (.int 0)) (P4_Fld : Fld Z h0 sb "java/lang/AbstractStringBuilder" "count" "I" (.int 9)) (P5_Exa : Exa Z h0 x "java/lang/String") (P6_Fld : Fld Z h0 x "java/lang/String" "coder" "B" (.int 0)) (P7_Fld : Fld Z h0 x "java/lang/String" "value" "[B" (.ref t)) (P8_Arv : Arv Z h0 t kt .byte (10 : Int32) [(.int cx0), (.int cx1), (.int cx2), (.int cx3), (.int cx4), (.int cx5), (.int cx6), (.int cx7), (.int cx8), (.int cx9)] (.int 0)) (P9_Arv : Arv Z h0 va kv .byte (16 : Int32) [(.int bx0), (.int bx1), (.int bx2), (.int bx3), (.int bx4), (.int bx5), (.int bx6), (.int bx7), (.int bx8), (.int 0), (.int 0), (.int 0), (.int 0), (.int 0), (.int 0), (.int 0)] (.int 0)) (O2 : Sta Z Z.heap "java/lang/String" "COMPACT_STRINGS" "Z" (.int G1)) (P5 : ¬ G1 = (0 : Int32)) :
    CtP l (⟨"java/lang/StringBuilder", "append", "(Ljava/lang/String;)Ljava/lang/StringBuilder;"⟩ : MethodName) jdk_67_method_7_code 2 (some (.object "java/lang/StringBuilder")) [] ({ frames := 5, cells := 1, slots := 34, locals := 76 } : Room) Z #[(.ref sb), (.ref x)] h0 (fun v h L => ∃ (vb : Addr), ∃ (kw : ClassId), v = some (.ref sb) ∧ Fr n0 L ∧ Keep h0 h [sb] ∧ h0.size ≤ vb ∧ Fld Z h sb "java/lang/AbstractStringBuilder" "value" "[B" (.ref vb) ∧ Fld Z h sb "java/lang/AbstractStringBuilder" "coder" "B" (.int 0) ∧ Fld Z h sb "java/lang/AbstractStringBuilder" "count" "I" (.int 19) ∧ Arv Z h vb kw .byte (34 : Int32) [(.int bx0), (.int bx1), (.int bx2), (.int bx3), (.int bx4), (.int bx5), (.int bx6), (.int bx7), (.int bx8), (.int cx0), (.int cx1), (.int cx2), (.int cx3), (.int cx4), (.int cx5), (.int cx6), (.int cx7), (.int cx8), (.int cx9), (.int 0), (.int 0), (.int 0), (.int 0), (.int 0), (.int 0), (.int 0), (.int 0), (.int 0), (.int 0), (.int 0), (.int 0), (.int 0), (.int 0), (.int 0)] (.int 0)) := by
  refine CtP.walk (Ls := #[.val (.ref sb), .val (.ref x)]) (plainFor_of_name own_pn1) (fun m => by first | (simp [entryFrame, mkF, argsToLocals, Value.category]; done) | rfl) ?_
  intro p e s m below meth cc_ T hx hby hml hown hnm hret hlk hZ X eT
  have N := Fr.nil n0
  have K0 := Keep.refl h0 [sb]
  have sz_h : h0.size ≤ h0.size := Nat.le_refl _
  refine galoadN (v := (.ref sb)) X hx 1 (hb hby own_d15_0) rfl rfl rfl ?_
  refine galoadN (v := (.ref x)) X hx 2 (hb hby own_d15_1) rfl rfl rfl ?_
  refine gsuper (y := (⟨"java/lang/AbstractStringBuilder", "append", "(Ljava/lang/String;)Ljava/lang/AbstractStringBuilder;"⟩ : MethodName)) (a := sb) (argsL := [(.ref x)]) (st := []) X hx hZ hown (own_w89 hw) (sm_sel (own_w90 hw) (own_w109 hw) rfl (by decide)) (own_w90 hw) (own_w91 hw) (by decide) (own_w93 hw) (Ins.self P1_Exa) (payP (W := 0) (rmAA9_10_16 l Z a0 hw (sb) (x) (t) (va) (kt) (kv) (G1) (bx0) (bx1) (bx2) (bx3) (bx4) (bx5) (bx6) (bx7) (bx8) (cx0) (cx1) (cx2) (cx3) (cx4) (cx5) (cx6) (cx7) (cx8) (cx9) h0 n0 (Nat.le_trans Z0 sz_h) ge_sb P0_Old P1_Exa P2_Fld P3_Fld P4_Fld P5_Exa P6_Fld P7_Fld P8_Arv P9_Arv (O2) (P5)) hZ (own_w93 hw) (own_w75 hw) (by decide) (by decide)) eT (by rw [hml]; rfl) (lenOf own_pd6 rfl) rfl (Nat.le_of_eq rfl) 1 34 rfl rfl (by decide) (by decide) 5 (hb hby own_d15_2) rfl ?_
  clear X eT; clear T; intro v T h1 L2 Lc X eT hL hQ2
  obtain ⟨vb_3, kw_4, rfl, Nq, K5, zz_vb_3, G7, G8, G9, G10⟩ := hQ2
  replace N : Fr n0 L2 := by rw [hL]; exact Fr.app N Nq
  clear Nq hL
  have ne_sb_vb_3 : sb ≠ vb_3 := Nat.ne_of_lt (Nat.lt_of_lt_of_le P1_Exa.lt zz_vb_3)
  have ne_vb_3_sb : vb_3 ≠ sb := Ne.symm ne_sb_vb_3
  have ne_x_vb_3 : x ≠ vb_3 := Nat.ne_of_lt (Nat.lt_of_lt_of_le P5_Exa.lt zz_vb_3)
  have ne_vb_3_x : vb_3 ≠ x := Ne.symm ne_x_vb_3
  have ne_t_vb_3 : t ≠ vb_3 := Nat.ne_of_lt (Nat.lt_of_lt_of_le P8_Arv.lt zz_vb_3)
  have ne_vb_3_t : vb_3 ≠ t := Ne.symm ne_t_vb_3
  have ne_va_vb_3 : va ≠ vb_3 := Nat.ne_of_lt (Nat.lt_of_lt_of_le P9_Arv.lt zz_vb_3)
  have ne_vb_3_va : vb_3 ≠ va := Ne.symm ne_va_vb_3
  have sz_vb_3 : h0.size ≤ vb_3 := Nat.le_trans sz_h zz_vb_3
  have ge_vb_3 : n0 ≤ vb_3 := Nat.le_trans Z0 sz_vb_3
  have ne_x_sb : x ≠ sb := ne_exa P5_Exa P1_Exa (by decide)
  have ne_t_sb : t ≠ sb := Ne.symm (Exa.neArv P1_Exa P8_Arv (own_w66 hw))
  have ne_va_sb : va ≠ sb := Ne.symm (Exa.neArv P1_Exa P9_Arv (own_w66 hw))
  replace P0_Old := P0_Old.keep K5 (allS ge_sb all0)
  replace P1_Exa := P1_Exa.keep K5
  replace P5_Exa := P5_Exa.keep K5
  replace P6_Fld := P6_Fld.keep K5 (ninS ne_x_sb nin0)
  replace P7_Fld := P7_Fld.keep K5 (ninS ne_x_sb nin0)
  replace P8_Arv := P8_Arv.keep K5 (ninS ne_t_sb nin0)
  replace P9_Arv := P9_Arv.keep K5 (ninS ne_va_sb nin0)
  replace K0 := K0.trans K5 (allS (Or.inl (List.mem_of_getElem? (i := 0) rfl)) all0)
  replace sz_h : h0.size ≤ h1.size := Nat.le_trans sz_h K5.1
  show Go p e below _ T (mkF m 5 #[.val (.ref sb), .val (.ref x)] [(.ref sb)])
  refine gpop X hx 6 (hb hby own_d15_5) rfl rfl ?_
  refine galoadN (v := (.ref sb)) X hx 7 (hb hby own_d15_6) rfl rfl rfl ?_
  exact gRetP X hx hlk hret rfl (Or.inr (Or.inr (Or.inr (Or.inr ⟨rfl, rfl, rfl⟩)))) (hb hby own_d15_7) eT (by decide) (by decide) ⟨vb_3, kw_4, rfl, N, K0, sz_vb_3, G7, G8, G9, G10⟩
set_option maxRecDepth 65536 in
set_option maxHeartbeats 40000000 in
theorem rmEC21_34 (l : Launch) (Z : State) (a0 : Array Value) (hw : HW_ a0 Z) (sb : Addr) (va : Addr) (kv : ClassId) (vs0 : List Value) (h0 : Heap) (n0 : Nat) (Z0 : n0 ≤ h0.size) (P0_Fld : Fld Z h0 sb "java/lang/AbstractStringBuilder" "value" "[B" (.ref va)) (P1_Fld : Fld Z h0 sb "java/lang/AbstractStringBuilder" "coder" "B" (.int 0)) (P2_Arv : Arv Z h0 va kv .byte (34 : Int32) vs0 (.int 0)) :
    CtP l (⟨"java/lang/AbstractStringBuilder", "ensureCapacityInternal", "(I)V"⟩ : MethodName) jdk_68_method_9_code 3 none [] ({ frames := 0, cells := 0, slots := 0, locals := 0 } : Room) Z #[(.ref sb), (.int 21)] h0 (fun v h L => v = none ∧ Fr n0 L ∧ h = h0) := by
  refine CtP.walk (Ls := #[.val (.ref sb), .val (.int 21), .unset]) (plainFor_of_name own_pn0) (fun m => by first | (simp [entryFrame, mkF, argsToLocals, Value.category]; done) | rfl) ?_
  intro p e s m below meth cc_ T hx hby hml hown hnm hret hlk hZ X eT
  have N := Fr.nil n0
  have sz_h : h0.size ≤ h0.size := Nat.le_refl _
  refine galoadN (v := (.ref sb)) X hx 1 (hb hby own_d19_0) rfl rfl rfl ?_
  refine ggetF X hx hZ (host := "") hown (Or.inl (own_w79 hw)) Via.refl eT P0_Fld 4 (hb hby own_d19_1) rfl ?_
  clear X eT; clear T; intro T X eT
  refine garrlen X hx hZ eT P2_Arv 5 (hb hby own_d19_4) rfl ?_
  refine galoadN (v := (.ref sb)) X hx 6 (hb hby own_d19_5) rfl rfl rfl ?_
  refine ggetF X hx hZ (host := "") hown (Or.inl (own_w81 hw)) Via.refl eT P1_Fld 9 (hb hby own_d19_6) rfl ?_
  clear X eT; clear T; intro T X eT
  refine gishr X hx 10 (hb hby own_d19_9) rfl ?_
  rw [show ((34 : Int32) >>> ((0 : Int32) &&& 31)) = (34 : Int32) from by decide]
  refine gistoreN X hx #[.val (.ref sb), .val (.int 21), .val (.int 34)] 11 (hb hby own_d19_10) rfl rfl ?_
  refine giloadN (v := (21 : Int32)) X hx 12 (hb hby own_d19_11) rfl rfl ?_
  refine giloadN (v := (34 : Int32)) X hx 13 (hb hby own_d19_12) rfl rfl ?_
  refine gisub X hx 14 (hb hby own_d19_13) rfl ?_
  rw [show ((21 : Int32) - (34 : Int32)) = (-13 : Int32) from by decide]
  refine gifYes X hx 38 (hb hby own_d19_14) (by decide) (by decide) (by decide) ?_
  exact gRetP0 X hx hlk hret (hb hby own_d19_38) eT (by decide) (by decide) ⟨rfl, N, rfl⟩
set_option maxRecDepth 65536 in
set_option maxHeartbeats 40000000 in
theorem rmGB19_2_34 (l : Launch) (Z : State) (a0 : Array Value) (hw : HW_ a0 Z) (x : Addr) (t : Addr) (va : Addr) (kt : ClassId) (kv : ClassId) (G1 : Int32) (bx0 : Int32) (bx1 : Int32) (bx2 : Int32) (bx3 : Int32) (bx4 : Int32) (bx5 : Int32) (bx6 : Int32) (bx7 : Int32) (bx8 : Int32) (bx9 : Int32) (bx10 : Int32) (bx11 : Int32) (bx12 : Int32) (bx13 : Int32) (bx14 : Int32) (bx15 : Int32) (bx16 : Int32) (bx17 : Int32) (bx18 : Int32) (cx0 : Int32) (cx1 : Int32) (h0 : Heap) (n0 : Nat) (Z0 : n0 ≤ h0.size) (ge_va : n0 ≤ va) (P0_Old : Old Z n0 h0) (P1_Exa : Exa Z h0 x "java/lang/String") (P2_Fld : Fld Z h0 x "java/lang/String" "coder" "B" (.int 0)) (P3_Fld : Fld Z h0 x "java/lang/String" "value" "[B" (.ref t)) (P4_Arv : Arv Z h0 t kt .byte (2 : Int32) [(.int cx0), (.int cx1)] (.int 0)) (P5_Arv : Arv Z h0 va kv .byte (34 : Int32) [(.int bx0), (.int bx1), (.int bx2), (.int bx3), (.int bx4), (.int bx5), (.int bx6), (.int bx7), (.int bx8), (.int bx9), (.int bx10), (.int bx11), (.int bx12), (.int bx13), (.int bx14), (.int bx15), (.int bx16), (.int bx17), (.int bx18), (.int 0), (.int 0), (.int 0), (.int 0), (.int 0), (.int 0), (.int 0), (.int 0), (.int 0), (.int 0), (.int 0), (.int 0), (.int 0), (.int 0), (.int 0)] (.int 0)) (O2 : Sta Z Z.heap "java/lang/String" "COMPACT_STRINGS" "Z" (.int G1)) (P5 : ¬ G1 = (0 : Int32)) (ntv : t ≠ va) :
    CtP l (⟨"java/lang/String", "getBytes", "([BIB)V"⟩ : MethodName) jdk_42_method_147_code 4 none [] ({ frames := 1, cells := 0, slots := 0, locals := 18 } : Room) Z #[(.ref x), (.ref va), (.int 19), (.int 0)] h0 (fun v h L => v = none ∧ Fr n0 L ∧ Keep h0 h [va] ∧ Arv Z h va kv .byte (34 : Int32) [(.int bx0), (.int bx1), (.int bx2), (.int bx3), (.int bx4), (.int bx5), (.int bx6), (.int bx7), (.int bx8), (.int bx9), (.int bx10), (.int bx11), (.int bx12), (.int bx13), (.int bx14), (.int bx15), (.int bx16), (.int bx17), (.int bx18), (.int cx0), (.int cx1), (.int 0), (.int 0), (.int 0), (.int 0), (.int 0), (.int 0), (.int 0), (.int 0), (.int 0), (.int 0), (.int 0), (.int 0), (.int 0)] (.int 0)) := by
  refine CtP.walk (Ls := #[.val (.ref x), .val (.ref va), .val (.int 19), .val (.int 0)]) own_pn4 (fun m => by first | (simp [entryFrame, mkF, argsToLocals, Value.category]; done) | rfl) ?_
  intro p e s m below meth cc_ T hx hby hml hown hnm hret hlk hZ X eT
  have N := Fr.nil n0
  have K0 := Keep.refl h0 [va]
  have sz_h : h0.size ≤ h0.size := Nat.le_refl _
  refine galoadN (v := (.ref x)) X hx 1 (hb hby own_d22_0) rfl rfl rfl ?_
  refine gvirtual (y := (⟨"java/lang/String", "coder", "()B"⟩ : MethodName)) (z := (⟨"java/lang/String", "coder", "()B"⟩ : MethodName)) (a := x) (argsL := []) (st := []) X hx hZ hown (own_w99 hw) (own_w100 hw) (notFace_of_selects (args := #[]) (mvT hZ (own_w102 hw))) (own_w102 hw) (own_w101 hw) (by decide) P1_Exa (payP (W := 0) (rm18 l Z a0 hw (x) (G1) h0 n0 (Nat.le_trans Z0 sz_h) P0_Old P2_Fld (O2) (P5)) hZ (own_w103 hw) (own_w2 hw) (by decide) (by decide)) eT (by rw [hml]; rfl) (lenOf own_pd1 rfl) rfl (Nat.le_of_eq rfl) 0 0 rfl rfl (by decide) (by decide) 4 (hb hby own_d22_1) rfl ?_
  clear X eT; clear T; intro v T h1 L2 Lc X eT hL hQ2
  obtain ⟨rfl, Nq, hh⟩ := hQ2
  replace N : Fr n0 L2 := by rw [hL]; exact Fr.app N Nq
  clear Nq hL
  replace hh := hh.symm; subst hh
  show Go p e below _ T (mkF m 4 #[.val (.ref x), .val (.ref va), .val (.int 19), .val (.int 0)] [(.int 0)])
  refine giloadN (v := (0 : Int32)) X hx 5 (hb hby own_d22_4) rfl rfl ?_
  refine gicmpNo X hx 8 (hb hby own_d22_5) rfl (by decide) ?_
  refine galoadN (v := (.ref x)) X hx 9 (hb hby own_d22_8) rfl rfl rfl ?_
  refine ggetF X hx hZ (host := "") hown (Or.inl (own_w28 hw)) Via.refl eT P3_Fld 12 (hb hby own_d22_9) rfl ?_
  clear X eT; clear T; intro T X eT
  refine giconst X hx (0 : Int32) 13 (hb hby own_d22_12) rfl rfl ?_
  refine galoadN (v := (.ref va)) X hx 14 (hb hby own_d22_13) rfl rfl rfl ?_
  refine giloadN (v := (19 : Int32)) X hx 15 (hb hby own_d22_14) rfl rfl ?_
  refine giloadN (v := (0 : Int32)) X hx 16 (hb hby own_d22_15) rfl rfl ?_
  refine gishl X hx 17 (hb hby own_d22_16) rfl ?_
  rw [show ((19 : Int32) <<< ((0 : Int32) &&& 31)) = (19 : Int32) from by decide]
  refine galoadN (v := (.ref x)) X hx 18 (hb hby own_d22_17) rfl rfl rfl ?_
  refine ggetF X hx hZ (host := "") hown (Or.inl (own_w28 hw)) Via.refl eT P3_Fld 21 (hb hby own_d22_18) rfl ?_
  clear X eT; clear T; intro T X eT
  refine garrlen X hx hZ eT P4_Arv 22 (hb hby own_d22_21) rfl ?_
  refine gcpA (st := []) X hx hZ hown (own_w127 hw) (own_w130 hw) (own_w128 hw) (own_w129 hw) eT (by rw [hml]; rfl) P4_Arv P5_Arv rfl 0 19 2 rfl rfl rfl (by decide) (by decide) (by decide) (by decide) (by decide) (Nat.le_of_ble_eq_true rfl) ([(.int bx0), (.int bx1), (.int bx2), (.int bx3), (.int bx4), (.int bx5), (.int bx6), (.int bx7), (.int bx8), (.int bx9), (.int bx10), (.int bx11), (.int bx12), (.int bx13), (.int bx14), (.int bx15), (.int bx16), (.int bx17), (.int bx18), (.int cx0), (.int cx1), (.int 0), (.int 0), (.int 0), (.int 0), (.int 0), (.int 0), (.int 0), (.int 0), (.int 0), (.int 0), (.int 0), (.int 0), (.int 0)] : List Value) rfl N ge_va (by decide) 0 (Nat.le_of_eq rfl) (by decide) 25 (hb hby own_d22_22) rfl ?_
  clear X eT N; clear T; intro T h5 L X eT N K6 V7
  have ne_x_va : x ≠ va := Exa.neArv P1_Exa P5_Arv (own_w1 hw)
  replace P0_Old := P0_Old.keep K6 (allS ge_va all0)
  replace P1_Exa := P1_Exa.keep K6
  replace P2_Fld := P2_Fld.keep K6 (ninS ne_x_va nin0)
  replace P3_Fld := P3_Fld.keep K6 (ninS ne_x_va nin0)
  replace P4_Arv := P4_Arv.keep K6 (ninS ntv nin0)
  replace K0 := K0.trans K6 (allS (Or.inl (List.mem_of_getElem? (i := 0) rfl)) all0)
  replace sz_h : h0.size ≤ h5.size := Nat.le_trans sz_h K6.1
  show Go p e below _ T (mkF m 25 #[.val (.ref x), .val (.ref va), .val (.int 19), .val (.int 0)] [])
  refine ggoto X hx 43 (hb hby own_d22_25) (by decide) (by decide) ?_
  exact gRetP0 X hx hlk hret (hb hby own_d22_43) eT (by decide) (by decide) ⟨rfl, N, K0, V7⟩
set_option maxRecDepth 65536 in
set_option maxHeartbeats 40000000 in
theorem rmPA19_2_34 (l : Launch) (Z : State) (a0 : Array Value) (hw : HW_ a0 Z) (sb : Addr) (x : Addr) (t : Addr) (va : Addr) (kt : ClassId) (kv : ClassId) (G1 : Int32) (bx0 : Int32) (bx1 : Int32) (bx2 : Int32) (bx3 : Int32) (bx4 : Int32) (bx5 : Int32) (bx6 : Int32) (bx7 : Int32) (bx8 : Int32) (bx9 : Int32) (bx10 : Int32) (bx11 : Int32) (bx12 : Int32) (bx13 : Int32) (bx14 : Int32) (bx15 : Int32) (bx16 : Int32) (bx17 : Int32) (bx18 : Int32) (cx0 : Int32) (cx1 : Int32) (h0 : Heap) (n0 : Nat) (Z0 : n0 ≤ h0.size) (ge_va : n0 ≤ va) (P0_Old : Old Z n0 h0) (P1_Exa : Exa Z h0 sb "java/lang/StringBuilder") (P2_Fld : Fld Z h0 sb "java/lang/AbstractStringBuilder" "value" "[B" (.ref va)) (P3_Fld : Fld Z h0 sb "java/lang/AbstractStringBuilder" "coder" "B" (.int 0)) (P4_Exa : Exa Z h0 x "java/lang/String") (P5_Fld : Fld Z h0 x "java/lang/String" "coder" "B" (.int 0)) (P6_Fld : Fld Z h0 x "java/lang/String" "value" "[B" (.ref t)) (P7_Arv : Arv Z h0 t kt .byte (2 : Int32) [(.int cx0), (.int cx1)] (.int 0)) (P8_Arv : Arv Z h0 va kv .byte (34 : Int32) [(.int bx0), (.int bx1), (.int bx2), (.int bx3), (.int bx4), (.int bx5), (.int bx6), (.int bx7), (.int bx8), (.int bx9), (.int bx10), (.int bx11), (.int bx12), (.int bx13), (.int bx14), (.int bx15), (.int bx16), (.int bx17), (.int bx18), (.int 0), (.int 0), (.int 0), (.int 0), (.int 0), (.int 0), (.int 0), (.int 0), (.int 0), (.int 0), (.int 0), (.int 0), (.int 0), (.int 0), (.int 0)] (.int 0)) (O2 : Sta Z Z.heap "java/lang/String" "COMPACT_STRINGS" "Z" (.int G1)) (P5 : ¬ G1 = (0 : Int32)) (ntv : t ≠ va) :
    CtP l (⟨"java/lang/AbstractStringBuilder", "putStringAt", "(ILjava/lang/String;)V"⟩ : MethodName) jdk_68_method_73_code 3 none [] ({ frames := 2, cells := 0, slots := 0, locals := 33 } : Room) Z #[(.ref sb), (.int 19), (.ref x)] h0 (fun v h L => v = none ∧ Fr n0 L ∧ Keep h0 h [va] ∧ Arv Z h va kv .byte (34 : Int32) [(.int bx0), (.int bx1), (.int bx2), (.int bx3), (.int bx4), (.int bx5), (.int bx6), (.int bx7), (.int bx8), (.int bx9), (.int bx10), (.int bx11), (.int bx12), (.int bx13), (.int bx14), (.int bx15), (.int bx16), (.int bx17), (.int bx18), (.int cx0), (.int cx1), (.int 0), (.int 0), (.int 0), (.int 0), (.int 0), (.int 0), (.int 0), (.int 0), (.int 0), (.int 0), (.int 0), (.int 0), (.int 0)] (.int 0)) := by
  refine CtP.walk (Ls := #[.val (.ref sb), .val (.int 19), .val (.ref x)]) (plainFor_of_name own_pn0) (fun m => by first | (simp [entryFrame, mkF, argsToLocals, Value.category]; done) | rfl) ?_
  intro p e s m below meth cc_ T hx hby hml hown hnm hret hlk hZ X eT
  have N := Fr.nil n0
  have K0 := Keep.refl h0 [va]
  have sz_h : h0.size ≤ h0.size := Nat.le_refl _
  refine galoadN (v := (.ref sb)) X hx 1 (hb hby own_d20_0) rfl rfl rfl ?_
  refine galoadN (v := (.ref x)) X hx 2 (hb hby own_d20_1) rfl rfl rfl ?_
  refine gpriv (y := (⟨"java/lang/AbstractStringBuilder", "inflateIfNeededFor", "(Ljava/lang/String;)V"⟩ : MethodName)) (a := sb) (argsL := [(.ref x)]) (st := []) X hx hZ hown (own_w116 hw) (own_w117 hw) (nf_sel (args := #[]) (mvT hZ (own_w109 hw)) rfl) (own_w118 hw) (own_w120 hw) (by decide) P1_Exa (payP (W := 0) (rm21 l Z a0 hw (sb) (x) (G1) h0 n0 (Nat.le_trans Z0 sz_h) P0_Old P4_Exa P3_Fld P5_Fld (O2) (P5)) hZ (own_w120 hw) (own_w75 hw) (by decide) (by decide)) eT (by rw [hml]; rfl) (lenOf own_pd2 rfl) rfl (Nat.le_of_eq rfl) 0 0 rfl rfl (by decide) (by decide) 5 (hb hby own_d20_2) rfl ?_
  clear X eT; clear T; intro v T h1 L2 Lc X eT hL hQ2
  obtain ⟨rfl, Nq, hh⟩ := hQ2
  replace N : Fr n0 L2 := by rw [hL]; exact Fr.app N Nq
  clear Nq hL
  replace hh := hh.symm; subst hh
  show Go p e below _ T (mkF m 5 #[.val (.ref sb), .val (.int 19), .val (.ref x)] [])
  refine galoadN (v := (.ref x)) X hx 6 (hb hby own_d20_5) rfl rfl rfl ?_
  refine galoadN (v := (.ref sb)) X hx 7 (hb hby own_d20_6) rfl rfl rfl ?_
  refine ggetF X hx hZ (host := "") hown (Or.inl (own_w79 hw)) Via.refl eT P2_Fld 10 (hb hby own_d20_7) rfl ?_
  clear X eT; clear T; intro T X eT
  refine giloadN (v := (19 : Int32)) X hx 11 (hb hby own_d20_10) rfl rfl ?_
  refine galoadN (v := (.ref sb)) X hx 12 (hb hby own_d20_11) rfl rfl rfl ?_
  refine ggetF X hx hZ (host := "") hown (Or.inl (own_w81 hw)) Via.refl eT P3_Fld 15 (hb hby own_d20_12) rfl ?_
  clear X eT; clear T; intro T X eT
  refine gvirtual (y := (⟨"java/lang/String", "getBytes", "([BIB)V"⟩ : MethodName)) (z := (⟨"java/lang/String", "getBytes", "([BIB)V"⟩ : MethodName)) (a := x) (argsL := [(.ref va), (.int 19), (.int 0)]) (st := []) X hx hZ hown (own_w122 hw) (own_w123 hw) (notFace_of_selects (args := #[]) (mvT hZ (own_w125 hw))) (own_w125 hw) (own_w124 hw) (by decide) P4_Exa (payP (W := 0) (rmGB19_2_34 l Z a0 hw (x) (t) (va) (kt) (kv) (G1) (bx0) (bx1) (bx2) (bx3) (bx4) (bx5) (bx6) (bx7) (bx8) (bx9) (bx10) (bx11) (bx12) (bx13) (bx14) (bx15) (bx16) (bx17) (bx18) (cx0) (cx1) h0 n0 (Nat.le_trans Z0 sz_h) ge_va P0_Old P4_Exa P5_Fld P6_Fld P7_Arv P8_Arv (O2) (P5) (ntv)) hZ (own_w126 hw) (own_w2 hw) (by decide) (by decide)) eT (by rw [hml]; rfl) (lenOf own_pd3 rfl) rfl (Nat.le_of_eq rfl) 0 0 rfl rfl (by decide) (by decide) 18 (hb hby own_d20_15) rfl ?_
  clear X eT; clear T; intro v T h5 L2 Lc X eT hL hQ6
  obtain ⟨rfl, Nq, K7, G9⟩ := hQ6
  replace N : Fr n0 L2 := by rw [hL]; exact Fr.app N Nq
  clear Nq hL
  have ne_sb_va : sb ≠ va := Exa.neArv P1_Exa P8_Arv (own_w66 hw)
  have ne_x_va : x ≠ va := Exa.neArv P4_Exa P8_Arv (own_w1 hw)
  replace P0_Old := P0_Old.keep K7 (allS ge_va all0)
  replace P1_Exa := P1_Exa.keep K7
  replace P2_Fld := P2_Fld.keep K7 (ninS ne_sb_va nin0)
  replace P3_Fld := P3_Fld.keep K7 (ninS ne_sb_va nin0)
  replace P4_Exa := P4_Exa.keep K7
  replace P5_Fld := P5_Fld.keep K7 (ninS ne_x_va nin0)
  replace P6_Fld := P6_Fld.keep K7 (ninS ne_x_va nin0)
  replace P7_Arv := P7_Arv.keep K7 (ninS ntv nin0)
  replace K0 := K0.trans K7 (allS (Or.inl (List.mem_of_getElem? (i := 0) rfl)) all0)
  replace sz_h : h0.size ≤ h5.size := Nat.le_trans sz_h K7.1
  show Go p e below _ T (mkF m 18 #[.val (.ref sb), .val (.int 19), .val (.ref x)] [])
  exact gRetP0 X hx hlk hret (hb hby own_d20_18) eT (by decide) (by decide) ⟨rfl, N, K0, G9⟩
set_option maxRecDepth 65536 in
set_option maxHeartbeats 40000000 in
theorem rmAA19_2_34 (l : Launch) (Z : State) (a0 : Array Value) (hw : HW_ a0 Z) (sb : Addr) (x : Addr) (t : Addr) (va : Addr) (kt : ClassId) (kv : ClassId) (G1 : Int32) (bx0 : Int32) (bx1 : Int32) (bx2 : Int32) (bx3 : Int32) (bx4 : Int32) (bx5 : Int32) (bx6 : Int32) (bx7 : Int32) (bx8 : Int32) (bx9 : Int32) (bx10 : Int32) (bx11 : Int32) (bx12 : Int32) (bx13 : Int32) (bx14 : Int32) (bx15 : Int32) (bx16 : Int32) (bx17 : Int32) (bx18 : Int32) (cx0 : Int32) (cx1 : Int32) (h0 : Heap) (n0 : Nat) (Z0 : n0 ≤ h0.size) (ge_sb : n0 ≤ sb) (ge_va : n0 ≤ va) (P0_Old : Old Z n0 h0) (P1_Exa : Exa Z h0 sb "java/lang/StringBuilder") (P2_Fld : Fld Z h0 sb "java/lang/AbstractStringBuilder" "value" "[B" (.ref va)) (P3_Fld : Fld Z h0 sb "java/lang/AbstractStringBuilder" "coder" "B" (.int 0)) (P4_Fld : Fld Z h0 sb "java/lang/AbstractStringBuilder" "count" "I" (.int 19)) (P5_Exa : Exa Z h0 x "java/lang/String") (P6_Fld : Fld Z h0 x "java/lang/String" "coder" "B" (.int 0)) (P7_Fld : Fld Z h0 x "java/lang/String" "value" "[B" (.ref t)) (P8_Arv : Arv Z h0 t kt .byte (2 : Int32) [(.int cx0), (.int cx1)] (.int 0)) (P9_Arv : Arv Z h0 va kv .byte (34 : Int32) [(.int bx0), (.int bx1), (.int bx2), (.int bx3), (.int bx4), (.int bx5), (.int bx6), (.int bx7), (.int bx8), (.int bx9), (.int bx10), (.int bx11), (.int bx12), (.int bx13), (.int bx14), (.int bx15), (.int bx16), (.int bx17), (.int bx18), (.int 0), (.int 0), (.int 0), (.int 0), (.int 0), (.int 0), (.int 0), (.int 0), (.int 0), (.int 0), (.int 0), (.int 0), (.int 0), (.int 0), (.int 0)] (.int 0)) (O2 : Sta Z Z.heap "java/lang/String" "COMPACT_STRINGS" "Z" (.int G1)) (P5 : ¬ G1 = (0 : Int32)) (ntv : t ≠ va) :
    CtP l (⟨"java/lang/AbstractStringBuilder", "append", "(Ljava/lang/String;)Ljava/lang/AbstractStringBuilder;"⟩ : MethodName) jdk_68_method_22_code 3 (some (.object "java/lang/AbstractStringBuilder")) [] ({ frames := 3, cells := 0, slots := 0, locals := 47 } : Room) Z #[(.ref sb), (.ref x)] h0 (fun v h L => v = some (.ref sb) ∧ Fr n0 L ∧ Keep h0 h [sb, va] ∧ Fld Z h sb "java/lang/AbstractStringBuilder" "value" "[B" (.ref va) ∧ Fld Z h sb "java/lang/AbstractStringBuilder" "coder" "B" (.int 0) ∧ Fld Z h sb "java/lang/AbstractStringBuilder" "count" "I" (.int 21) ∧ Arv Z h va kv .byte (34 : Int32) [(.int bx0), (.int bx1), (.int bx2), (.int bx3), (.int bx4), (.int bx5), (.int bx6), (.int bx7), (.int bx8), (.int bx9), (.int bx10), (.int bx11), (.int bx12), (.int bx13), (.int bx14), (.int bx15), (.int bx16), (.int bx17), (.int bx18), (.int cx0), (.int cx1), (.int 0), (.int 0), (.int 0), (.int 0), (.int 0), (.int 0), (.int 0), (.int 0), (.int 0), (.int 0), (.int 0), (.int 0), (.int 0)] (.int 0)) := by
  refine CtP.walk (Ls := #[.val (.ref sb), .val (.ref x), .unset]) (plainFor_of_name own_pn0) (fun m => by first | (simp [entryFrame, mkF, argsToLocals, Value.category]; done) | rfl) ?_
  intro p e s m below meth cc_ T hx hby hml hown hnm hret hlk hZ X eT
  have N := Fr.nil n0
  have K0 := Keep.refl h0 [sb, va]
  have sz_h : h0.size ≤ h0.size := Nat.le_refl _
  refine galoadN (v := (.ref x)) X hx 1 (hb hby own_d16_0) rfl rfl rfl ?_
  refine gifnonnullYes X hx 9 (hb hby own_d16_1) (by decide) (by decide) ?_
  refine galoadN (v := (.ref x)) X hx 10 (hb hby own_d16_9) rfl rfl rfl ?_
  refine gvirtual (y := (⟨"java/lang/String", "length", "()I"⟩ : MethodName)) (z := (⟨"java/lang/String", "length", "()I"⟩ : MethodName)) (a := x) (argsL := []) (st := []) X hx hZ hown (own_w94 hw) (own_w95 hw) (notFace_of_selects (args := #[]) (mvT hZ (own_w97 hw))) (own_w97 hw) (own_w96 hw) (by decide) P5_Exa (payP (W := 0) (rmSL2 l Z a0 hw (x) (t) (kt) ([(.int cx0), (.int cx1)]) (G1) h0 n0 (Nat.le_trans Z0 sz_h) P0_Old P5_Exa P6_Fld P7_Fld P8_Arv (O2) (P5)) hZ (own_w98 hw) (own_w2 hw) (by decide) (by decide)) eT (by rw [hml]; rfl) (lenOf own_pd4 rfl) rfl (Nat.le_of_eq rfl) 0 0 rfl rfl (by decide) (by decide) 13 (hb hby own_d16_10) rfl ?_
  clear X eT; clear T; intro v T h1 L2 Lc X eT hL hQ2
  obtain ⟨rfl, Nq, hh⟩ := hQ2
  replace N : Fr n0 L2 := by rw [hL]; exact Fr.app N Nq
  clear Nq hL
  replace hh := hh.symm; subst hh
  show Go p e below _ T (mkF m 13 #[.val (.ref sb), .val (.ref x), .unset] [(.int 2)])
  refine gistoreN X hx #[.val (.ref sb), .val (.ref x), .val (.int 2)] 14 (hb hby own_d16_13) rfl rfl ?_
  refine galoadN (v := (.ref sb)) X hx 15 (hb hby own_d16_14) rfl rfl rfl ?_
  refine galoadN (v := (.ref sb)) X hx 16 (hb hby own_d16_15) rfl rfl rfl ?_
  refine ggetF X hx hZ (host := "") hown (Or.inl (own_w104 hw)) Via.refl eT P4_Fld 19 (hb hby own_d16_16) rfl ?_
  clear X eT; clear T; intro T X eT
  refine giloadN (v := (2 : Int32)) X hx 20 (hb hby own_d16_19) rfl rfl ?_
  refine giadd X hx 21 (hb hby own_d16_20) rfl ?_
  rw [show ((19 : Int32) + (2 : Int32)) = (21 : Int32) from by decide]
  refine gpriv (y := (⟨"java/lang/AbstractStringBuilder", "ensureCapacityInternal", "(I)V"⟩ : MethodName)) (a := sb) (argsL := [(.int 21)]) (st := []) X hx hZ hown (own_w106 hw) (own_w107 hw) (nf_sel (args := #[]) (mvT hZ (own_w109 hw)) rfl) (own_w108 hw) (own_w110 hw) (by decide) P1_Exa (payP (W := 0) (rmEC21_34 l Z a0 hw (sb) (va) (kv) ([(.int bx0), (.int bx1), (.int bx2), (.int bx3), (.int bx4), (.int bx5), (.int bx6), (.int bx7), (.int bx8), (.int bx9), (.int bx10), (.int bx11), (.int bx12), (.int bx13), (.int bx14), (.int bx15), (.int bx16), (.int bx17), (.int bx18), (.int 0), (.int 0), (.int 0), (.int 0), (.int 0), (.int 0), (.int 0), (.int 0), (.int 0), (.int 0), (.int 0), (.int 0), (.int 0), (.int 0), (.int 0)]) h0 n0 (Nat.le_trans Z0 sz_h) P2_Fld P3_Fld P9_Arv) hZ (own_w110 hw) (own_w75 hw) (by decide) (by decide)) eT (by rw [hml]; rfl) (lenOf own_pd0 rfl) rfl (Nat.le_of_eq rfl) 0 0 rfl rfl (by decide) (by decide) 24 (hb hby own_d16_21) rfl ?_
  clear X eT; clear T; intro v T h5 L2 Lc X eT hL hQ6
  obtain ⟨rfl, Nq, hh⟩ := hQ6
  replace N : Fr n0 L2 := by rw [hL]; exact Fr.app N Nq
  clear Nq hL
  replace hh := hh.symm; subst hh
  show Go p e below _ T (mkF m 24 #[.val (.ref sb), .val (.ref x), .val (.int 2)] [])
  refine galoadN (v := (.ref sb)) X hx 25 (hb hby own_d16_24) rfl rfl rfl ?_
  refine galoadN (v := (.ref sb)) X hx 26 (hb hby own_d16_25) rfl rfl rfl ?_
  refine ggetF X hx hZ (host := "") hown (Or.inl (own_w104 hw)) Via.refl eT P4_Fld 29 (hb hby own_d16_26) rfl ?_
  clear X eT; clear T; intro T X eT
  refine galoadN (v := (.ref x)) X hx 30 (hb hby own_d16_29) rfl rfl rfl ?_
  refine gpriv (y := (⟨"java/lang/AbstractStringBuilder", "putStringAt", "(ILjava/lang/String;)V"⟩ : MethodName)) (a := sb) (argsL := [(.int 19), (.ref x)]) (st := []) X hx hZ hown (own_w111 hw) (own_w112 hw) (nf_sel (args := #[]) (mvT hZ (own_w109 hw)) rfl) (own_w113 hw) (own_w115 hw) (by decide) P1_Exa (payP (W := 0) (rmPA19_2_34 l Z a0 hw (sb) (x) (t) (va) (kt) (kv) (G1) (bx0) (bx1) (bx2) (bx3) (bx4) (bx5) (bx6) (bx7) (bx8) (bx9) (bx10) (bx11) (bx12) (bx13) (bx14) (bx15) (bx16) (bx17) (bx18) (cx0) (cx1) h0 n0 (Nat.le_trans Z0 sz_h) ge_va P0_Old P1_Exa P2_Fld P3_Fld P5_Exa P6_Fld P7_Fld P8_Arv P9_Arv (O2) (P5) (ntv)) hZ (own_w115 hw) (own_w75 hw) (by decide) (by decide)) eT (by rw [hml]; rfl) (lenOf own_pd5 rfl) rfl (Nat.le_of_eq rfl) 0 0 rfl rfl (by decide) (by decide) 33 (hb hby own_d16_30) rfl ?_
  clear X eT; clear T; intro v T h9 L2 Lc X eT hL hQ10
  obtain ⟨rfl, Nq, K11, G13⟩ := hQ10
  replace N : Fr n0 L2 := by rw [hL]; exact Fr.app N Nq
  clear Nq hL
  have ne_sb_va : sb ≠ va := Exa.neArv P1_Exa P9_Arv (own_w66 hw)
  have ne_x_va : x ≠ va := Exa.neArv P5_Exa P9_Arv (own_w1 hw)
  replace P0_Old := P0_Old.keep K11 (allS ge_va all0)
  replace P1_Exa := P1_Exa.keep K11
  replace P2_Fld := P2_Fld.keep K11 (ninS ne_sb_va nin0)
  replace P3_Fld := P3_Fld.keep K11 (ninS ne_sb_va nin0)
  replace P4_Fld := P4_Fld.keep K11 (ninS ne_sb_va nin0)
  replace P5_Exa := P5_Exa.keep K11
  replace P6_Fld := P6_Fld.keep K11 (ninS ne_x_va nin0)
  replace P7_Fld := P7_Fld.keep K11 (ninS ne_x_va nin0)
  replace P8_Arv := P8_Arv.keep K11 (ninS ntv nin0)
  replace K0 := K0.trans K11 (allS (Or.inl (List.mem_of_getElem? (i := 1) rfl)) all0)
  replace sz_h : h0.size ≤ h9.size := Nat.le_trans sz_h K11.1
  show Go p e below _ T (mkF m 33 #[.val (.ref sb), .val (.ref x), .val (.int 2)] [])
  refine galoadN (v := (.ref sb)) X hx 34 (hb hby own_d16_33) rfl rfl rfl ?_
  refine gdup X hx 35 (hb hby own_d16_34) rfl rfl ?_
  refine ggetF X hx hZ (host := "") hown (Or.inl (own_w104 hw)) Via.refl eT P4_Fld 38 (hb hby own_d16_35) rfl ?_
  clear X eT; clear T; intro T X eT
  refine giloadN (v := (2 : Int32)) X hx 39 (hb hby own_d16_38) rfl rfl ?_
  refine giadd X hx 40 (hb hby own_d16_39) rfl ?_
  rw [show ((19 : Int32) + (2 : Int32)) = (21 : Int32) from by decide]
  refine gputF X hx hZ (host := "") hown (Or.inl (own_w104 hw)) Via.refl eT P4_Fld P1_Exa (Or.inl (own_w105 hw)) (own_w66 hw) (ty := .int) own_pf2 rfl rfl N ge_sb 43 (hb hby own_d16_40) rfl ?_
  clear X eT N; clear T; intro T h14 L X eT N W15
  have ne_x_sb : x ≠ sb := ne_exa P5_Exa P1_Exa (by decide)
  have ne_t_sb : t ≠ sb := Ne.symm (Exa.neArv P1_Exa P8_Arv (own_w66 hw))
  have ne_va_sb : va ≠ sb := Ne.symm (Exa.neArv P1_Exa G13 (own_w66 hw))
  replace P0_Old := P0_Old.wr W15 ge_sb
  replace P1_Exa := P1_Exa.wr W15
  replace P2_Fld := P2_Fld.other W15 (Or.inr (slot_ne (Or.inl (own_w80 hw)) (Or.inl (own_w105 hw)) (by decide) own_pf0 own_pf2))
  replace P3_Fld := P3_Fld.other W15 (Or.inr (slot_ne (Or.inl (own_w82 hw)) (Or.inl (own_w105 hw)) (by decide) own_pf1 own_pf2))
  replace P4_Fld := P4_Fld.same W15
  replace P5_Exa := P5_Exa.wr W15
  replace P6_Fld := P6_Fld.other W15 (Or.inl ne_x_sb)
  replace P7_Fld := P7_Fld.other W15 (Or.inl ne_x_sb)
  replace P8_Arv := P8_Arv.other W15 ne_t_sb
  replace G13 := G13.other W15 ne_va_sb
  replace K0 := K0.wr W15 (Or.inl (List.mem_of_getElem? (i := 0) rfl))
  replace sz_h : h0.size ≤ h14.size := by rw [Wr.size W15]; exact sz_h
  refine galoadN (v := (.ref sb)) X hx 44 (hb hby own_d16_43) rfl rfl rfl ?_
  exact gRetP X hx hlk hret rfl (Or.inr (Or.inr (Or.inr (Or.inr ⟨rfl, rfl, rfl⟩)))) (hb hby own_d16_44) eT (by decide) (by decide) ⟨rfl, N, K0, P2_Fld, P3_Fld, P4_Fld, G13⟩
set_option maxRecDepth 65536 in
set_option maxHeartbeats 40000000 in
theorem rmSA19_2_34 (l : Launch) (Z : State) (a0 : Array Value) (hw : HW_ a0 Z) (sb : Addr) (x : Addr) (t : Addr) (va : Addr) (kt : ClassId) (kv : ClassId) (G1 : Int32) (bx0 : Int32) (bx1 : Int32) (bx2 : Int32) (bx3 : Int32) (bx4 : Int32) (bx5 : Int32) (bx6 : Int32) (bx7 : Int32) (bx8 : Int32) (bx9 : Int32) (bx10 : Int32) (bx11 : Int32) (bx12 : Int32) (bx13 : Int32) (bx14 : Int32) (bx15 : Int32) (bx16 : Int32) (bx17 : Int32) (bx18 : Int32) (cx0 : Int32) (cx1 : Int32) (h0 : Heap) (n0 : Nat) (Z0 : n0 ≤ h0.size) (ge_sb : n0 ≤ sb) (ge_va : n0 ≤ va) (P0_Old : Old Z n0 h0) (P1_Exa : Exa Z h0 sb "java/lang/StringBuilder") (P2_Fld : Fld Z h0 sb "java/lang/AbstractStringBuilder" "value" "[B" (.ref va)) (P3_Fld : Fld Z h0 sb "java/lang/AbstractStringBuilder" "coder" "B" (.int 0)) (P4_Fld : Fld Z h0 sb "java/lang/AbstractStringBuilder" "count" "I" (.int 19)) (P5_Exa : Exa Z h0 x "java/lang/String") (P6_Fld : Fld Z h0 x "java/lang/String" "coder" "B" (.int 0)) (P7_Fld : Fld Z h0 x "java/lang/String" "value" "[B" (.ref t)) (P8_Arv : Arv Z h0 t kt .byte (2 : Int32) [(.int cx0), (.int cx1)] (.int 0)) (P9_Arv : Arv Z h0 va kv .byte (34 : Int32) [(.int bx0), (.int bx1), (.int bx2), (.int bx3), (.int bx4), (.int bx5), (.int bx6), (.int bx7), (.int bx8), (.int bx9), (.int bx10), (.int bx11), (.int bx12), (.int bx13), (.int bx14), (.int bx15), (.int bx16), (.int bx17), (.int bx18), (.int 0), (.int 0), (.int 0), (.int 0), (.int 0), (.int 0), (.int 0), (.int 0), (.int 0), (.int 0), (.int 0), (.int 0), (.int 0), (.int 0), (.int 0)] (.int 0)) (O2 : Sta Z Z.heap "java/lang/String" "COMPACT_STRINGS" "Z" (.int G1)) (P5 : ¬ G1 = (0 : Int32)) (ntv : t ≠ va) :
    CtP l (⟨"java/lang/StringBuilder", "append", "(Ljava/lang/String;)Ljava/lang/StringBuilder;"⟩ : MethodName) jdk_67_method_7_code 2 (some (.object "java/lang/StringBuilder")) [] ({ frames := 4, cells := 0, slots := 0, locals := 61 } : Room) Z #[(.ref sb), (.ref x)] h0 (fun v h L => v = some (.ref sb) ∧ Fr n0 L ∧ Keep h0 h [sb, va] ∧ Fld Z h sb "java/lang/AbstractStringBuilder" "value" "[B" (.ref va) ∧ Fld Z h sb "java/lang/AbstractStringBuilder" "coder" "B" (.int 0) ∧ Fld Z h sb "java/lang/AbstractStringBuilder" "count" "I" (.int 21) ∧ Arv Z h va kv .byte (34 : Int32) [(.int bx0), (.int bx1), (.int bx2), (.int bx3), (.int bx4), (.int bx5), (.int bx6), (.int bx7), (.int bx8), (.int bx9), (.int bx10), (.int bx11), (.int bx12), (.int bx13), (.int bx14), (.int bx15), (.int bx16), (.int bx17), (.int bx18), (.int cx0), (.int cx1), (.int 0), (.int 0), (.int 0), (.int 0), (.int 0), (.int 0), (.int 0), (.int 0), (.int 0), (.int 0), (.int 0), (.int 0), (.int 0)] (.int 0)) := by
  refine CtP.walk (Ls := #[.val (.ref sb), .val (.ref x)]) (plainFor_of_name own_pn1) (fun m => by first | (simp [entryFrame, mkF, argsToLocals, Value.category]; done) | rfl) ?_
  intro p e s m below meth cc_ T hx hby hml hown hnm hret hlk hZ X eT
  have N := Fr.nil n0
  have K0 := Keep.refl h0 [sb, va]
  have sz_h : h0.size ≤ h0.size := Nat.le_refl _
  refine galoadN (v := (.ref sb)) X hx 1 (hb hby own_d15_0) rfl rfl rfl ?_
  refine galoadN (v := (.ref x)) X hx 2 (hb hby own_d15_1) rfl rfl rfl ?_
  refine gsuper (y := (⟨"java/lang/AbstractStringBuilder", "append", "(Ljava/lang/String;)Ljava/lang/AbstractStringBuilder;"⟩ : MethodName)) (a := sb) (argsL := [(.ref x)]) (st := []) X hx hZ hown (own_w89 hw) (sm_sel (own_w90 hw) (own_w109 hw) rfl (by decide)) (own_w90 hw) (own_w91 hw) (by decide) (own_w93 hw) (Ins.self P1_Exa) (payP (W := 0) (rmAA19_2_34 l Z a0 hw (sb) (x) (t) (va) (kt) (kv) (G1) (bx0) (bx1) (bx2) (bx3) (bx4) (bx5) (bx6) (bx7) (bx8) (bx9) (bx10) (bx11) (bx12) (bx13) (bx14) (bx15) (bx16) (bx17) (bx18) (cx0) (cx1) h0 n0 (Nat.le_trans Z0 sz_h) ge_sb ge_va P0_Old P1_Exa P2_Fld P3_Fld P4_Fld P5_Exa P6_Fld P7_Fld P8_Arv P9_Arv (O2) (P5) (ntv)) hZ (own_w93 hw) (own_w75 hw) (by decide) (by decide)) eT (by rw [hml]; rfl) (lenOf own_pd6 rfl) rfl (Nat.le_of_eq rfl) 0 0 rfl rfl (by decide) (by decide) 5 (hb hby own_d15_2) rfl ?_
  clear X eT; clear T; intro v T h1 L2 Lc X eT hL hQ2
  obtain ⟨rfl, Nq, K3, G5, G6, G7, G8⟩ := hQ2
  replace N : Fr n0 L2 := by rw [hL]; exact Fr.app N Nq
  clear Nq hL
  have ne_x_sb : x ≠ sb := ne_exa P5_Exa P1_Exa (by decide)
  have ne_x_va : x ≠ va := Exa.neArv P5_Exa P9_Arv (own_w1 hw)
  have ne_t_sb : t ≠ sb := Ne.symm (Exa.neArv P1_Exa P8_Arv (own_w66 hw))
  replace P0_Old := P0_Old.keep K3 (allS ge_sb (allS ge_va all0))
  replace P1_Exa := P1_Exa.keep K3
  replace P5_Exa := P5_Exa.keep K3
  replace P6_Fld := P6_Fld.keep K3 (ninS ne_x_sb (ninS ne_x_va nin0))
  replace P7_Fld := P7_Fld.keep K3 (ninS ne_x_sb (ninS ne_x_va nin0))
  replace P8_Arv := P8_Arv.keep K3 (ninS ne_t_sb (ninS ntv nin0))
  replace K0 := K0.trans K3 (allS (Or.inl (List.mem_of_getElem? (i := 0) rfl)) (allS (Or.inl (List.mem_of_getElem? (i := 1) rfl)) all0))
  replace sz_h : h0.size ≤ h1.size := Nat.le_trans sz_h K3.1
  show Go p e below _ T (mkF m 5 #[.val (.ref sb), .val (.ref x)] [(.ref sb)])
  refine gpop X hx 6 (hb hby own_d15_5) rfl rfl ?_
  refine galoadN (v := (.ref sb)) X hx 7 (hb hby own_d15_6) rfl rfl rfl ?_
  exact gRetP X hx hlk hret rfl (Or.inr (Or.inr (Or.inr (Or.inr ⟨rfl, rfl, rfl⟩)))) (hb hby own_d15_7) eT (by decide) (by decide) ⟨rfl, N, K0, G5, G6, G7, G8⟩
set_option maxRecDepth 65536 in
set_option maxHeartbeats 40000000 in
theorem rmEC32_34 (l : Launch) (Z : State) (a0 : Array Value) (hw : HW_ a0 Z) (sb : Addr) (va : Addr) (kv : ClassId) (vs0 : List Value) (h0 : Heap) (n0 : Nat) (Z0 : n0 ≤ h0.size) (P0_Fld : Fld Z h0 sb "java/lang/AbstractStringBuilder" "value" "[B" (.ref va)) (P1_Fld : Fld Z h0 sb "java/lang/AbstractStringBuilder" "coder" "B" (.int 0)) (P2_Arv : Arv Z h0 va kv .byte (34 : Int32) vs0 (.int 0)) :
    CtP l (⟨"java/lang/AbstractStringBuilder", "ensureCapacityInternal", "(I)V"⟩ : MethodName) jdk_68_method_9_code 3 none [] ({ frames := 0, cells := 0, slots := 0, locals := 0 } : Room) Z #[(.ref sb), (.int 32)] h0 (fun v h L => v = none ∧ Fr n0 L ∧ h = h0) := by
  refine CtP.walk (Ls := #[.val (.ref sb), .val (.int 32), .unset]) (plainFor_of_name own_pn0) (fun m => by first | (simp [entryFrame, mkF, argsToLocals, Value.category]; done) | rfl) ?_
  intro p e s m below meth cc_ T hx hby hml hown hnm hret hlk hZ X eT
  have N := Fr.nil n0
  have sz_h : h0.size ≤ h0.size := Nat.le_refl _
  refine galoadN (v := (.ref sb)) X hx 1 (hb hby own_d19_0) rfl rfl rfl ?_
  refine ggetF X hx hZ (host := "") hown (Or.inl (own_w79 hw)) Via.refl eT P0_Fld 4 (hb hby own_d19_1) rfl ?_
  clear X eT; clear T; intro T X eT
  refine garrlen X hx hZ eT P2_Arv 5 (hb hby own_d19_4) rfl ?_
  refine galoadN (v := (.ref sb)) X hx 6 (hb hby own_d19_5) rfl rfl rfl ?_
  refine ggetF X hx hZ (host := "") hown (Or.inl (own_w81 hw)) Via.refl eT P1_Fld 9 (hb hby own_d19_6) rfl ?_
  clear X eT; clear T; intro T X eT
  refine gishr X hx 10 (hb hby own_d19_9) rfl ?_
  rw [show ((34 : Int32) >>> ((0 : Int32) &&& 31)) = (34 : Int32) from by decide]
  refine gistoreN X hx #[.val (.ref sb), .val (.int 32), .val (.int 34)] 11 (hb hby own_d19_10) rfl rfl ?_
  refine giloadN (v := (32 : Int32)) X hx 12 (hb hby own_d19_11) rfl rfl ?_
  refine giloadN (v := (34 : Int32)) X hx 13 (hb hby own_d19_12) rfl rfl ?_
  refine gisub X hx 14 (hb hby own_d19_13) rfl ?_
  rw [show ((32 : Int32) - (34 : Int32)) = (-2 : Int32) from by decide]
  refine gifYes X hx 38 (hb hby own_d19_14) (by decide) (by decide) (by decide) ?_
  exact gRetP0 X hx hlk hret (hb hby own_d19_38) eT (by decide) (by decide) ⟨rfl, N, rfl⟩
set_option maxRecDepth 65536 in
set_option maxHeartbeats 40000000 in
theorem rmGB21_11_34 (l : Launch) (Z : State) (a0 : Array Value) (hw : HW_ a0 Z) (x : Addr) (t : Addr) (va : Addr) (kt : ClassId) (kv : ClassId) (G1 : Int32) (bx0 : Int32) (bx1 : Int32) (bx2 : Int32) (bx3 : Int32) (bx4 : Int32) (bx5 : Int32) (bx6 : Int32) (bx7 : Int32) (bx8 : Int32) (bx9 : Int32) (bx10 : Int32) (bx11 : Int32) (bx12 : Int32) (bx13 : Int32) (bx14 : Int32) (bx15 : Int32) (bx16 : Int32) (bx17 : Int32) (bx18 : Int32) (bx19 : Int32) (bx20 : Int32) (cx0 : Int32) (cx1 : Int32) (cx2 : Int32) (cx3 : Int32) (cx4 : Int32) (cx5 : Int32) (cx6 : Int32) (cx7 : Int32) (cx8 : Int32) (cx9 : Int32) (cx10 : Int32) (h0 : Heap) (n0 : Nat) (Z0 : n0 ≤ h0.size) (ge_va : n0 ≤ va) (P0_Old : Old Z n0 h0) (P1_Exa : Exa Z h0 x "java/lang/String") (P2_Fld : Fld Z h0 x "java/lang/String" "coder" "B" (.int 0)) (P3_Fld : Fld Z h0 x "java/lang/String" "value" "[B" (.ref t)) (P4_Arv : Arv Z h0 t kt .byte (11 : Int32) [(.int cx0), (.int cx1), (.int cx2), (.int cx3), (.int cx4), (.int cx5), (.int cx6), (.int cx7), (.int cx8), (.int cx9), (.int cx10)] (.int 0)) (P5_Arv : Arv Z h0 va kv .byte (34 : Int32) [(.int bx0), (.int bx1), (.int bx2), (.int bx3), (.int bx4), (.int bx5), (.int bx6), (.int bx7), (.int bx8), (.int bx9), (.int bx10), (.int bx11), (.int bx12), (.int bx13), (.int bx14), (.int bx15), (.int bx16), (.int bx17), (.int bx18), (.int bx19), (.int bx20), (.int 0), (.int 0), (.int 0), (.int 0), (.int 0), (.int 0), (.int 0), (.int 0), (.int 0), (.int 0), (.int 0), (.int 0), (.int 0)] (.int 0)) (O2 : Sta Z Z.heap "java/lang/String" "COMPACT_STRINGS" "Z" (.int G1)) (P5 : ¬ G1 = (0 : Int32)) (ntv : t ≠ va) :
    CtP l (⟨"java/lang/String", "getBytes", "([BIB)V"⟩ : MethodName) jdk_42_method_147_code 4 none [] ({ frames := 1, cells := 0, slots := 0, locals := 18 } : Room) Z #[(.ref x), (.ref va), (.int 21), (.int 0)] h0 (fun v h L => v = none ∧ Fr n0 L ∧ Keep h0 h [va] ∧ Arv Z h va kv .byte (34 : Int32) [(.int bx0), (.int bx1), (.int bx2), (.int bx3), (.int bx4), (.int bx5), (.int bx6), (.int bx7), (.int bx8), (.int bx9), (.int bx10), (.int bx11), (.int bx12), (.int bx13), (.int bx14), (.int bx15), (.int bx16), (.int bx17), (.int bx18), (.int bx19), (.int bx20), (.int cx0), (.int cx1), (.int cx2), (.int cx3), (.int cx4), (.int cx5), (.int cx6), (.int cx7), (.int cx8), (.int cx9), (.int cx10), (.int 0), (.int 0)] (.int 0)) := by
  refine CtP.walk (Ls := #[.val (.ref x), .val (.ref va), .val (.int 21), .val (.int 0)]) own_pn4 (fun m => by first | (simp [entryFrame, mkF, argsToLocals, Value.category]; done) | rfl) ?_
  intro p e s m below meth cc_ T hx hby hml hown hnm hret hlk hZ X eT
  have N := Fr.nil n0
  have K0 := Keep.refl h0 [va]
  have sz_h : h0.size ≤ h0.size := Nat.le_refl _
  refine galoadN (v := (.ref x)) X hx 1 (hb hby own_d22_0) rfl rfl rfl ?_
  refine gvirtual (y := (⟨"java/lang/String", "coder", "()B"⟩ : MethodName)) (z := (⟨"java/lang/String", "coder", "()B"⟩ : MethodName)) (a := x) (argsL := []) (st := []) X hx hZ hown (own_w99 hw) (own_w100 hw) (notFace_of_selects (args := #[]) (mvT hZ (own_w102 hw))) (own_w102 hw) (own_w101 hw) (by decide) P1_Exa (payP (W := 0) (rm18 l Z a0 hw (x) (G1) h0 n0 (Nat.le_trans Z0 sz_h) P0_Old P2_Fld (O2) (P5)) hZ (own_w103 hw) (own_w2 hw) (by decide) (by decide)) eT (by rw [hml]; rfl) (lenOf own_pd1 rfl) rfl (Nat.le_of_eq rfl) 0 0 rfl rfl (by decide) (by decide) 4 (hb hby own_d22_1) rfl ?_
  clear X eT; clear T; intro v T h1 L2 Lc X eT hL hQ2
  obtain ⟨rfl, Nq, hh⟩ := hQ2
  replace N : Fr n0 L2 := by rw [hL]; exact Fr.app N Nq
  clear Nq hL
  replace hh := hh.symm; subst hh
  show Go p e below _ T (mkF m 4 #[.val (.ref x), .val (.ref va), .val (.int 21), .val (.int 0)] [(.int 0)])
  refine giloadN (v := (0 : Int32)) X hx 5 (hb hby own_d22_4) rfl rfl ?_
  refine gicmpNo X hx 8 (hb hby own_d22_5) rfl (by decide) ?_
  refine galoadN (v := (.ref x)) X hx 9 (hb hby own_d22_8) rfl rfl rfl ?_
  refine ggetF X hx hZ (host := "") hown (Or.inl (own_w28 hw)) Via.refl eT P3_Fld 12 (hb hby own_d22_9) rfl ?_
  clear X eT; clear T; intro T X eT
  refine giconst X hx (0 : Int32) 13 (hb hby own_d22_12) rfl rfl ?_
  refine galoadN (v := (.ref va)) X hx 14 (hb hby own_d22_13) rfl rfl rfl ?_
  refine giloadN (v := (21 : Int32)) X hx 15 (hb hby own_d22_14) rfl rfl ?_
  refine giloadN (v := (0 : Int32)) X hx 16 (hb hby own_d22_15) rfl rfl ?_
  refine gishl X hx 17 (hb hby own_d22_16) rfl ?_
  rw [show ((21 : Int32) <<< ((0 : Int32) &&& 31)) = (21 : Int32) from by decide]
  refine galoadN (v := (.ref x)) X hx 18 (hb hby own_d22_17) rfl rfl rfl ?_
  refine ggetF X hx hZ (host := "") hown (Or.inl (own_w28 hw)) Via.refl eT P3_Fld 21 (hb hby own_d22_18) rfl ?_
  clear X eT; clear T; intro T X eT
  refine garrlen X hx hZ eT P4_Arv 22 (hb hby own_d22_21) rfl ?_
  refine gcpA (st := []) X hx hZ hown (own_w127 hw) (own_w130 hw) (own_w128 hw) (own_w129 hw) eT (by rw [hml]; rfl) P4_Arv P5_Arv rfl 0 21 11 rfl rfl rfl (by decide) (by decide) (by decide) (by decide) (by decide) (Nat.le_of_ble_eq_true rfl) ([(.int bx0), (.int bx1), (.int bx2), (.int bx3), (.int bx4), (.int bx5), (.int bx6), (.int bx7), (.int bx8), (.int bx9), (.int bx10), (.int bx11), (.int bx12), (.int bx13), (.int bx14), (.int bx15), (.int bx16), (.int bx17), (.int bx18), (.int bx19), (.int bx20), (.int cx0), (.int cx1), (.int cx2), (.int cx3), (.int cx4), (.int cx5), (.int cx6), (.int cx7), (.int cx8), (.int cx9), (.int cx10), (.int 0), (.int 0)] : List Value) rfl N ge_va (by decide) 0 (Nat.le_of_eq rfl) (by decide) 25 (hb hby own_d22_22) rfl ?_
  clear X eT N; clear T; intro T h5 L X eT N K6 V7
  have ne_x_va : x ≠ va := Exa.neArv P1_Exa P5_Arv (own_w1 hw)
  replace P0_Old := P0_Old.keep K6 (allS ge_va all0)
  replace P1_Exa := P1_Exa.keep K6
  replace P2_Fld := P2_Fld.keep K6 (ninS ne_x_va nin0)
  replace P3_Fld := P3_Fld.keep K6 (ninS ne_x_va nin0)
  replace P4_Arv := P4_Arv.keep K6 (ninS ntv nin0)
  replace K0 := K0.trans K6 (allS (Or.inl (List.mem_of_getElem? (i := 0) rfl)) all0)
  replace sz_h : h0.size ≤ h5.size := Nat.le_trans sz_h K6.1
  show Go p e below _ T (mkF m 25 #[.val (.ref x), .val (.ref va), .val (.int 21), .val (.int 0)] [])
  refine ggoto X hx 43 (hb hby own_d22_25) (by decide) (by decide) ?_
  exact gRetP0 X hx hlk hret (hb hby own_d22_43) eT (by decide) (by decide) ⟨rfl, N, K0, V7⟩
set_option maxRecDepth 65536 in
set_option maxHeartbeats 40000000 in
theorem rmPA21_11_34 (l : Launch) (Z : State) (a0 : Array Value) (hw : HW_ a0 Z) (sb : Addr) (x : Addr) (t : Addr) (va : Addr) (kt : ClassId) (kv : ClassId) (G1 : Int32) (bx0 : Int32) (bx1 : Int32) (bx2 : Int32) (bx3 : Int32) (bx4 : Int32) (bx5 : Int32) (bx6 : Int32) (bx7 : Int32) (bx8 : Int32) (bx9 : Int32) (bx10 : Int32) (bx11 : Int32) (bx12 : Int32) (bx13 : Int32) (bx14 : Int32) (bx15 : Int32) (bx16 : Int32) (bx17 : Int32) (bx18 : Int32) (bx19 : Int32) (bx20 : Int32) (cx0 : Int32) (cx1 : Int32) (cx2 : Int32) (cx3 : Int32) (cx4 : Int32) (cx5 : Int32) (cx6 : Int32) (cx7 : Int32) (cx8 : Int32) (cx9 : Int32) (cx10 : Int32) (h0 : Heap) (n0 : Nat) (Z0 : n0 ≤ h0.size) (ge_va : n0 ≤ va) (P0_Old : Old Z n0 h0) (P1_Exa : Exa Z h0 sb "java/lang/StringBuilder") (P2_Fld : Fld Z h0 sb "java/lang/AbstractStringBuilder" "value" "[B" (.ref va)) (P3_Fld : Fld Z h0 sb "java/lang/AbstractStringBuilder" "coder" "B" (.int 0)) (P4_Exa : Exa Z h0 x "java/lang/String") (P5_Fld : Fld Z h0 x "java/lang/String" "coder" "B" (.int 0)) (P6_Fld : Fld Z h0 x "java/lang/String" "value" "[B" (.ref t)) (P7_Arv : Arv Z h0 t kt .byte (11 : Int32) [(.int cx0), (.int cx1), (.int cx2), (.int cx3), (.int cx4), (.int cx5), (.int cx6), (.int cx7), (.int cx8), (.int cx9), (.int cx10)] (.int 0)) (P8_Arv : Arv Z h0 va kv .byte (34 : Int32) [(.int bx0), (.int bx1), (.int bx2), (.int bx3), (.int bx4), (.int bx5), (.int bx6), (.int bx7), (.int bx8), (.int bx9), (.int bx10), (.int bx11), (.int bx12), (.int bx13), (.int bx14), (.int bx15), (.int bx16), (.int bx17), (.int bx18), (.int bx19), (.int bx20), (.int 0), (.int 0), (.int 0), (.int 0), (.int 0), (.int 0), (.int 0), (.int 0), (.int 0), (.int 0), (.int 0), (.int 0), (.int 0)] (.int 0)) (O2 : Sta Z Z.heap "java/lang/String" "COMPACT_STRINGS" "Z" (.int G1)) (P5 : ¬ G1 = (0 : Int32)) (ntv : t ≠ va) :
    CtP l (⟨"java/lang/AbstractStringBuilder", "putStringAt", "(ILjava/lang/String;)V"⟩ : MethodName) jdk_68_method_73_code 3 none [] ({ frames := 2, cells := 0, slots := 0, locals := 33 } : Room) Z #[(.ref sb), (.int 21), (.ref x)] h0 (fun v h L => v = none ∧ Fr n0 L ∧ Keep h0 h [va] ∧ Arv Z h va kv .byte (34 : Int32) [(.int bx0), (.int bx1), (.int bx2), (.int bx3), (.int bx4), (.int bx5), (.int bx6), (.int bx7), (.int bx8), (.int bx9), (.int bx10), (.int bx11), (.int bx12), (.int bx13), (.int bx14), (.int bx15), (.int bx16), (.int bx17), (.int bx18), (.int bx19), (.int bx20), (.int cx0), (.int cx1), (.int cx2), (.int cx3), (.int cx4), (.int cx5), (.int cx6), (.int cx7), (.int cx8), (.int cx9), (.int cx10), (.int 0), (.int 0)] (.int 0)) := by
  refine CtP.walk (Ls := #[.val (.ref sb), .val (.int 21), .val (.ref x)]) (plainFor_of_name own_pn0) (fun m => by first | (simp [entryFrame, mkF, argsToLocals, Value.category]; done) | rfl) ?_
  intro p e s m below meth cc_ T hx hby hml hown hnm hret hlk hZ X eT
  have N := Fr.nil n0
  have K0 := Keep.refl h0 [va]
  have sz_h : h0.size ≤ h0.size := Nat.le_refl _
  refine galoadN (v := (.ref sb)) X hx 1 (hb hby own_d20_0) rfl rfl rfl ?_
  refine galoadN (v := (.ref x)) X hx 2 (hb hby own_d20_1) rfl rfl rfl ?_
  refine gpriv (y := (⟨"java/lang/AbstractStringBuilder", "inflateIfNeededFor", "(Ljava/lang/String;)V"⟩ : MethodName)) (a := sb) (argsL := [(.ref x)]) (st := []) X hx hZ hown (own_w116 hw) (own_w117 hw) (nf_sel (args := #[]) (mvT hZ (own_w109 hw)) rfl) (own_w118 hw) (own_w120 hw) (by decide) P1_Exa (payP (W := 0) (rm21 l Z a0 hw (sb) (x) (G1) h0 n0 (Nat.le_trans Z0 sz_h) P0_Old P4_Exa P3_Fld P5_Fld (O2) (P5)) hZ (own_w120 hw) (own_w75 hw) (by decide) (by decide)) eT (by rw [hml]; rfl) (lenOf own_pd2 rfl) rfl (Nat.le_of_eq rfl) 0 0 rfl rfl (by decide) (by decide) 5 (hb hby own_d20_2) rfl ?_
  clear X eT; clear T; intro v T h1 L2 Lc X eT hL hQ2
  obtain ⟨rfl, Nq, hh⟩ := hQ2
  replace N : Fr n0 L2 := by rw [hL]; exact Fr.app N Nq
  clear Nq hL
  replace hh := hh.symm; subst hh
  show Go p e below _ T (mkF m 5 #[.val (.ref sb), .val (.int 21), .val (.ref x)] [])
  refine galoadN (v := (.ref x)) X hx 6 (hb hby own_d20_5) rfl rfl rfl ?_
  refine galoadN (v := (.ref sb)) X hx 7 (hb hby own_d20_6) rfl rfl rfl ?_
  refine ggetF X hx hZ (host := "") hown (Or.inl (own_w79 hw)) Via.refl eT P2_Fld 10 (hb hby own_d20_7) rfl ?_
  clear X eT; clear T; intro T X eT
  refine giloadN (v := (21 : Int32)) X hx 11 (hb hby own_d20_10) rfl rfl ?_
  refine galoadN (v := (.ref sb)) X hx 12 (hb hby own_d20_11) rfl rfl rfl ?_
  refine ggetF X hx hZ (host := "") hown (Or.inl (own_w81 hw)) Via.refl eT P3_Fld 15 (hb hby own_d20_12) rfl ?_
  clear X eT; clear T; intro T X eT
  refine gvirtual (y := (⟨"java/lang/String", "getBytes", "([BIB)V"⟩ : MethodName)) (z := (⟨"java/lang/String", "getBytes", "([BIB)V"⟩ : MethodName)) (a := x) (argsL := [(.ref va), (.int 21), (.int 0)]) (st := []) X hx hZ hown (own_w122 hw) (own_w123 hw) (notFace_of_selects (args := #[]) (mvT hZ (own_w125 hw))) (own_w125 hw) (own_w124 hw) (by decide) P4_Exa (payP (W := 0) (rmGB21_11_34 l Z a0 hw (x) (t) (va) (kt) (kv) (G1) (bx0) (bx1) (bx2) (bx3) (bx4) (bx5) (bx6) (bx7) (bx8) (bx9) (bx10) (bx11) (bx12) (bx13) (bx14) (bx15) (bx16) (bx17) (bx18) (bx19) (bx20) (cx0) (cx1) (cx2) (cx3) (cx4) (cx5) (cx6) (cx7) (cx8) (cx9) (cx10) h0 n0 (Nat.le_trans Z0 sz_h) ge_va P0_Old P4_Exa P5_Fld P6_Fld P7_Arv P8_Arv (O2) (P5) (ntv)) hZ (own_w126 hw) (own_w2 hw) (by decide) (by decide)) eT (by rw [hml]; rfl) (lenOf own_pd3 rfl) rfl (Nat.le_of_eq rfl) 0 0 rfl rfl (by decide) (by decide) 18 (hb hby own_d20_15) rfl ?_
  clear X eT; clear T; intro v T h5 L2 Lc X eT hL hQ6
  obtain ⟨rfl, Nq, K7, G9⟩ := hQ6
  replace N : Fr n0 L2 := by rw [hL]; exact Fr.app N Nq
  clear Nq hL
  have ne_sb_va : sb ≠ va := Exa.neArv P1_Exa P8_Arv (own_w66 hw)
  have ne_x_va : x ≠ va := Exa.neArv P4_Exa P8_Arv (own_w1 hw)
  replace P0_Old := P0_Old.keep K7 (allS ge_va all0)
  replace P1_Exa := P1_Exa.keep K7
  replace P2_Fld := P2_Fld.keep K7 (ninS ne_sb_va nin0)
  replace P3_Fld := P3_Fld.keep K7 (ninS ne_sb_va nin0)
  replace P4_Exa := P4_Exa.keep K7
  replace P5_Fld := P5_Fld.keep K7 (ninS ne_x_va nin0)
  replace P6_Fld := P6_Fld.keep K7 (ninS ne_x_va nin0)
  replace P7_Arv := P7_Arv.keep K7 (ninS ntv nin0)
  replace K0 := K0.trans K7 (allS (Or.inl (List.mem_of_getElem? (i := 0) rfl)) all0)
  replace sz_h : h0.size ≤ h5.size := Nat.le_trans sz_h K7.1
  show Go p e below _ T (mkF m 18 #[.val (.ref sb), .val (.int 21), .val (.ref x)] [])
  exact gRetP0 X hx hlk hret (hb hby own_d20_18) eT (by decide) (by decide) ⟨rfl, N, K0, G9⟩
set_option maxRecDepth 65536 in
set_option maxHeartbeats 40000000 in
theorem rmAA21_11_34 (l : Launch) (Z : State) (a0 : Array Value) (hw : HW_ a0 Z) (sb : Addr) (x : Addr) (t : Addr) (va : Addr) (kt : ClassId) (kv : ClassId) (G1 : Int32) (bx0 : Int32) (bx1 : Int32) (bx2 : Int32) (bx3 : Int32) (bx4 : Int32) (bx5 : Int32) (bx6 : Int32) (bx7 : Int32) (bx8 : Int32) (bx9 : Int32) (bx10 : Int32) (bx11 : Int32) (bx12 : Int32) (bx13 : Int32) (bx14 : Int32) (bx15 : Int32) (bx16 : Int32) (bx17 : Int32) (bx18 : Int32) (bx19 : Int32) (bx20 : Int32) (cx0 : Int32) (cx1 : Int32) (cx2 : Int32) (cx3 : Int32) (cx4 : Int32) (cx5 : Int32) (cx6 : Int32) (cx7 : Int32) (cx8 : Int32) (cx9 : Int32) (cx10 : Int32) (h0 : Heap) (n0 : Nat) (Z0 : n0 ≤ h0.size) (ge_sb : n0 ≤ sb) (ge_va : n0 ≤ va) (P0_Old : Old Z n0 h0) (P1_Exa : Exa Z h0 sb "java/lang/StringBuilder") (P2_Fld : Fld Z h0 sb "java/lang/AbstractStringBuilder" "value" "[B" (.ref va)) (P3_Fld : Fld Z h0 sb "java/lang/AbstractStringBuilder" "coder" "B" (.int 0)) (P4_Fld : Fld Z h0 sb "java/lang/AbstractStringBuilder" "count" "I" (.int 21)) (P5_Exa : Exa Z h0 x "java/lang/String") (P6_Fld : Fld Z h0 x "java/lang/String" "coder" "B" (.int 0)) (P7_Fld : Fld Z h0 x "java/lang/String" "value" "[B" (.ref t)) (P8_Arv : Arv Z h0 t kt .byte (11 : Int32) [(.int cx0), (.int cx1), (.int cx2), (.int cx3), (.int cx4), (.int cx5), (.int cx6), (.int cx7), (.int cx8), (.int cx9), (.int cx10)] (.int 0)) (P9_Arv : Arv Z h0 va kv .byte (34 : Int32) [(.int bx0), (.int bx1), (.int bx2), (.int bx3), (.int bx4), (.int bx5), (.int bx6), (.int bx7), (.int bx8), (.int bx9), (.int bx10), (.int bx11), (.int bx12), (.int bx13), (.int bx14), (.int bx15), (.int bx16), (.int bx17), (.int bx18), (.int bx19), (.int bx20), (.int 0), (.int 0), (.int 0), (.int 0), (.int 0), (.int 0), (.int 0), (.int 0), (.int 0), (.int 0), (.int 0), (.int 0), (.int 0)] (.int 0)) (O2 : Sta Z Z.heap "java/lang/String" "COMPACT_STRINGS" "Z" (.int G1)) (P5 : ¬ G1 = (0 : Int32)) (ntv : t ≠ va) :
    CtP l (⟨"java/lang/AbstractStringBuilder", "append", "(Ljava/lang/String;)Ljava/lang/AbstractStringBuilder;"⟩ : MethodName) jdk_68_method_22_code 3 (some (.object "java/lang/AbstractStringBuilder")) [] ({ frames := 3, cells := 0, slots := 0, locals := 47 } : Room) Z #[(.ref sb), (.ref x)] h0 (fun v h L => v = some (.ref sb) ∧ Fr n0 L ∧ Keep h0 h [sb, va] ∧ Fld Z h sb "java/lang/AbstractStringBuilder" "value" "[B" (.ref va) ∧ Fld Z h sb "java/lang/AbstractStringBuilder" "coder" "B" (.int 0) ∧ Fld Z h sb "java/lang/AbstractStringBuilder" "count" "I" (.int 32) ∧ Arv Z h va kv .byte (34 : Int32) [(.int bx0), (.int bx1), (.int bx2), (.int bx3), (.int bx4), (.int bx5), (.int bx6), (.int bx7), (.int bx8), (.int bx9), (.int bx10), (.int bx11), (.int bx12), (.int bx13), (.int bx14), (.int bx15), (.int bx16), (.int bx17), (.int bx18), (.int bx19), (.int bx20), (.int cx0), (.int cx1), (.int cx2), (.int cx3), (.int cx4), (.int cx5), (.int cx6), (.int cx7), (.int cx8), (.int cx9), (.int cx10), (.int 0), (.int 0)] (.int 0)) := by
  refine CtP.walk (Ls := #[.val (.ref sb), .val (.ref x), .unset]) (plainFor_of_name own_pn0) (fun m => by first | (simp [entryFrame, mkF, argsToLocals, Value.category]; done) | rfl) ?_
  intro p e s m below meth cc_ T hx hby hml hown hnm hret hlk hZ X eT
  have N := Fr.nil n0
  have K0 := Keep.refl h0 [sb, va]
  have sz_h : h0.size ≤ h0.size := Nat.le_refl _
  refine galoadN (v := (.ref x)) X hx 1 (hb hby own_d16_0) rfl rfl rfl ?_
  refine gifnonnullYes X hx 9 (hb hby own_d16_1) (by decide) (by decide) ?_
  refine galoadN (v := (.ref x)) X hx 10 (hb hby own_d16_9) rfl rfl rfl ?_
  refine gvirtual (y := (⟨"java/lang/String", "length", "()I"⟩ : MethodName)) (z := (⟨"java/lang/String", "length", "()I"⟩ : MethodName)) (a := x) (argsL := []) (st := []) X hx hZ hown (own_w94 hw) (own_w95 hw) (notFace_of_selects (args := #[]) (mvT hZ (own_w97 hw))) (own_w97 hw) (own_w96 hw) (by decide) P5_Exa (payP (W := 0) (rmSL11 l Z a0 hw (x) (t) (kt) ([(.int cx0), (.int cx1), (.int cx2), (.int cx3), (.int cx4), (.int cx5), (.int cx6), (.int cx7), (.int cx8), (.int cx9), (.int cx10)]) (G1) h0 n0 (Nat.le_trans Z0 sz_h) P0_Old P5_Exa P6_Fld P7_Fld P8_Arv (O2) (P5)) hZ (own_w98 hw) (own_w2 hw) (by decide) (by decide)) eT (by rw [hml]; rfl) (lenOf own_pd4 rfl) rfl (Nat.le_of_eq rfl) 0 0 rfl rfl (by decide) (by decide) 13 (hb hby own_d16_10) rfl ?_
  clear X eT; clear T; intro v T h1 L2 Lc X eT hL hQ2
  obtain ⟨rfl, Nq, hh⟩ := hQ2
  replace N : Fr n0 L2 := by rw [hL]; exact Fr.app N Nq
  clear Nq hL
  replace hh := hh.symm; subst hh
  show Go p e below _ T (mkF m 13 #[.val (.ref sb), .val (.ref x), .unset] [(.int 11)])
  refine gistoreN X hx #[.val (.ref sb), .val (.ref x), .val (.int 11)] 14 (hb hby own_d16_13) rfl rfl ?_
  refine galoadN (v := (.ref sb)) X hx 15 (hb hby own_d16_14) rfl rfl rfl ?_
  refine galoadN (v := (.ref sb)) X hx 16 (hb hby own_d16_15) rfl rfl rfl ?_
  refine ggetF X hx hZ (host := "") hown (Or.inl (own_w104 hw)) Via.refl eT P4_Fld 19 (hb hby own_d16_16) rfl ?_
  clear X eT; clear T; intro T X eT
  refine giloadN (v := (11 : Int32)) X hx 20 (hb hby own_d16_19) rfl rfl ?_
  refine giadd X hx 21 (hb hby own_d16_20) rfl ?_
  rw [show ((21 : Int32) + (11 : Int32)) = (32 : Int32) from by decide]
  refine gpriv (y := (⟨"java/lang/AbstractStringBuilder", "ensureCapacityInternal", "(I)V"⟩ : MethodName)) (a := sb) (argsL := [(.int 32)]) (st := []) X hx hZ hown (own_w106 hw) (own_w107 hw) (nf_sel (args := #[]) (mvT hZ (own_w109 hw)) rfl) (own_w108 hw) (own_w110 hw) (by decide) P1_Exa (payP (W := 0) (rmEC32_34 l Z a0 hw (sb) (va) (kv) ([(.int bx0), (.int bx1), (.int bx2), (.int bx3), (.int bx4), (.int bx5), (.int bx6), (.int bx7), (.int bx8), (.int bx9), (.int bx10), (.int bx11), (.int bx12), (.int bx13), (.int bx14), (.int bx15), (.int bx16), (.int bx17), (.int bx18), (.int bx19), (.int bx20), (.int 0), (.int 0), (.int 0), (.int 0), (.int 0), (.int 0), (.int 0), (.int 0), (.int 0), (.int 0), (.int 0), (.int 0), (.int 0)]) h0 n0 (Nat.le_trans Z0 sz_h) P2_Fld P3_Fld P9_Arv) hZ (own_w110 hw) (own_w75 hw) (by decide) (by decide)) eT (by rw [hml]; rfl) (lenOf own_pd0 rfl) rfl (Nat.le_of_eq rfl) 0 0 rfl rfl (by decide) (by decide) 24 (hb hby own_d16_21) rfl ?_
  clear X eT; clear T; intro v T h5 L2 Lc X eT hL hQ6
  obtain ⟨rfl, Nq, hh⟩ := hQ6
  replace N : Fr n0 L2 := by rw [hL]; exact Fr.app N Nq
  clear Nq hL
  replace hh := hh.symm; subst hh
  show Go p e below _ T (mkF m 24 #[.val (.ref sb), .val (.ref x), .val (.int 11)] [])
  refine galoadN (v := (.ref sb)) X hx 25 (hb hby own_d16_24) rfl rfl rfl ?_
  refine galoadN (v := (.ref sb)) X hx 26 (hb hby own_d16_25) rfl rfl rfl ?_
  refine ggetF X hx hZ (host := "") hown (Or.inl (own_w104 hw)) Via.refl eT P4_Fld 29 (hb hby own_d16_26) rfl ?_
  clear X eT; clear T; intro T X eT
  refine galoadN (v := (.ref x)) X hx 30 (hb hby own_d16_29) rfl rfl rfl ?_
  refine gpriv (y := (⟨"java/lang/AbstractStringBuilder", "putStringAt", "(ILjava/lang/String;)V"⟩ : MethodName)) (a := sb) (argsL := [(.int 21), (.ref x)]) (st := []) X hx hZ hown (own_w111 hw) (own_w112 hw) (nf_sel (args := #[]) (mvT hZ (own_w109 hw)) rfl) (own_w113 hw) (own_w115 hw) (by decide) P1_Exa (payP (W := 0) (rmPA21_11_34 l Z a0 hw (sb) (x) (t) (va) (kt) (kv) (G1) (bx0) (bx1) (bx2) (bx3) (bx4) (bx5) (bx6) (bx7) (bx8) (bx9) (bx10) (bx11) (bx12) (bx13) (bx14) (bx15) (bx16) (bx17) (bx18) (bx19) (bx20) (cx0) (cx1) (cx2) (cx3) (cx4) (cx5) (cx6) (cx7) (cx8) (cx9) (cx10) h0 n0 (Nat.le_trans Z0 sz_h) ge_va P0_Old P1_Exa P2_Fld P3_Fld P5_Exa P6_Fld P7_Fld P8_Arv P9_Arv (O2) (P5) (ntv)) hZ (own_w115 hw) (own_w75 hw) (by decide) (by decide)) eT (by rw [hml]; rfl) (lenOf own_pd5 rfl) rfl (Nat.le_of_eq rfl) 0 0 rfl rfl (by decide) (by decide) 33 (hb hby own_d16_30) rfl ?_
  clear X eT; clear T; intro v T h9 L2 Lc X eT hL hQ10
  obtain ⟨rfl, Nq, K11, G13⟩ := hQ10
  replace N : Fr n0 L2 := by rw [hL]; exact Fr.app N Nq
  clear Nq hL
  have ne_sb_va : sb ≠ va := Exa.neArv P1_Exa P9_Arv (own_w66 hw)
  have ne_x_va : x ≠ va := Exa.neArv P5_Exa P9_Arv (own_w1 hw)
  replace P0_Old := P0_Old.keep K11 (allS ge_va all0)
  replace P1_Exa := P1_Exa.keep K11
  replace P2_Fld := P2_Fld.keep K11 (ninS ne_sb_va nin0)
  replace P3_Fld := P3_Fld.keep K11 (ninS ne_sb_va nin0)
  replace P4_Fld := P4_Fld.keep K11 (ninS ne_sb_va nin0)
  replace P5_Exa := P5_Exa.keep K11
  replace P6_Fld := P6_Fld.keep K11 (ninS ne_x_va nin0)
  replace P7_Fld := P7_Fld.keep K11 (ninS ne_x_va nin0)
  replace P8_Arv := P8_Arv.keep K11 (ninS ntv nin0)
  replace K0 := K0.trans K11 (allS (Or.inl (List.mem_of_getElem? (i := 1) rfl)) all0)
  replace sz_h : h0.size ≤ h9.size := Nat.le_trans sz_h K11.1
  show Go p e below _ T (mkF m 33 #[.val (.ref sb), .val (.ref x), .val (.int 11)] [])
  refine galoadN (v := (.ref sb)) X hx 34 (hb hby own_d16_33) rfl rfl rfl ?_
  refine gdup X hx 35 (hb hby own_d16_34) rfl rfl ?_
  refine ggetF X hx hZ (host := "") hown (Or.inl (own_w104 hw)) Via.refl eT P4_Fld 38 (hb hby own_d16_35) rfl ?_
  clear X eT; clear T; intro T X eT
  refine giloadN (v := (11 : Int32)) X hx 39 (hb hby own_d16_38) rfl rfl ?_
  refine giadd X hx 40 (hb hby own_d16_39) rfl ?_
  rw [show ((21 : Int32) + (11 : Int32)) = (32 : Int32) from by decide]
  refine gputF X hx hZ (host := "") hown (Or.inl (own_w104 hw)) Via.refl eT P4_Fld P1_Exa (Or.inl (own_w105 hw)) (own_w66 hw) (ty := .int) own_pf2 rfl rfl N ge_sb 43 (hb hby own_d16_40) rfl ?_
  clear X eT N; clear T; intro T h14 L X eT N W15
  have ne_x_sb : x ≠ sb := ne_exa P5_Exa P1_Exa (by decide)
  have ne_t_sb : t ≠ sb := Ne.symm (Exa.neArv P1_Exa P8_Arv (own_w66 hw))
  have ne_va_sb : va ≠ sb := Ne.symm (Exa.neArv P1_Exa G13 (own_w66 hw))
  replace P0_Old := P0_Old.wr W15 ge_sb
  replace P1_Exa := P1_Exa.wr W15
  replace P2_Fld := P2_Fld.other W15 (Or.inr (slot_ne (Or.inl (own_w80 hw)) (Or.inl (own_w105 hw)) (by decide) own_pf0 own_pf2))
  replace P3_Fld := P3_Fld.other W15 (Or.inr (slot_ne (Or.inl (own_w82 hw)) (Or.inl (own_w105 hw)) (by decide) own_pf1 own_pf2))
  replace P4_Fld := P4_Fld.same W15
  replace P5_Exa := P5_Exa.wr W15
  replace P6_Fld := P6_Fld.other W15 (Or.inl ne_x_sb)
  replace P7_Fld := P7_Fld.other W15 (Or.inl ne_x_sb)
  replace P8_Arv := P8_Arv.other W15 ne_t_sb
  replace G13 := G13.other W15 ne_va_sb
  replace K0 := K0.wr W15 (Or.inl (List.mem_of_getElem? (i := 0) rfl))
  replace sz_h : h0.size ≤ h14.size := by rw [Wr.size W15]; exact sz_h
  refine galoadN (v := (.ref sb)) X hx 44 (hb hby own_d16_43) rfl rfl rfl ?_
  exact gRetP X hx hlk hret rfl (Or.inr (Or.inr (Or.inr (Or.inr ⟨rfl, rfl, rfl⟩)))) (hb hby own_d16_44) eT (by decide) (by decide) ⟨rfl, N, K0, P2_Fld, P3_Fld, P4_Fld, G13⟩
set_option maxRecDepth 65536 in
set_option maxHeartbeats 40000000 in
theorem rmSA21_11_34 (l : Launch) (Z : State) (a0 : Array Value) (hw : HW_ a0 Z) (sb : Addr) (x : Addr) (t : Addr) (va : Addr) (kt : ClassId) (kv : ClassId) (G1 : Int32) (bx0 : Int32) (bx1 : Int32) (bx2 : Int32) (bx3 : Int32) (bx4 : Int32) (bx5 : Int32) (bx6 : Int32) (bx7 : Int32) (bx8 : Int32) (bx9 : Int32) (bx10 : Int32) (bx11 : Int32) (bx12 : Int32) (bx13 : Int32) (bx14 : Int32) (bx15 : Int32) (bx16 : Int32) (bx17 : Int32) (bx18 : Int32) (bx19 : Int32) (bx20 : Int32) (cx0 : Int32) (cx1 : Int32) (cx2 : Int32) (cx3 : Int32) (cx4 : Int32) (cx5 : Int32) (cx6 : Int32) (cx7 : Int32) (cx8 : Int32) (cx9 : Int32) (cx10 : Int32) (h0 : Heap) (n0 : Nat) (Z0 : n0 ≤ h0.size) (ge_sb : n0 ≤ sb) (ge_va : n0 ≤ va) (P0_Old : Old Z n0 h0) (P1_Exa : Exa Z h0 sb "java/lang/StringBuilder") (P2_Fld : Fld Z h0 sb "java/lang/AbstractStringBuilder" "value" "[B" (.ref va)) (P3_Fld : Fld Z h0 sb "java/lang/AbstractStringBuilder" "coder" "B" (.int 0)) (P4_Fld : Fld Z h0 sb "java/lang/AbstractStringBuilder" "count" "I" (.int 21)) (P5_Exa : Exa Z h0 x "java/lang/String") (P6_Fld : Fld Z h0 x "java/lang/String" "coder" "B" (.int 0)) (P7_Fld : Fld Z h0 x "java/lang/String" "value" "[B" (.ref t)) (P8_Arv : Arv Z h0 t kt .byte (11 : Int32) [(.int cx0), (.int cx1), (.int cx2), (.int cx3), (.int cx4), (.int cx5), (.int cx6), (.int cx7), (.int cx8), (.int cx9), (.int cx10)] (.int 0)) (P9_Arv : Arv Z h0 va kv .byte (34 : Int32) [(.int bx0), (.int bx1), (.int bx2), (.int bx3), (.int bx4), (.int bx5), (.int bx6), (.int bx7), (.int bx8), (.int bx9), (.int bx10), (.int bx11), (.int bx12), (.int bx13), (.int bx14), (.int bx15), (.int bx16), (.int bx17), (.int bx18), (.int bx19), (.int bx20), (.int 0), (.int 0), (.int 0), (.int 0), (.int 0), (.int 0), (.int 0), (.int 0), (.int 0), (.int 0), (.int 0), (.int 0), (.int 0)] (.int 0)) (O2 : Sta Z Z.heap "java/lang/String" "COMPACT_STRINGS" "Z" (.int G1)) (P5 : ¬ G1 = (0 : Int32)) (ntv : t ≠ va) :
    CtP l (⟨"java/lang/StringBuilder", "append", "(Ljava/lang/String;)Ljava/lang/StringBuilder;"⟩ : MethodName) jdk_67_method_7_code 2 (some (.object "java/lang/StringBuilder")) [] ({ frames := 4, cells := 0, slots := 0, locals := 61 } : Room) Z #[(.ref sb), (.ref x)] h0 (fun v h L => v = some (.ref sb) ∧ Fr n0 L ∧ Keep h0 h [sb, va] ∧ Fld Z h sb "java/lang/AbstractStringBuilder" "value" "[B" (.ref va) ∧ Fld Z h sb "java/lang/AbstractStringBuilder" "coder" "B" (.int 0) ∧ Fld Z h sb "java/lang/AbstractStringBuilder" "count" "I" (.int 32) ∧ Arv Z h va kv .byte (34 : Int32) [(.int bx0), (.int bx1), (.int bx2), (.int bx3), (.int bx4), (.int bx5), (.int bx6), (.int bx7), (.int bx8), (.int bx9), (.int bx10), (.int bx11), (.int bx12), (.int bx13), (.int bx14), (.int bx15), (.int bx16), (.int bx17), (.int bx18), (.int bx19), (.int bx20), (.int cx0), (.int cx1), (.int cx2), (.int cx3), (.int cx4), (.int cx5), (.int cx6), (.int cx7), (.int cx8), (.int cx9), (.int cx10), (.int 0), (.int 0)] (.int 0)) := by
  refine CtP.walk (Ls := #[.val (.ref sb), .val (.ref x)]) (plainFor_of_name own_pn1) (fun m => by first | (simp [entryFrame, mkF, argsToLocals, Value.category]; done) | rfl) ?_
  intro p e s m below meth cc_ T hx hby hml hown hnm hret hlk hZ X eT
  have N := Fr.nil n0
  have K0 := Keep.refl h0 [sb, va]
  have sz_h : h0.size ≤ h0.size := Nat.le_refl _
  refine galoadN (v := (.ref sb)) X hx 1 (hb hby own_d15_0) rfl rfl rfl ?_
  refine galoadN (v := (.ref x)) X hx 2 (hb hby own_d15_1) rfl rfl rfl ?_
  refine gsuper (y := (⟨"java/lang/AbstractStringBuilder", "append", "(Ljava/lang/String;)Ljava/lang/AbstractStringBuilder;"⟩ : MethodName)) (a := sb) (argsL := [(.ref x)]) (st := []) X hx hZ hown (own_w89 hw) (sm_sel (own_w90 hw) (own_w109 hw) rfl (by decide)) (own_w90 hw) (own_w91 hw) (by decide) (own_w93 hw) (Ins.self P1_Exa) (payP (W := 0) (rmAA21_11_34 l Z a0 hw (sb) (x) (t) (va) (kt) (kv) (G1) (bx0) (bx1) (bx2) (bx3) (bx4) (bx5) (bx6) (bx7) (bx8) (bx9) (bx10) (bx11) (bx12) (bx13) (bx14) (bx15) (bx16) (bx17) (bx18) (bx19) (bx20) (cx0) (cx1) (cx2) (cx3) (cx4) (cx5) (cx6) (cx7) (cx8) (cx9) (cx10) h0 n0 (Nat.le_trans Z0 sz_h) ge_sb ge_va P0_Old P1_Exa P2_Fld P3_Fld P4_Fld P5_Exa P6_Fld P7_Fld P8_Arv P9_Arv (O2) (P5) (ntv)) hZ (own_w93 hw) (own_w75 hw) (by decide) (by decide)) eT (by rw [hml]; rfl) (lenOf own_pd6 rfl) rfl (Nat.le_of_eq rfl) 0 0 rfl rfl (by decide) (by decide) 5 (hb hby own_d15_2) rfl ?_
  clear X eT; clear T; intro v T h1 L2 Lc X eT hL hQ2
  obtain ⟨rfl, Nq, K3, G5, G6, G7, G8⟩ := hQ2
  replace N : Fr n0 L2 := by rw [hL]; exact Fr.app N Nq
  clear Nq hL
  have ne_x_sb : x ≠ sb := ne_exa P5_Exa P1_Exa (by decide)
  have ne_x_va : x ≠ va := Exa.neArv P5_Exa P9_Arv (own_w1 hw)
  have ne_t_sb : t ≠ sb := Ne.symm (Exa.neArv P1_Exa P8_Arv (own_w66 hw))
  replace P0_Old := P0_Old.keep K3 (allS ge_sb (allS ge_va all0))
  replace P1_Exa := P1_Exa.keep K3
  replace P5_Exa := P5_Exa.keep K3
  replace P6_Fld := P6_Fld.keep K3 (ninS ne_x_sb (ninS ne_x_va nin0))
  replace P7_Fld := P7_Fld.keep K3 (ninS ne_x_sb (ninS ne_x_va nin0))
  replace P8_Arv := P8_Arv.keep K3 (ninS ne_t_sb (ninS ntv nin0))
  replace K0 := K0.trans K3 (allS (Or.inl (List.mem_of_getElem? (i := 0) rfl)) (allS (Or.inl (List.mem_of_getElem? (i := 1) rfl)) all0))
  replace sz_h : h0.size ≤ h1.size := Nat.le_trans sz_h K3.1
  show Go p e below _ T (mkF m 5 #[.val (.ref sb), .val (.ref x)] [(.ref sb)])
  refine gpop X hx 6 (hb hby own_d15_5) rfl rfl ?_
  refine galoadN (v := (.ref sb)) X hx 7 (hb hby own_d15_6) rfl rfl rfl ?_
  exact gRetP X hx hlk hret rfl (Or.inr (Or.inr (Or.inr (Or.inr ⟨rfl, rfl, rfl⟩)))) (hb hby own_d15_7) eT (by decide) (by decide) ⟨rfl, N, K0, G5, G6, G7, G8⟩
set_option maxRecDepth 65536 in
set_option maxHeartbeats 40000000 in
theorem rm31 (l : Launch) (Z : State) (a0 : Array Value) (hw : HW_ a0 Z) (sb : Addr) (va : Addr) (h0 : Heap) (n0 : Nat) (Z0 : n0 ≤ h0.size) (P0_Fld : Fld Z h0 sb "java/lang/AbstractStringBuilder" "value" "[B" (.ref va)) :
    CtP l (⟨"java/lang/AbstractStringBuilder", "getValue", "()[B"⟩ : MethodName) jdk_68_method_64_code 1 (some (.array .byte)) [] ({ frames := 0, cells := 0, slots := 0, locals := 0 } : Room) Z #[(.ref sb)] h0 (fun v h L => v = some (.ref va) ∧ Fr n0 L ∧ h = h0) := by
  refine CtP.walk (Ls := #[.val (.ref sb)]) (plainFor_of_name own_pn0) (fun m => by first | (simp [entryFrame, mkF, argsToLocals, Value.category]; done) | rfl) ?_
  intro p e s m below meth cc_ T hx hby hml hown hnm hret hlk hZ X eT
  have N := Fr.nil n0
  have sz_h : h0.size ≤ h0.size := Nat.le_refl _
  refine galoadN (v := (.ref sb)) X hx 1 (hb hby own_d31_0) rfl rfl rfl ?_
  refine ggetF X hx hZ (host := "") hown (Or.inl (own_w79 hw)) Via.refl eT P0_Fld 4 (hb hby own_d31_1) rfl ?_
  clear X eT; clear T; intro T X eT
  exact gRetP X hx hlk hret rfl (Or.inr (Or.inr (Or.inr (Or.inr ⟨rfl, rfl, rfl⟩)))) (hb hby own_d31_4) eT (by decide) (by decide) ⟨rfl, N, rfl⟩
set_option maxRecDepth 65536 in
set_option maxHeartbeats 40000000 in
theorem rm33 (l : Launch) (Z : State) (a0 : Array Value) (hw : HW_ a0 Z) (sb : Addr) (nn : Int32) (h0 : Heap) (n0 : Nat) (Z0 : n0 ≤ h0.size) (P0_Fld : Fld Z h0 sb "java/lang/AbstractStringBuilder" "count" "I" (.int nn)) :
    CtP l (⟨"java/lang/AbstractStringBuilder", "length", "()I"⟩ : MethodName) jdk_68_method_6_code 1 (some .int) [] ({ frames := 0, cells := 0, slots := 0, locals := 0 } : Room) Z #[(.ref sb)] h0 (fun v h L => v = some (.int nn) ∧ Fr n0 L ∧ h = h0) := by
  refine CtP.walk (Ls := #[.val (.ref sb)]) (plainFor_of_name own_pn0) (fun m => by first | (simp [entryFrame, mkF, argsToLocals, Value.category]; done) | rfl) ?_
  intro p e s m below meth cc_ T hx hby hml hown hnm hret hlk hZ X eT
  have N := Fr.nil n0
  have sz_h : h0.size ≤ h0.size := Nat.le_refl _
  refine galoadN (v := (.ref sb)) X hx 1 (hb hby own_d33_0) rfl rfl rfl ?_
  refine ggetF X hx hZ (host := "") hown (Or.inl (own_w104 hw)) Via.refl eT P0_Fld 4 (hb hby own_d33_1) rfl ?_
  clear X eT; clear T; intro T X eT
  exact gRetP X hx hlk hret rfl (Or.inl ⟨rfl, by simp, _, rfl⟩) (hb hby own_d33_4) eT (by decide) (by decide) ⟨rfl, N, rfl⟩
set_option maxRecDepth 65536 in
set_option maxHeartbeats 40000000 in
theorem rm32 (l : Launch) (Z : State) (a0 : Array Value) (hw : HW_ a0 Z) (sb : Addr) (nn : Int32) (h0 : Heap) (n0 : Nat) (Z0 : n0 ≤ h0.size) (P0_Exa : Exa Z h0 sb "java/lang/StringBuilder") (P1_Fld : Fld Z h0 sb "java/lang/AbstractStringBuilder" "count" "I" (.int nn)) :
    CtP l (⟨"java/lang/StringBuilder", "length", "()I"⟩ : MethodName) jdk_67_method_93_code 1 (some .int) [] ({ frames := 1, cells := 0, slots := 0, locals := 12 } : Room) Z #[(.ref sb)] h0 (fun v h L => v = some (.int nn) ∧ Fr n0 L ∧ h = h0) := by
  refine CtP.walk (Ls := #[.val (.ref sb)]) (plainFor_of_name own_pn1) (fun m => by first | (simp [entryFrame, mkF, argsToLocals, Value.category]; done) | rfl) ?_
  intro p e s m below meth cc_ T hx hby hml hown hnm hret hlk hZ X eT
  have N := Fr.nil n0
  have sz_h : h0.size ≤ h0.size := Nat.le_refl _
  refine galoadN (v := (.ref sb)) X hx 1 (hb hby own_d32_0) rfl rfl rfl ?_
  refine gsuper (y := (⟨"java/lang/AbstractStringBuilder", "length", "()I"⟩ : MethodName)) (a := sb) (argsL := []) (st := []) X hx hZ hown (own_w178 hw) (sm_sel (own_w174 hw) (own_w109 hw) rfl (by decide)) (own_w174 hw) (own_w91 hw) (by decide) (own_w179 hw) (Ins.self P0_Exa) (payP (W := 0) (rm33 l Z a0 hw (sb) (nn) h0 n0 (Nat.le_trans Z0 sz_h) P1_Fld) hZ (own_w179 hw) (own_w75 hw) (by decide) (by decide)) eT (by rw [hml]; rfl) (lenOf own_pd4 rfl) rfl (Nat.le_of_eq rfl) 0 0 rfl rfl (by decide) (by decide) 4 (hb hby own_d32_1) rfl ?_
  clear X eT; clear T; intro v T h1 L2 Lc X eT hL hQ2
  obtain ⟨rfl, Nq, hh⟩ := hQ2
  replace N : Fr n0 L2 := by rw [hL]; exact Fr.app N Nq
  clear Nq hL
  replace hh := hh.symm; subst hh
  show Go p e below _ T (mkF m 4 #[.val (.ref sb)] [(.int nn)])
  exact gRetP X hx hlk hret rfl (Or.inl ⟨rfl, by simp, _, rfl⟩) (hb hby own_d32_4) eT (by decide) (by decide) ⟨rfl, N, rfl⟩
set_option maxRecDepth 65536 in
set_option maxHeartbeats 40000000 in
theorem rm34 (l : Launch) (Z : State) (a0 : Array Value) (hw : HW_ a0 Z) (sb : Addr) (G1 : Int32) (h0 : Heap) (n0 : Nat) (Z0 : n0 ≤ h0.size) (P0_Old : Old Z n0 h0) (P1_Fld : Fld Z h0 sb "java/lang/AbstractStringBuilder" "coder" "B" (.int 0)) (O2 : Sta Z Z.heap "java/lang/String" "COMPACT_STRINGS" "Z" (.int G1)) (P5 : ¬ G1 = (0 : Int32)) :
    CtP l (⟨"java/lang/AbstractStringBuilder", "isLatin1", "()Z"⟩ : MethodName) jdk_68_method_68_code 1 (some .boolean) [] ({ frames := 0, cells := 0, slots := 0, locals := 0 } : Room) Z #[(.ref sb)] h0 (fun v h L => v = some (.int 1) ∧ Fr n0 L ∧ h = h0) := by
  refine CtP.walk (Ls := #[.val (.ref sb)]) (plainFor_of_name own_pn0) (fun m => by first | (simp [entryFrame, mkF, argsToLocals, Value.category]; done) | rfl) ?_
  intro p e s m below meth cc_ T hx hby hml hown hnm hret hlk hZ X eT
  have N := Fr.nil n0
  have sz_h : h0.size ≤ h0.size := Nat.le_refl _
  refine ggetS X hx hZ (host := "") hown (Or.inl (own_w78 hw)) Via.refl eT (O2.ext P0_Old.2) 3 (hb hby own_d34_0) rfl ?_
  clear X eT; clear T; intro T X eT
  refine gifNo X hx 6 (hb hby own_d34_3) rfl ((if0 _ _).trans (feq P5).1) ?_
  refine galoadN (v := (.ref sb)) X hx 7 (hb hby own_d34_6) rfl rfl rfl ?_
  refine ggetF X hx hZ (host := "") hown (Or.inl (own_w81 hw)) Via.refl eT P1_Fld 10 (hb hby own_d34_7) rfl ?_
  clear X eT; clear T; intro T X eT
  refine gifNo X hx 13 (hb hby own_d34_10) rfl (by decide) ?_
  refine giconst X hx (1 : Int32) 14 (hb hby own_d34_13) rfl rfl ?_
  refine ggoto X hx 18 (hb hby own_d34_14) (by decide) (by decide) ?_
  exact gRetP X hx hlk hret rfl (Or.inl ⟨rfl, by simp, _, rfl⟩) (hb hby own_d34_18) eT (by decide) (by decide) ⟨rfl, N, rfl⟩
set_option maxRecDepth 65536 in
set_option maxHeartbeats 40000000 in
theorem rmMn34_19 (l : Launch) (Z : State) (a0 : Array Value) (hw : HW_ a0 Z) (h0 : Heap) (n0 : Nat) (Z0 : n0 ≤ h0.size) :
    CtP l (⟨"java/lang/Math", "min", "(II)I"⟩ : MethodName) jdk_29_method_69_code 2 (some .int) [] ({ frames := 0, cells := 0, slots := 0, locals := 0 } : Room) Z #[(.int 34), (.int 19)] h0 (fun v h L => v = some (.int 19) ∧ Fr n0 L ∧ h = h0) := by
  refine CtP.walk (Ls := #[.val (.int 34), .val (.int 19)]) own_pn7 (fun m => by first | (simp [entryFrame, mkF, argsToLocals, Value.category]; done) | rfl) ?_
  intro p e s m below meth cc_ T hx hby hml hown hnm hret hlk hZ X eT
  have N := Fr.nil n0
  have sz_h : h0.size ≤ h0.size := Nat.le_refl _
  refine giloadN (v := (34 : Int32)) X hx 1 (hb hby own_d27_0) rfl rfl ?_
  refine giloadN (v := (19 : Int32)) X hx 2 (hb hby own_d27_1) rfl rfl ?_
  refine gicmpYes X hx 9 (hb hby own_d27_2) (by decide) (by decide) (by decide) ?_
  refine giloadN (v := (19 : Int32)) X hx 10 (hb hby own_d27_9) rfl rfl ?_
  exact gRetP X hx hlk hret rfl (Or.inl ⟨rfl, by simp, _, rfl⟩) (hb hby own_d27_10) eT (by decide) (by decide) ⟨rfl, N, rfl⟩
set_option maxRecDepth 65536 in
set_option maxHeartbeats 40000000 in
theorem rmCk19 (l : Launch) (Z : State) (a0 : Array Value) (hw : HW_ a0 Z) (h0 : Heap) (n0 : Nat) (Z0 : n0 ≤ h0.size) :
    CtP l (⟨"java/util/Arrays", "checkLength", "(II)V"⟩ : MethodName) jdk_65_method_131_code 2 none [] ({ frames := 0, cells := 0, slots := 0, locals := 0 } : Room) Z #[(.int 0), (.int 19)] h0 (fun v h L => v = none ∧ Fr n0 L ∧ h = h0) := by
  refine CtP.walk (Ls := #[.val (.int 0), .val (.int 19)]) (plainFor_of_name own_pn8) (fun m => by first | (simp [entryFrame, mkF, argsToLocals, Value.category]; done) | rfl) ?_
  intro p e s m below meth cc_ T hx hby hml hown hnm hret hlk hZ X eT
  have N := Fr.nil n0
  have sz_h : h0.size ≤ h0.size := Nat.le_refl _
  refine giloadN (v := (19 : Int32)) X hx 1 (hb hby own_d37_0) rfl rfl ?_
  refine giloadN (v := (0 : Int32)) X hx 2 (hb hby own_d37_1) rfl rfl ?_
  refine gicmpYes X hx 37 (hb hby own_d37_2) (by decide) (by decide) (by decide) ?_
  exact gRetP0 X hx hlk hret (hb hby own_d37_37) eT (by decide) (by decide) ⟨rfl, N, rfl⟩
set_option maxRecDepth 65536 in
set_option maxHeartbeats 40000000 in
theorem rmCB19_34 (l : Launch) (Z : State) (a0 : Array Value) (hw : HW_ a0 Z) (va : Addr) (kv : ClassId) (bx0 : Int32) (bx1 : Int32) (bx2 : Int32) (bx3 : Int32) (bx4 : Int32) (bx5 : Int32) (bx6 : Int32) (bx7 : Int32) (bx8 : Int32) (bx9 : Int32) (bx10 : Int32) (bx11 : Int32) (bx12 : Int32) (bx13 : Int32) (bx14 : Int32) (bx15 : Int32) (bx16 : Int32) (bx17 : Int32) (bx18 : Int32) (h0 : Heap) (n0 : Nat) (Z0 : n0 ≤ h0.size) (P0_Arv : Arv Z h0 va kv .byte (34 : Int32) [(.int bx0), (.int bx1), (.int bx2), (.int bx3), (.int bx4), (.int bx5), (.int bx6), (.int bx7), (.int bx8), (.int bx9), (.int bx10), (.int bx11), (.int bx12), (.int bx13), (.int bx14), (.int bx15), (.int bx16), (.int bx17), (.int bx18), (.int 0), (.int 0), (.int 0), (.int 0), (.int 0), (.int 0), (.int 0), (.int 0), (.int 0), (.int 0), (.int 0), (.int 0), (.int 0), (.int 0), (.int 0)] (.int 0)) :
    CtP l (⟨"java/util/Arrays", "copyOfRangeByte", "([BII)[B"⟩ : MethodName) jdk_65_method_133_code 5 (some (.array .byte)) [] ({ frames := 1, cells := 1, slots := 19, locals := 18 } : Room) Z #[(.ref va), (.int 0), (.int 19)] h0 (fun v h L => ∃ (tr : Addr), ∃ (kr : ClassId), v = some (.ref tr) ∧ Fr n0 L ∧ Keep h0 h [] ∧ h0.size ≤ tr ∧ Arv Z h tr kr .byte (19 : Int32) [(.int bx0), (.int bx1), (.int bx2), (.int bx3), (.int bx4), (.int bx5), (.int bx6), (.int bx7), (.int bx8), (.int bx9), (.int bx10), (.int bx11), (.int bx12), (.int bx13), (.int bx14), (.int bx15), (.int bx16), (.int bx17), (.int bx18)] (.int 0)) := by
  refine CtP.walk (Ls := #[.val (.ref va), .val (.int 0), .val (.int 19), .unset, .unset]) (plainFor_of_name own_pn8) (fun m => by first | (simp [entryFrame, mkF, argsToLocals, Value.category]; done) | rfl) ?_
  intro p e s m below meth cc_ T hx hby hml hown hnm hret hlk hZ X eT
  have N := Fr.nil n0
  have K0 := Keep.refl h0 []
  have sz_h : h0.size ≤ h0.size := Nat.le_refl _
  refine giloadN (v := (0 : Int32)) X hx 1 (hb hby own_d36_0) rfl rfl ?_
  refine giloadN (v := (19 : Int32)) X hx 2 (hb hby own_d36_1) rfl rfl ?_
  refine gstatic (y := (⟨"java/util/Arrays", "checkLength", "(II)V"⟩ : MethodName)) (argsL := [(.int 0), (.int 19)]) (st := []) X hx hZ hown (own_w191 hw) (own_w192 hw) (own_w149 hw) (own_w193 hw) (by decide) (payP (W := 0) (rmCk19 l Z a0 hw h0 n0 (Nat.le_trans Z0 sz_h)) hZ (own_w193 hw) (own_w149 hw) (by decide) (by decide)) eT (by rw [hml]; rfl) (lenOf own_pd11 rfl) rfl (Nat.le_of_eq rfl) 0 0 rfl rfl (by decide) (by decide) 5 (hb hby own_d36_2) rfl ?_
  clear X eT; clear T; intro v T h1 L2 Lc X eT hL hQ2
  obtain ⟨rfl, Nq, hh⟩ := hQ2
  replace N : Fr n0 L2 := by rw [hL]; exact Fr.app N Nq
  clear Nq hL
  replace hh := hh.symm; subst hh
  show Go p e below _ T (mkF m 5 #[.val (.ref va), .val (.int 0), .val (.int 19), .unset, .unset] [])
  refine giloadN (v := (19 : Int32)) X hx 6 (hb hby own_d36_5) rfl rfl ?_
  refine giloadN (v := (0 : Int32)) X hx 7 (hb hby own_d36_6) rfl rfl ?_
  refine gisub X hx 8 (hb hby own_d36_7) rfl ?_
  rw [show ((19 : Int32) - (0 : Int32)) = (19 : Int32) from by decide]
  refine gistoreN X hx #[.val (.ref va), .val (.int 0), .val (.int 19), .val (.int 19), .unset] 9 (hb hby own_d36_8) rfl rfl ?_
  refine giloadN (v := (19 : Int32)) X hx 10 (hb hby own_d36_9) rfl rfl ?_
  refine gnewP (aty := .byte) X hx hZ (own_w19 hw) eT (n := (19 : Int32)) (by decide) 19 (by decide) (by decide) 1 19 rfl rfl (by decide) (by decide) 12 (hb hby own_d36_10) rfl ?_
  clear X eT; clear T; intro T h5 b6 kc9 X eT ga E7 V8
  have le_a := Nat.le_of_eq ga.symm
  have ne_va_b6 : va ≠ b6 := Nat.ne_of_lt (Nat.lt_of_lt_of_le P0_Arv.lt le_a)
  have ne_b6_va : b6 ≠ va := Ne.symm ne_va_b6
  have sz_b6 : h0.size ≤ b6 := Nat.le_trans sz_h le_a
  have ge_b6 : n0 ≤ b6 := Nat.le_trans Z0 sz_b6
  clear le_a ga
  replace P0_Arv := P0_Arv.ext E7
  replace K0 := K0.ext E7
  replace sz_h : h0.size ≤ h5.size := Nat.le_trans sz_h E7.1
  replace V8 : Arv Z h5 b6 kc9 .byte (19 : Int32) [(.int 0), (.int 0), (.int 0), (.int 0), (.int 0), (.int 0), (.int 0), (.int 0), (.int 0), (.int 0), (.int 0), (.int 0), (.int 0), (.int 0), (.int 0), (.int 0), (.int 0), (.int 0), (.int 0)] (.int 0) := V8.pad (pad_rep [] _ 19)
  refine gastore X hx #[.val (.ref va), .val (.int 0), .val (.int 19), .val (.int 19), .val (.ref b6)] 14 (hb hby own_d36_12) rfl rfl rfl ?_
  refine galoadN (v := (.ref va)) X hx 15 (hb hby own_d36_14) rfl rfl rfl ?_
  refine giloadN (v := (0 : Int32)) X hx 16 (hb hby own_d36_15) rfl rfl ?_
  refine gaload (v := (.ref b6)) X hx 18 (hb hby own_d36_16) rfl rfl rfl ?_
  refine giconst X hx (0 : Int32) 19 (hb hby own_d36_18) rfl rfl ?_
  refine galoadN (v := (.ref va)) X hx 20 (hb hby own_d36_19) rfl rfl rfl ?_
  refine garrlen X hx hZ eT P0_Arv 21 (hb hby own_d36_20) rfl ?_
  refine giloadN (v := (0 : Int32)) X hx 22 (hb hby own_d36_21) rfl rfl ?_
  refine gisub X hx 23 (hb hby own_d36_22) rfl ?_
  rw [show ((34 : Int32) - (0 : Int32)) = (34 : Int32) from by decide]
  refine giloadN (v := (19 : Int32)) X hx 24 (hb hby own_d36_23) rfl rfl ?_
  refine gstatic (y := (⟨"java/lang/Math", "min", "(II)I"⟩ : MethodName)) (argsL := [(.int 34), (.int 19)]) (st := [(.int 0), (.ref b6), (.int 0), (.ref va)]) X hx hZ hown (own_w151 hw) (own_w152 hw) (own_w143 hw) (own_w153 hw) (by decide) (payP (W := 4) (rmMn34_19 l Z a0 hw h5 n0 (Nat.le_trans Z0 sz_h)) hZ (own_w153 hw) (own_w143 hw) (by decide) (by decide)) eT (by rw [hml]; rfl) (lenOf own_pd7 rfl) rfl (Nat.le_of_eq rfl) 1 19 rfl rfl (by decide) (by decide) 27 (hb hby own_d36_24) rfl ?_
  clear X eT; clear T; intro v T h10 L2 Lc X eT hL hQ11
  obtain ⟨rfl, Nq, hh⟩ := hQ11
  replace N : Fr n0 L2 := by rw [hL]; exact Fr.app N Nq
  clear Nq hL
  replace hh := hh.symm; subst hh
  show Go p e below _ T (mkF m 27 #[.val (.ref va), .val (.int 0), .val (.int 19), .val (.int 19), .val (.ref b6)] [(.int 19), (.int 0), (.ref b6), (.int 0), (.ref va)])
  refine gcpA (st := []) X hx hZ hown (own_w154 hw) (own_w130 hw) (own_w128 hw) (own_w129 hw) eT (by rw [hml]; rfl) P0_Arv V8 rfl 0 0 19 rfl rfl rfl (by decide) (by decide) (by decide) (by decide) (by decide) (Nat.le_of_ble_eq_true rfl) ([(.int bx0), (.int bx1), (.int bx2), (.int bx3), (.int bx4), (.int bx5), (.int bx6), (.int bx7), (.int bx8), (.int bx9), (.int bx10), (.int bx11), (.int bx12), (.int bx13), (.int bx14), (.int bx15), (.int bx16), (.int bx17), (.int bx18)] : List Value) rfl N ge_b6 (by decide) 0 (Nat.le_of_eq rfl) (by decide) 30 (hb hby own_d36_27) rfl ?_
  clear X eT N; clear T; intro T h14 L X eT N K15 V16
  replace P0_Arv := P0_Arv.keep K15 (ninS ne_va_b6 nin0)
  replace K0 := K0.trans K15 (allS (Or.inr sz_b6) all0)
  replace sz_h : h0.size ≤ h14.size := Nat.le_trans sz_h K15.1
  show Go p e below _ T (mkF m 30 #[.val (.ref va), .val (.int 0), .val (.int 19), .val (.int 19), .val (.ref b6)] [])
  refine gaload (v := (.ref b6)) X hx 32 (hb hby own_d36_30) rfl rfl rfl ?_
  exact gRetP X hx hlk hret rfl (Or.inr (Or.inr (Or.inr (Or.inr ⟨rfl, rfl, rfl⟩)))) (hb hby own_d36_32) eT (by decide) (by decide) ⟨b6, kc9, rfl, N, K0, sz_b6, V16⟩
set_option maxRecDepth 65536 in
set_option maxHeartbeats 40000000 in
theorem rmCR19_34 (l : Launch) (Z : State) (a0 : Array Value) (hw : HW_ a0 Z) (va : Addr) (kv : ClassId) (bx0 : Int32) (bx1 : Int32) (bx2 : Int32) (bx3 : Int32) (bx4 : Int32) (bx5 : Int32) (bx6 : Int32) (bx7 : Int32) (bx8 : Int32) (bx9 : Int32) (bx10 : Int32) (bx11 : Int32) (bx12 : Int32) (bx13 : Int32) (bx14 : Int32) (bx15 : Int32) (bx16 : Int32) (bx17 : Int32) (bx18 : Int32) (h0 : Heap) (n0 : Nat) (Z0 : n0 ≤ h0.size) (P0_Arv : Arv Z h0 va kv .byte (34 : Int32) [(.int bx0), (.int bx1), (.int bx2), (.int bx3), (.int bx4), (.int bx5), (.int bx6), (.int bx7), (.int bx8), (.int bx9), (.int bx10), (.int bx11), (.int bx12), (.int bx13), (.int bx14), (.int bx15), (.int bx16), (.int bx17), (.int bx18), (.int 0), (.int 0), (.int 0), (.int 0), (.int 0), (.int 0), (.int 0), (.int 0), (.int 0), (.int 0), (.int 0), (.int 0), (.int 0), (.int 0), (.int 0)] (.int 0)) :
    CtP l (⟨"java/util/Arrays", "copyOfRange", "([BII)[B"⟩ : MethodName) jdk_65_method_132_code 3 (some (.array .byte)) [] ({ frames := 2, cells := 1, slots := 19, locals := 34 } : Room) Z #[(.ref va), (.int 0), (.int 19)] h0 (fun v h L => ∃ (tr : Addr), ∃ (kr : ClassId), v = some (.ref tr) ∧ Fr n0 L ∧ Keep h0 h [] ∧ h0.size ≤ tr ∧ Arv Z h tr kr .byte (19 : Int32) [(.int bx0), (.int bx1), (.int bx2), (.int bx3), (.int bx4), (.int bx5), (.int bx6), (.int bx7), (.int bx8), (.int bx9), (.int bx10), (.int bx11), (.int bx12), (.int bx13), (.int bx14), (.int bx15), (.int bx16), (.int bx17), (.int bx18)] (.int 0)) := by
  refine CtP.walk (Ls := #[.val (.ref va), .val (.int 0), .val (.int 19)]) (plainFor_of_name own_pn8) (fun m => by first | (simp [entryFrame, mkF, argsToLocals, Value.category]; done) | rfl) ?_
  intro p e s m below meth cc_ T hx hby hml hown hnm hret hlk hZ X eT
  have N := Fr.nil n0
  have K0 := Keep.refl h0 []
  have sz_h : h0.size ≤ h0.size := Nat.le_refl _
  refine giloadN (v := (0 : Int32)) X hx 1 (hb hby own_d35_0) rfl rfl ?_
  refine gifNo X hx 4 (hb hby own_d35_1) rfl (by decide) ?_
  refine giloadN (v := (19 : Int32)) X hx 5 (hb hby own_d35_4) rfl rfl ?_
  refine galoadN (v := (.ref va)) X hx 6 (hb hby own_d35_5) rfl rfl rfl ?_
  refine garrlen X hx hZ eT P0_Arv 7 (hb hby own_d35_6) rfl ?_
  refine gicmpNo X hx 10 (hb hby own_d35_7) rfl (by decide) ?_
  refine galoadN (v := (.ref va)) X hx 11 (hb hby own_d35_10) rfl rfl rfl ?_
  refine giloadN (v := (0 : Int32)) X hx 12 (hb hby own_d35_11) rfl rfl ?_
  refine giloadN (v := (19 : Int32)) X hx 13 (hb hby own_d35_12) rfl rfl ?_
  refine gstatic (y := (⟨"java/util/Arrays", "copyOfRangeByte", "([BII)[B"⟩ : MethodName)) (argsL := [(.ref va), (.int 0), (.int 19)]) (st := []) X hx hZ hown (own_w188 hw) (own_w189 hw) (own_w149 hw) (own_w190 hw) (by decide) (payP (W := 0) (rmCB19_34 l Z a0 hw (va) (kv) (bx0) (bx1) (bx2) (bx3) (bx4) (bx5) (bx6) (bx7) (bx8) (bx9) (bx10) (bx11) (bx12) (bx13) (bx14) (bx15) (bx16) (bx17) (bx18) h0 n0 (Nat.le_trans Z0 sz_h) P0_Arv) hZ (own_w190 hw) (own_w149 hw) (by decide) (by decide)) eT (by rw [hml]; rfl) (lenOf own_pd12 rfl) rfl (Nat.le_of_eq rfl) 1 19 rfl rfl (by decide) (by decide) 16 (hb hby own_d35_13) rfl ?_
  clear X eT; clear T; intro v T h1 L2 Lc X eT hL hQ2
  obtain ⟨tr_3, kr_4, rfl, Nq, K5, zz_tr_3, G7⟩ := hQ2
  replace N : Fr n0 L2 := by rw [hL]; exact Fr.app N Nq
  clear Nq hL
  have ne_va_tr_3 : va ≠ tr_3 := Nat.ne_of_lt (Nat.lt_of_lt_of_le P0_Arv.lt zz_tr_3)
  have ne_tr_3_va : tr_3 ≠ va := Ne.symm ne_va_tr_3
  have sz_tr_3 : h0.size ≤ tr_3 := Nat.le_trans sz_h zz_tr_3
  have ge_tr_3 : n0 ≤ tr_3 := Nat.le_trans Z0 sz_tr_3
  replace P0_Arv := P0_Arv.keep K5 nin0
  replace K0 := K0.trans K5 all0
  replace sz_h : h0.size ≤ h1.size := Nat.le_trans sz_h K5.1
  show Go p e below _ T (mkF m 16 #[.val (.ref va), .val (.int 0), .val (.int 19)] [(.ref tr_3)])
  exact gRetP X hx hlk hret rfl (Or.inr (Or.inr (Or.inr (Or.inr ⟨rfl, rfl, rfl⟩)))) (hb hby own_d35_16) eT (by decide) (by decide) ⟨tr_3, kr_4, rfl, N, K0, sz_tr_3, G7⟩
set_option maxRecDepth 65536 in
set_option maxHeartbeats 40000000 in
theorem rmIA19_34 (l : Launch) (Z : State) (a0 : Array Value) (hw : HW_ a0 Z) (x : Addr) (sb : Addr) (va : Addr) (kv : ClassId) (G1 : Int32) (bx0 : Int32) (bx1 : Int32) (bx2 : Int32) (bx3 : Int32) (bx4 : Int32) (bx5 : Int32) (bx6 : Int32) (bx7 : Int32) (bx8 : Int32) (bx9 : Int32) (bx10 : Int32) (bx11 : Int32) (bx12 : Int32) (bx13 : Int32) (bx14 : Int32) (bx15 : Int32) (bx16 : Int32) (bx17 : Int32) (bx18 : Int32) (h0 : Heap) (n0 : Nat) (Z0 : n0 ≤ h0.size) (ge_x : n0 ≤ x) (P0_Old : Old Z n0 h0) (P1_Exa : Exa Z h0 x "java/lang/String") (P2_Fld : Fld Z h0 x "java/lang/String" "value" "[B" .null) (P3_Fld : Fld Z h0 x "java/lang/String" "coder" "B" (.int 0)) (P4_Exa : Exa Z h0 sb "java/lang/StringBuilder") (P5_Fld : Fld Z h0 sb "java/lang/AbstractStringBuilder" "value" "[B" (.ref va)) (P6_Fld : Fld Z h0 sb "java/lang/AbstractStringBuilder" "coder" "B" (.int 0)) (P7_Fld : Fld Z h0 sb "java/lang/AbstractStringBuilder" "count" "I" (.int 19)) (P8_Arv : Arv Z h0 va kv .byte (34 : Int32) [(.int bx0), (.int bx1), (.int bx2), (.int bx3), (.int bx4), (.int bx5), (.int bx6), (.int bx7), (.int bx8), (.int bx9), (.int bx10), (.int bx11), (.int bx12), (.int bx13), (.int bx14), (.int bx15), (.int bx16), (.int bx17), (.int bx18), (.int 0), (.int 0), (.int 0), (.int 0), (.int 0), (.int 0), (.int 0), (.int 0), (.int 0), (.int 0), (.int 0), (.int 0), (.int 0), (.int 0), (.int 0)] (.int 0)) (O2 : Sta Z Z.heap "java/lang/String" "COMPACT_STRINGS" "Z" (.int G1)) (P5 : ¬ G1 = (0 : Int32)) :
    CtP l (⟨"java/lang/String", "<init>", "(Ljava/lang/AbstractStringBuilder;Ljava/lang/Void;)V"⟩ : MethodName) jdk_42_method_150_code 5 none [] ({ frames := 3, cells := 1, slots := 19, locals := 49 } : Room) Z #[(.ref x), (.ref sb), .null] h0 (fun v h L => ∃ (tr : Addr), ∃ (kr : ClassId), v = none ∧ Fr n0 L ∧ Keep h0 h [x] ∧ h0.size ≤ tr ∧ Fld Z h x "java/lang/String" "coder" "B" (.int 0) ∧ Fld Z h x "java/lang/String" "value" "[B" (.ref tr) ∧ Arv Z h tr kr .byte (19 : Int32) [(.int bx0), (.int bx1), (.int bx2), (.int bx3), (.int bx4), (.int bx5), (.int bx6), (.int bx7), (.int bx8), (.int bx9), (.int bx10), (.int bx11), (.int bx12), (.int bx13), (.int bx14), (.int bx15), (.int bx16), (.int bx17), (.int bx18)] (.int 0)) := by
  refine CtP.walk (Ls := #[.val (.ref x), .val (.ref sb), .val .null, .unset, .unset]) own_pn9 (fun m => by first | (simp [entryFrame, mkF, argsToLocals, Value.category]; done) | rfl) ?_
  intro p e s m below meth cc_ T hx hby hml hown hnm hret hlk hZ X eT
  have N := Fr.nil n0
  have K0 := Keep.refl h0 [x]
  have sz_h : h0.size ≤ h0.size := Nat.le_refl _
  refine galoadN (v := (.ref x)) X hx 1 (hb hby own_d30_0) rfl rfl rfl ?_
  refine ginitO X hx hZ hown (own_w11 hw) (own_w12 hw) (own_w13 hw) eT (by rw [hml]; rfl) (by decide) 0 (Nat.le_of_eq rfl) (by decide) 4 (hb hby own_d30_1) rfl ?_
  clear X eT; clear T; intro T X eT
  refine galoadN (v := (.ref sb)) X hx 5 (hb hby own_d30_4) rfl rfl rfl ?_
  refine gvirtual (y := (⟨"java/lang/AbstractStringBuilder", "getValue", "()[B"⟩ : MethodName)) (z := (⟨"java/lang/AbstractStringBuilder", "getValue", "()[B"⟩ : MethodName)) (a := sb) (argsL := []) (st := []) X hx hZ hown (own_w167 hw) (own_w168 hw) (notFace_of_selects (args := #[]) (mvT hZ (own_w170 hw))) (own_w170 hw) (own_w169 hw) (by decide) P4_Exa (payP (W := 0) (rm31 l Z a0 hw (sb) (va) h0 n0 (Nat.le_trans Z0 sz_h) P5_Fld) hZ (own_w171 hw) (own_w75 hw) (by decide) (by decide)) eT (by rw [hml]; rfl) (lenOf own_pd13 rfl) rfl (Nat.le_of_eq rfl) 0 0 rfl rfl (by decide) (by decide) 8 (hb hby own_d30_5) rfl ?_
  clear X eT; clear T; intro v T h1 L2 Lc X eT hL hQ2
  obtain ⟨rfl, Nq, hh⟩ := hQ2
  replace N : Fr n0 L2 := by rw [hL]; exact Fr.app N Nq
  clear Nq hL
  replace hh := hh.symm; subst hh
  show Go p e below _ T (mkF m 8 #[.val (.ref x), .val (.ref sb), .val .null, .unset, .unset] [(.ref va)])
  refine gastoreN X hx #[.val (.ref x), .val (.ref sb), .val .null, .val (.ref va), .unset] 9 (hb hby own_d30_8) rfl rfl rfl ?_
  refine galoadN (v := (.ref sb)) X hx 10 (hb hby own_d30_9) rfl rfl rfl ?_
  refine gvirtual (y := (⟨"java/lang/AbstractStringBuilder", "length", "()I"⟩ : MethodName)) (z := (⟨"java/lang/StringBuilder", "length", "()I"⟩ : MethodName)) (a := sb) (argsL := []) (st := []) X hx hZ hown (own_w172 hw) (own_w173 hw) (nf_sel (args := #[]) (mvT hZ (own_w109 hw)) rfl) (own_w175 hw) (own_w176 hw) (by decide) P4_Exa (payP (W := 0) (rm32 l Z a0 hw (sb) ((19 : Int32)) h0 n0 (Nat.le_trans Z0 sz_h) P4_Exa P7_Fld) hZ (own_w177 hw) (own_w67 hw) (by decide) (by decide)) eT (by rw [hml]; rfl) (lenOf own_pd4 rfl) rfl (Nat.le_of_eq rfl) 0 0 rfl rfl (by decide) (by decide) 13 (hb hby own_d30_10) rfl ?_
  clear X eT; clear T; intro v T h5 L2 Lc X eT hL hQ6
  obtain ⟨rfl, Nq, hh⟩ := hQ6
  replace N : Fr n0 L2 := by rw [hL]; exact Fr.app N Nq
  clear Nq hL
  replace hh := hh.symm; subst hh
  show Go p e below _ T (mkF m 13 #[.val (.ref x), .val (.ref sb), .val .null, .val (.ref va), .unset] [(.int 19)])
  refine gistore X hx #[.val (.ref x), .val (.ref sb), .val .null, .val (.ref va), .val (.int 19)] 15 (hb hby own_d30_13) rfl rfl ?_
  refine galoadN (v := (.ref sb)) X hx 16 (hb hby own_d30_15) rfl rfl rfl ?_
  refine gvirtual (y := (⟨"java/lang/AbstractStringBuilder", "isLatin1", "()Z"⟩ : MethodName)) (z := (⟨"java/lang/AbstractStringBuilder", "isLatin1", "()Z"⟩ : MethodName)) (a := sb) (argsL := []) (st := []) X hx hZ hown (own_w180 hw) (own_w181 hw) (notFace_of_selects (args := #[]) (mvT hZ (own_w183 hw))) (own_w183 hw) (own_w182 hw) (by decide) P4_Exa (payP (W := 0) (rm34 l Z a0 hw (sb) (G1) h0 n0 (Nat.le_trans Z0 sz_h) P0_Old P6_Fld (O2) (P5)) hZ (own_w184 hw) (own_w75 hw) (by decide) (by decide)) eT (by rw [hml]; rfl) (lenOf own_pd14 rfl) rfl (Nat.le_of_eq rfl) 0 0 rfl rfl (by decide) (by decide) 19 (hb hby own_d30_16) rfl ?_
  clear X eT; clear T; intro v T h9 L2 Lc X eT hL hQ10
  obtain ⟨rfl, Nq, hh⟩ := hQ10
  replace N : Fr n0 L2 := by rw [hL]; exact Fr.app N Nq
  clear Nq hL
  replace hh := hh.symm; subst hh
  show Go p e below _ T (mkF m 19 #[.val (.ref x), .val (.ref sb), .val .null, .val (.ref va), .val (.int 19)] [(.int 1)])
  refine gifNo X hx 22 (hb hby own_d30_19) rfl (by decide) ?_
  refine galoadN (v := (.ref x)) X hx 23 (hb hby own_d30_22) rfl rfl rfl ?_
  refine giconst X hx (0 : Int32) 24 (hb hby own_d30_23) rfl rfl ?_
  refine gputF X hx hZ (host := "") hown (Or.inl (own_w26 hw)) Via.refl eT P3_Fld P1_Exa (Or.inr ⟨(own_w27 hw), rfl, hnm⟩) (own_w1 hw) (ty := .byte) own_pf1 rfl rfl N ge_x 27 (hb hby own_d30_24) rfl ?_
  clear X eT N; clear T; intro T h13 L X eT N W14
  have ne_sb_x : sb ≠ x := ne_exa P4_Exa P1_Exa (by decide)
  have ne_va_x : va ≠ x := Ne.symm (Exa.neArv P1_Exa P8_Arv (own_w1 hw))
  replace P0_Old := P0_Old.wr W14 ge_x
  replace P1_Exa := P1_Exa.wr W14
  replace P2_Fld := P2_Fld.other W14 (Or.inr (slot_ne (Or.inr (own_w29 hw)) (Or.inr (own_w27 hw)) (by decide) own_pf0 own_pf1))
  replace P3_Fld := P3_Fld.same W14
  replace P4_Exa := P4_Exa.wr W14
  replace P5_Fld := P5_Fld.other W14 (Or.inl ne_sb_x)
  replace P6_Fld := P6_Fld.other W14 (Or.inl ne_sb_x)
  replace P7_Fld := P7_Fld.other W14 (Or.inl ne_sb_x)
  replace P8_Arv := P8_Arv.other W14 ne_va_x
  replace K0 := K0.wr W14 (Or.inl (List.mem_of_getElem? (i := 0) rfl))
  replace sz_h : h0.size ≤ h13.size := by rw [Wr.size W14]; exact sz_h
  refine galoadN (v := (.ref x)) X hx 28 (hb hby own_d30_27) rfl rfl rfl ?_
  refine galoadN (v := (.ref va)) X hx 29 (hb hby own_d30_28) rfl rfl rfl ?_
  refine giconst X hx (0 : Int32) 30 (hb hby own_d30_29) rfl rfl ?_
  refine giload (v := (19 : Int32)) X hx 32 (hb hby own_d30_30) rfl rfl ?_
  refine gstatic (y := (⟨"java/util/Arrays", "copyOfRange", "([BII)[B"⟩ : MethodName)) (argsL := [(.ref va), (.int 0), (.int 19)]) (st := [(.ref x)]) X hx hZ hown (own_w185 hw) (own_w186 hw) (own_w149 hw) (own_w187 hw) (by decide) (payP (W := 1) (rmCR19_34 l Z a0 hw (va) (kv) (bx0) (bx1) (bx2) (bx3) (bx4) (bx5) (bx6) (bx7) (bx8) (bx9) (bx10) (bx11) (bx12) (bx13) (bx14) (bx15) (bx16) (bx17) (bx18) h13 n0 (Nat.le_trans Z0 sz_h) P8_Arv) hZ (own_w187 hw) (own_w149 hw) (by decide) (by decide)) eT (by rw [hml]; rfl) (lenOf own_pd12 rfl) rfl (Nat.le_of_eq rfl) 1 19 rfl rfl (by decide) (by decide) 35 (hb hby own_d30_32) rfl ?_
  clear X eT; clear T; intro v T h15 L2 Lc X eT hL hQ16
  obtain ⟨tr_17, kr_18, rfl, Nq, K19, zz_tr_17, G21⟩ := hQ16
  replace N : Fr n0 L2 := by rw [hL]; exact Fr.app N Nq
  clear Nq hL
  have ne_x_tr_17 : x ≠ tr_17 := Nat.ne_of_lt (Nat.lt_of_lt_of_le P1_Exa.lt zz_tr_17)
  have ne_tr_17_x : tr_17 ≠ x := Ne.symm ne_x_tr_17
  have ne_sb_tr_17 : sb ≠ tr_17 := Nat.ne_of_lt (Nat.lt_of_lt_of_le P4_Exa.lt zz_tr_17)
  have ne_tr_17_sb : tr_17 ≠ sb := Ne.symm ne_sb_tr_17
  have ne_va_tr_17 : va ≠ tr_17 := Nat.ne_of_lt (Nat.lt_of_lt_of_le P8_Arv.lt zz_tr_17)
  have ne_tr_17_va : tr_17 ≠ va := Ne.symm ne_va_tr_17
  have sz_tr_17 : h0.size ≤ tr_17 := Nat.le_trans sz_h zz_tr_17
  have ge_tr_17 : n0 ≤ tr_17 := Nat.le_trans Z0 sz_tr_17
  replace P0_Old := P0_Old.keep K19 all0
  replace P1_Exa := P1_Exa.keep K19
  replace P2_Fld := P2_Fld.keep K19 nin0
  replace P3_Fld := P3_Fld.keep K19 nin0
  replace P4_Exa := P4_Exa.keep K19
  replace P5_Fld := P5_Fld.keep K19 nin0
  replace P6_Fld := P6_Fld.keep K19 nin0
  replace P7_Fld := P7_Fld.keep K19 nin0
  replace P8_Arv := P8_Arv.keep K19 nin0
  replace K0 := K0.trans K19 all0
  replace sz_h : h0.size ≤ h15.size := Nat.le_trans sz_h K19.1
  show Go p e below _ T (mkF m 35 #[.val (.ref x), .val (.ref sb), .val .null, .val (.ref va), .val (.int 19)] [(.ref tr_17), (.ref x)])
  refine gputF X hx hZ (host := "") hown (Or.inl (own_w28 hw)) Via.refl eT P2_Fld P1_Exa (Or.inr ⟨(own_w29 hw), rfl, hnm⟩) (own_w1 hw) (ty := (.array .byte)) own_pf0 rfl rfl N ge_x 38 (hb hby own_d30_35) rfl ?_
  clear X eT N; clear T; intro T h22 L X eT N W23
  replace P0_Old := P0_Old.wr W23 ge_x
  replace P1_Exa := P1_Exa.wr W23
  replace P2_Fld := P2_Fld.same W23
  replace P3_Fld := P3_Fld.other W23 (Or.inr (slot_ne (Or.inr (own_w27 hw)) (Or.inr (own_w29 hw)) (by decide) own_pf1 own_pf0))
  replace P4_Exa := P4_Exa.wr W23
  replace P5_Fld := P5_Fld.other W23 (Or.inl ne_sb_x)
  replace P6_Fld := P6_Fld.other W23 (Or.inl ne_sb_x)
  replace P7_Fld := P7_Fld.other W23 (Or.inl ne_sb_x)
  replace P8_Arv := P8_Arv.other W23 ne_va_x
  replace G21 := G21.other W23 ne_tr_17_x
  replace K0 := K0.wr W23 (Or.inl (List.mem_of_getElem? (i := 0) rfl))
  replace sz_h : h0.size ≤ h22.size := by rw [Wr.size W23]; exact sz_h
  refine ggoto X hx 97 (hb hby own_d30_38) (by decide) (by decide) ?_
  exact gRetP0 X hx hlk hret (hb hby own_d30_97) eT (by decide) (by decide) ⟨tr_17, kr_18, rfl, N, K0, sz_tr_17, P3_Fld, P2_Fld, G21⟩
set_option maxRecDepth 65536 in
set_option maxHeartbeats 40000000 in
theorem rmIS19_34 (l : Launch) (Z : State) (a0 : Array Value) (hw : HW_ a0 Z) (x : Addr) (sb : Addr) (va : Addr) (kv : ClassId) (G1 : Int32) (bx0 : Int32) (bx1 : Int32) (bx2 : Int32) (bx3 : Int32) (bx4 : Int32) (bx5 : Int32) (bx6 : Int32) (bx7 : Int32) (bx8 : Int32) (bx9 : Int32) (bx10 : Int32) (bx11 : Int32) (bx12 : Int32) (bx13 : Int32) (bx14 : Int32) (bx15 : Int32) (bx16 : Int32) (bx17 : Int32) (bx18 : Int32) (h0 : Heap) (n0 : Nat) (Z0 : n0 ≤ h0.size) (ge_x : n0 ≤ x) (P0_Old : Old Z n0 h0) (P1_Exa : Exa Z h0 x "java/lang/String") (P2_Fld : Fld Z h0 x "java/lang/String" "value" "[B" .null) (P3_Fld : Fld Z h0 x "java/lang/String" "coder" "B" (.int 0)) (P4_Exa : Exa Z h0 sb "java/lang/StringBuilder") (P5_Fld : Fld Z h0 sb "java/lang/AbstractStringBuilder" "value" "[B" (.ref va)) (P6_Fld : Fld Z h0 sb "java/lang/AbstractStringBuilder" "coder" "B" (.int 0)) (P7_Fld : Fld Z h0 sb "java/lang/AbstractStringBuilder" "count" "I" (.int 19)) (P8_Arv : Arv Z h0 va kv .byte (34 : Int32) [(.int bx0), (.int bx1), (.int bx2), (.int bx3), (.int bx4), (.int bx5), (.int bx6), (.int bx7), (.int bx8), (.int bx9), (.int bx10), (.int bx11), (.int bx12), (.int bx13), (.int bx14), (.int bx15), (.int bx16), (.int bx17), (.int bx18), (.int 0), (.int 0), (.int 0), (.int 0), (.int 0), (.int 0), (.int 0), (.int 0), (.int 0), (.int 0), (.int 0), (.int 0), (.int 0), (.int 0), (.int 0)] (.int 0)) (O2 : Sta Z Z.heap "java/lang/String" "COMPACT_STRINGS" "Z" (.int G1)) (P5 : ¬ G1 = (0 : Int32)) :
    CtP l (⟨"java/lang/String", "<init>", "(Ljava/lang/StringBuilder;)V"⟩ : MethodName) jdk_42_method_53_code 2 none [] ({ frames := 4, cells := 1, slots := 19, locals := 65 } : Room) Z #[(.ref x), (.ref sb)] h0 (fun v h L => ∃ (tr : Addr), ∃ (kr : ClassId), v = none ∧ Fr n0 L ∧ Keep h0 h [x] ∧ h0.size ≤ tr ∧ Fld Z h x "java/lang/String" "coder" "B" (.int 0) ∧ Fld Z h x "java/lang/String" "value" "[B" (.ref tr) ∧ Arv Z h tr kr .byte (19 : Int32) [(.int bx0), (.int bx1), (.int bx2), (.int bx3), (.int bx4), (.int bx5), (.int bx6), (.int bx7), (.int bx8), (.int bx9), (.int bx10), (.int bx11), (.int bx12), (.int bx13), (.int bx14), (.int bx15), (.int bx16), (.int bx17), (.int bx18)] (.int 0)) := by
  refine CtP.walk (Ls := #[.val (.ref x), .val (.ref sb)]) own_pn10 (fun m => by first | (simp [entryFrame, mkF, argsToLocals, Value.category]; done) | rfl) ?_
  intro p e s m below meth cc_ T hx hby hml hown hnm hret hlk hZ X eT
  have N := Fr.nil n0
  have K0 := Keep.refl h0 [x]
  have sz_h : h0.size ≤ h0.size := Nat.le_refl _
  refine galoadN (v := (.ref x)) X hx 1 (hb hby own_d29_0) rfl rfl rfl ?_
  refine galoadN (v := (.ref sb)) X hx 2 (hb hby own_d29_1) rfl rfl rfl ?_
  refine gaconstNull X hx 3 (hb hby own_d29_2) rfl ?_
  refine gspecial (y := (⟨"java/lang/String", "<init>", "(Ljava/lang/AbstractStringBuilder;Ljava/lang/Void;)V"⟩ : MethodName)) (a := x) (argsL := [(.ref sb), .null]) (st := []) X hx hZ hown rfl (own_w164 hw) (own_w165 hw) (own_w166 hw) (by decide) (payP (W := 0) (rmIA19_34 l Z a0 hw (x) (sb) (va) (kv) (G1) (bx0) (bx1) (bx2) (bx3) (bx4) (bx5) (bx6) (bx7) (bx8) (bx9) (bx10) (bx11) (bx12) (bx13) (bx14) (bx15) (bx16) (bx17) (bx18) h0 n0 (Nat.le_trans Z0 sz_h) ge_x P0_Old P1_Exa P2_Fld P3_Fld P4_Exa P5_Fld P6_Fld P7_Fld P8_Arv (O2) (P5)) hZ (own_w166 hw) (own_w2 hw) (by decide) (by decide)) eT (by rw [hml]; rfl) (lenOf own_pd15 rfl) rfl (Nat.le_of_eq rfl) 1 19 rfl rfl (by decide) (by decide) 6 (hb hby own_d29_3) rfl ?_
  clear X eT; clear T; intro v T h1 L2 Lc X eT hL hQ2
  obtain ⟨tr_3, kr_4, rfl, Nq, K5, zz_tr_3, G7, G8, G9⟩ := hQ2
  replace N : Fr n0 L2 := by rw [hL]; exact Fr.app N Nq
  clear Nq hL
  have ne_x_tr_3 : x ≠ tr_3 := Nat.ne_of_lt (Nat.lt_of_lt_of_le P1_Exa.lt zz_tr_3)
  have ne_tr_3_x : tr_3 ≠ x := Ne.symm ne_x_tr_3
  have ne_sb_tr_3 : sb ≠ tr_3 := Nat.ne_of_lt (Nat.lt_of_lt_of_le P4_Exa.lt zz_tr_3)
  have ne_tr_3_sb : tr_3 ≠ sb := Ne.symm ne_sb_tr_3
  have ne_va_tr_3 : va ≠ tr_3 := Nat.ne_of_lt (Nat.lt_of_lt_of_le P8_Arv.lt zz_tr_3)
  have ne_tr_3_va : tr_3 ≠ va := Ne.symm ne_va_tr_3
  have sz_tr_3 : h0.size ≤ tr_3 := Nat.le_trans sz_h zz_tr_3
  have ge_tr_3 : n0 ≤ tr_3 := Nat.le_trans Z0 sz_tr_3
  have ne_sb_x : sb ≠ x := ne_exa P4_Exa P1_Exa (by decide)
  have ne_va_x : va ≠ x := Ne.symm (Exa.neArv P1_Exa P8_Arv (own_w1 hw))
  replace P0_Old := P0_Old.keep K5 (allS ge_x all0)
  replace P1_Exa := P1_Exa.keep K5
  replace P4_Exa := P4_Exa.keep K5
  replace P5_Fld := P5_Fld.keep K5 (ninS ne_sb_x nin0)
  replace P6_Fld := P6_Fld.keep K5 (ninS ne_sb_x nin0)
  replace P7_Fld := P7_Fld.keep K5 (ninS ne_sb_x nin0)
  replace P8_Arv := P8_Arv.keep K5 (ninS ne_va_x nin0)
  replace K0 := K0.trans K5 (allS (Or.inl (List.mem_of_getElem? (i := 0) rfl)) all0)
  replace sz_h : h0.size ≤ h1.size := Nat.le_trans sz_h K5.1
  show Go p e below _ T (mkF m 6 #[.val (.ref x), .val (.ref sb)] [])
  exact gRetP0 X hx hlk hret (hb hby own_d29_6) eT (by decide) (by decide) ⟨tr_3, kr_4, rfl, N, K0, sz_tr_3, G7, G8, G9⟩
set_option maxRecDepth 65536 in
set_option maxHeartbeats 40000000 in
theorem rmTS19_34 (l : Launch) (Z : State) (a0 : Array Value) (hw : HW_ a0 Z) (sb : Addr) (va : Addr) (kv : ClassId) (G1 : Int32) (bx0 : Int32) (bx1 : Int32) (bx2 : Int32) (bx3 : Int32) (bx4 : Int32) (bx5 : Int32) (bx6 : Int32) (bx7 : Int32) (bx8 : Int32) (bx9 : Int32) (bx10 : Int32) (bx11 : Int32) (bx12 : Int32) (bx13 : Int32) (bx14 : Int32) (bx15 : Int32) (bx16 : Int32) (bx17 : Int32) (bx18 : Int32) (h0 : Heap) (n0 : Nat) (Z0 : n0 ≤ h0.size) (P0_Old : Old Z n0 h0) (P1_Exa : Exa Z h0 sb "java/lang/StringBuilder") (P2_Fld : Fld Z h0 sb "java/lang/AbstractStringBuilder" "value" "[B" (.ref va)) (P3_Fld : Fld Z h0 sb "java/lang/AbstractStringBuilder" "coder" "B" (.int 0)) (P4_Fld : Fld Z h0 sb "java/lang/AbstractStringBuilder" "count" "I" (.int 19)) (P5_Arv : Arv Z h0 va kv .byte (34 : Int32) [(.int bx0), (.int bx1), (.int bx2), (.int bx3), (.int bx4), (.int bx5), (.int bx6), (.int bx7), (.int bx8), (.int bx9), (.int bx10), (.int bx11), (.int bx12), (.int bx13), (.int bx14), (.int bx15), (.int bx16), (.int bx17), (.int bx18), (.int 0), (.int 0), (.int 0), (.int 0), (.int 0), (.int 0), (.int 0), (.int 0), (.int 0), (.int 0), (.int 0), (.int 0), (.int 0), (.int 0), (.int 0)] (.int 0)) (O2 : Sta Z Z.heap "java/lang/String" "COMPACT_STRINGS" "Z" (.int G1)) (P5 : ¬ G1 = (0 : Int32)) :
    CtP l (⟨"java/lang/StringBuilder", "toString", "()Ljava/lang/String;"⟩ : MethodName) jdk_67_method_42_code 1 (some (.object "java/lang/String")) [] ({ frames := 5, cells := 2, slots := 23, locals := 79 } : Room) Z #[(.ref sb)] h0 (fun v h L => ∃ (x : Addr), ∃ (tr : Addr), ∃ (kr : ClassId), v = some (.ref x) ∧ Fr n0 L ∧ Keep h0 h [] ∧ h0.size ≤ x ∧ h0.size ≤ tr ∧ Exa Z h x "java/lang/String" ∧ Fld Z h x "java/lang/String" "coder" "B" (.int 0) ∧ Fld Z h x "java/lang/String" "value" "[B" (.ref tr) ∧ Arv Z h tr kr .byte (19 : Int32) [(.int bx0), (.int bx1), (.int bx2), (.int bx3), (.int bx4), (.int bx5), (.int bx6), (.int bx7), (.int bx8), (.int bx9), (.int bx10), (.int bx11), (.int bx12), (.int bx13), (.int bx14), (.int bx15), (.int bx16), (.int bx17), (.int bx18)] (.int 0)) := by
  refine CtP.walk (Ls := #[.val (.ref sb)]) (plainFor_of_name own_pn1) (fun m => by first | (simp [entryFrame, mkF, argsToLocals, Value.category]; done) | rfl) ?_
  intro p e s m below meth cc_ T hx hby hml hown hnm hret hlk hZ X eT
  have N := Fr.nil n0
  have K0 := Keep.refl h0 []
  have sz_h : h0.size ≤ h0.size := Nat.le_refl _
  refine gnewO X hx hZ hown (own_w160 hw) (own_w1 hw) (own_w2 hw) eT 1 4 rfl rfl (by decide) (by decide) 3 (hb hby own_d28_0) rfl ?_
  clear X eT; clear T; intro T h1 b2 X eT ga E3 A4 D5
  have le_a := Nat.le_of_eq ga.symm
  have ne_sb_b2 : sb ≠ b2 := Nat.ne_of_lt (Nat.lt_of_lt_of_le P1_Exa.lt le_a)
  have ne_b2_sb : b2 ≠ sb := Ne.symm ne_sb_b2
  have ne_va_b2 : va ≠ b2 := Nat.ne_of_lt (Nat.lt_of_lt_of_le P5_Arv.lt le_a)
  have ne_b2_va : b2 ≠ va := Ne.symm ne_va_b2
  have sz_b2 : h0.size ≤ b2 := Nat.le_trans sz_h le_a
  have ge_b2 : n0 ≤ b2 := Nat.le_trans Z0 sz_b2
  clear le_a ga
  replace P0_Old := P0_Old.ext E3
  replace P1_Exa := P1_Exa.ext E3
  replace P2_Fld := P2_Fld.ext E3
  replace P3_Fld := P3_Fld.ext E3
  replace P4_Fld := P4_Fld.ext E3
  replace P5_Arv := P5_Arv.ext E3
  replace K0 := K0.ext E3
  replace sz_h : h0.size ≤ h1.size := Nat.le_trans sz_h E3.1
  have F_coder_b2 : Fld Z h1 b2 "java/lang/String" "coder" "B" (.int 0) := D5 (Or.inr (own_w27 hw)) (ty := .byte) own_pf1
  have F_value_b2 : Fld Z h1 b2 "java/lang/String" "value" "[B" .null := D5 (Or.inr (own_w29 hw)) (ty := (.array .byte)) own_pf0
  clear D5
  refine gdup X hx 4 (hb hby own_d28_3) rfl rfl ?_
  refine galoadN (v := (.ref sb)) X hx 5 (hb hby own_d28_4) rfl rfl rfl ?_
  refine gspecial (y := (⟨"java/lang/String", "<init>", "(Ljava/lang/StringBuilder;)V"⟩ : MethodName)) (a := b2) (argsL := [(.ref sb)]) (st := [(.ref b2)]) X hx hZ hown rfl (own_w161 hw) (own_w162 hw) (own_w163 hw) (by decide) (payP (W := 1) (rmIS19_34 l Z a0 hw (b2) (sb) (va) (kv) (G1) (bx0) (bx1) (bx2) (bx3) (bx4) (bx5) (bx6) (bx7) (bx8) (bx9) (bx10) (bx11) (bx12) (bx13) (bx14) (bx15) (bx16) (bx17) (bx18) h1 n0 (Nat.le_trans Z0 sz_h) ge_b2 P0_Old A4 F_value_b2 F_coder_b2 P1_Exa P2_Fld P3_Fld P4_Fld P5_Arv (O2) (P5)) hZ (own_w163 hw) (own_w2 hw) (by decide) (by decide)) eT (by rw [hml]; rfl) (lenOf own_pd16 rfl) rfl (Nat.le_of_eq rfl) 2 23 rfl rfl (by decide) (by decide) 8 (hb hby own_d28_5) rfl ?_
  clear X eT; clear T; intro v T h6 L2 Lc X eT hL hQ7
  obtain ⟨tr_8, kr_9, rfl, Nq, K10, zz_tr_8, G12, G13, G14⟩ := hQ7
  replace N : Fr n0 L2 := by rw [hL]; exact Fr.app N Nq
  clear Nq hL
  have ne_sb_tr_8 : sb ≠ tr_8 := Nat.ne_of_lt (Nat.lt_of_lt_of_le P1_Exa.lt zz_tr_8)
  have ne_tr_8_sb : tr_8 ≠ sb := Ne.symm ne_sb_tr_8
  have ne_va_tr_8 : va ≠ tr_8 := Nat.ne_of_lt (Nat.lt_of_lt_of_le P5_Arv.lt zz_tr_8)
  have ne_tr_8_va : tr_8 ≠ va := Ne.symm ne_va_tr_8
  have ne_b2_tr_8 : b2 ≠ tr_8 := Nat.ne_of_lt (Nat.lt_of_lt_of_le A4.lt zz_tr_8)
  have ne_tr_8_b2 : tr_8 ≠ b2 := Ne.symm ne_b2_tr_8
  have sz_tr_8 : h0.size ≤ tr_8 := Nat.le_trans sz_h zz_tr_8
  have ge_tr_8 : n0 ≤ tr_8 := Nat.le_trans Z0 sz_tr_8
  replace P0_Old := P0_Old.keep K10 (allS ge_b2 all0)
  replace P1_Exa := P1_Exa.keep K10
  replace P2_Fld := P2_Fld.keep K10 (ninS ne_sb_b2 nin0)
  replace P3_Fld := P3_Fld.keep K10 (ninS ne_sb_b2 nin0)
  replace P4_Fld := P4_Fld.keep K10 (ninS ne_sb_b2 nin0)
  replace P5_Arv := P5_Arv.keep K10 (ninS ne_va_b2 nin0)
  replace A4 := A4.keep K10
  replace K0 := K0.trans K10 (allS (Or.inr sz_b2) all0)
  replace sz_h : h0.size ≤ h6.size := Nat.le_trans sz_h K10.1
  show Go p e below _ T (mkF m 8 #[.val (.ref sb)] [(.ref b2)])
  exact gRetP X hx hlk hret rfl (Or.inr (Or.inr (Or.inr (Or.inr ⟨rfl, rfl, rfl⟩)))) (hb hby own_d28_8) eT (by decide) (by decide) ⟨b2, tr_8, kr_9, rfl, N, K0, sz_b2, sz_tr_8, A4, G12, G13, G14⟩
set_option maxRecDepth 65536 in
set_option maxHeartbeats 40000000 in
theorem rmMn34_32 (l : Launch) (Z : State) (a0 : Array Value) (hw : HW_ a0 Z) (h0 : Heap) (n0 : Nat) (Z0 : n0 ≤ h0.size) :
    CtP l (⟨"java/lang/Math", "min", "(II)I"⟩ : MethodName) jdk_29_method_69_code 2 (some .int) [] ({ frames := 0, cells := 0, slots := 0, locals := 0 } : Room) Z #[(.int 34), (.int 32)] h0 (fun v h L => v = some (.int 32) ∧ Fr n0 L ∧ h = h0) := by
  refine CtP.walk (Ls := #[.val (.int 34), .val (.int 32)]) own_pn7 (fun m => by first | (simp [entryFrame, mkF, argsToLocals, Value.category]; done) | rfl) ?_
  intro p e s m below meth cc_ T hx hby hml hown hnm hret hlk hZ X eT
  have N := Fr.nil n0
  have sz_h : h0.size ≤ h0.size := Nat.le_refl _
  refine giloadN (v := (34 : Int32)) X hx 1 (hb hby own_d27_0) rfl rfl ?_
  refine giloadN (v := (32 : Int32)) X hx 2 (hb hby own_d27_1) rfl rfl ?_
  refine gicmpYes X hx 9 (hb hby own_d27_2) (by decide) (by decide) (by decide) ?_
  refine giloadN (v := (32 : Int32)) X hx 10 (hb hby own_d27_9) rfl rfl ?_
  exact gRetP X hx hlk hret rfl (Or.inl ⟨rfl, by simp, _, rfl⟩) (hb hby own_d27_10) eT (by decide) (by decide) ⟨rfl, N, rfl⟩
set_option maxRecDepth 65536 in
set_option maxHeartbeats 40000000 in
theorem rmCk32 (l : Launch) (Z : State) (a0 : Array Value) (hw : HW_ a0 Z) (h0 : Heap) (n0 : Nat) (Z0 : n0 ≤ h0.size) :
    CtP l (⟨"java/util/Arrays", "checkLength", "(II)V"⟩ : MethodName) jdk_65_method_131_code 2 none [] ({ frames := 0, cells := 0, slots := 0, locals := 0 } : Room) Z #[(.int 0), (.int 32)] h0 (fun v h L => v = none ∧ Fr n0 L ∧ h = h0) := by
  refine CtP.walk (Ls := #[.val (.int 0), .val (.int 32)]) (plainFor_of_name own_pn8) (fun m => by first | (simp [entryFrame, mkF, argsToLocals, Value.category]; done) | rfl) ?_
  intro p e s m below meth cc_ T hx hby hml hown hnm hret hlk hZ X eT
  have N := Fr.nil n0
  have sz_h : h0.size ≤ h0.size := Nat.le_refl _
  refine giloadN (v := (32 : Int32)) X hx 1 (hb hby own_d37_0) rfl rfl ?_
  refine giloadN (v := (0 : Int32)) X hx 2 (hb hby own_d37_1) rfl rfl ?_
  refine gicmpYes X hx 37 (hb hby own_d37_2) (by decide) (by decide) (by decide) ?_
  exact gRetP0 X hx hlk hret (hb hby own_d37_37) eT (by decide) (by decide) ⟨rfl, N, rfl⟩
set_option maxRecDepth 65536 in
set_option maxHeartbeats 40000000 in
theorem rmCB32_34 (l : Launch) (Z : State) (a0 : Array Value) (hw : HW_ a0 Z) (va : Addr) (kv : ClassId) (bx0 : Int32) (bx1 : Int32) (bx2 : Int32) (bx3 : Int32) (bx4 : Int32) (bx5 : Int32) (bx6 : Int32) (bx7 : Int32) (bx8 : Int32) (bx9 : Int32) (bx10 : Int32) (bx11 : Int32) (bx12 : Int32) (bx13 : Int32) (bx14 : Int32) (bx15 : Int32) (bx16 : Int32) (bx17 : Int32) (bx18 : Int32) (bx19 : Int32) (bx20 : Int32) (bx21 : Int32) (bx22 : Int32) (bx23 : Int32) (bx24 : Int32) (bx25 : Int32) (bx26 : Int32) (bx27 : Int32) (bx28 : Int32) (bx29 : Int32) (bx30 : Int32) (bx31 : Int32) (h0 : Heap) (n0 : Nat) (Z0 : n0 ≤ h0.size) (P0_Arv : Arv Z h0 va kv .byte (34 : Int32) [(.int bx0), (.int bx1), (.int bx2), (.int bx3), (.int bx4), (.int bx5), (.int bx6), (.int bx7), (.int bx8), (.int bx9), (.int bx10), (.int bx11), (.int bx12), (.int bx13), (.int bx14), (.int bx15), (.int bx16), (.int bx17), (.int bx18), (.int bx19), (.int bx20), (.int bx21), (.int bx22), (.int bx23), (.int bx24), (.int bx25), (.int bx26), (.int bx27), (.int bx28), (.int bx29), (.int bx30), (.int bx31), (.int 0), (.int 0)] (.int 0)) :
    CtP l (⟨"java/util/Arrays", "copyOfRangeByte", "([BII)[B"⟩ : MethodName) jdk_65_method_133_code 5 (some (.array .byte)) [] ({ frames := 1, cells := 1, slots := 32, locals := 18 } : Room) Z #[(.ref va), (.int 0), (.int 32)] h0 (fun v h L => ∃ (tr : Addr), ∃ (kr : ClassId), v = some (.ref tr) ∧ Fr n0 L ∧ Keep h0 h [] ∧ h0.size ≤ tr ∧ Arv Z h tr kr .byte (32 : Int32) [(.int bx0), (.int bx1), (.int bx2), (.int bx3), (.int bx4), (.int bx5), (.int bx6), (.int bx7), (.int bx8), (.int bx9), (.int bx10), (.int bx11), (.int bx12), (.int bx13), (.int bx14), (.int bx15), (.int bx16), (.int bx17), (.int bx18), (.int bx19), (.int bx20), (.int bx21), (.int bx22), (.int bx23), (.int bx24), (.int bx25), (.int bx26), (.int bx27), (.int bx28), (.int bx29), (.int bx30), (.int bx31)] (.int 0)) := by
  refine CtP.walk (Ls := #[.val (.ref va), .val (.int 0), .val (.int 32), .unset, .unset]) (plainFor_of_name own_pn8) (fun m => by first | (simp [entryFrame, mkF, argsToLocals, Value.category]; done) | rfl) ?_
  intro p e s m below meth cc_ T hx hby hml hown hnm hret hlk hZ X eT
  have N := Fr.nil n0
  have K0 := Keep.refl h0 []
  have sz_h : h0.size ≤ h0.size := Nat.le_refl _
  refine giloadN (v := (0 : Int32)) X hx 1 (hb hby own_d36_0) rfl rfl ?_
  refine giloadN (v := (32 : Int32)) X hx 2 (hb hby own_d36_1) rfl rfl ?_
  refine gstatic (y := (⟨"java/util/Arrays", "checkLength", "(II)V"⟩ : MethodName)) (argsL := [(.int 0), (.int 32)]) (st := []) X hx hZ hown (own_w191 hw) (own_w192 hw) (own_w149 hw) (own_w193 hw) (by decide) (payP (W := 0) (rmCk32 l Z a0 hw h0 n0 (Nat.le_trans Z0 sz_h)) hZ (own_w193 hw) (own_w149 hw) (by decide) (by decide)) eT (by rw [hml]; rfl) (lenOf own_pd11 rfl) rfl (Nat.le_of_eq rfl) 0 0 rfl rfl (by decide) (by decide) 5 (hb hby own_d36_2) rfl ?_
  clear X eT; clear T; intro v T h1 L2 Lc X eT hL hQ2
  obtain ⟨rfl, Nq, hh⟩ := hQ2
  replace N : Fr n0 L2 := by rw [hL]; exact Fr.app N Nq
  clear Nq hL
  replace hh := hh.symm; subst hh
  show Go p e below _ T (mkF m 5 #[.val (.ref va), .val (.int 0), .val (.int 32), .unset, .unset] [])
  refine giloadN (v := (32 : Int32)) X hx 6 (hb hby own_d36_5) rfl rfl ?_
  refine giloadN (v := (0 : Int32)) X hx 7 (hb hby own_d36_6) rfl rfl ?_
  refine gisub X hx 8 (hb hby own_d36_7) rfl ?_
  rw [show ((32 : Int32) - (0 : Int32)) = (32 : Int32) from by decide]
  refine gistoreN X hx #[.val (.ref va), .val (.int 0), .val (.int 32), .val (.int 32), .unset] 9 (hb hby own_d36_8) rfl rfl ?_
  refine giloadN (v := (32 : Int32)) X hx 10 (hb hby own_d36_9) rfl rfl ?_
  refine gnewP (aty := .byte) X hx hZ (own_w19 hw) eT (n := (32 : Int32)) (by decide) 32 (by decide) (by decide) 1 32 rfl rfl (by decide) (by decide) 12 (hb hby own_d36_10) rfl ?_
  clear X eT; clear T; intro T h5 b6 kc9 X eT ga E7 V8
  have le_a := Nat.le_of_eq ga.symm
  have ne_va_b6 : va ≠ b6 := Nat.ne_of_lt (Nat.lt_of_lt_of_le P0_Arv.lt le_a)
  have ne_b6_va : b6 ≠ va := Ne.symm ne_va_b6
  have sz_b6 : h0.size ≤ b6 := Nat.le_trans sz_h le_a
  have ge_b6 : n0 ≤ b6 := Nat.le_trans Z0 sz_b6
  clear le_a ga
  replace P0_Arv := P0_Arv.ext E7
  replace K0 := K0.ext E7
  replace sz_h : h0.size ≤ h5.size := Nat.le_trans sz_h E7.1
  replace V8 : Arv Z h5 b6 kc9 .byte (32 : Int32) [(.int 0), (.int 0), (.int 0), (.int 0), (.int 0), (.int 0), (.int 0), (.int 0), (.int 0), (.int 0), (.int 0), (.int 0), (.int 0), (.int 0), (.int 0), (.int 0), (.int 0), (.int 0), (.int 0), (.int 0), (.int 0), (.int 0), (.int 0), (.int 0), (.int 0), (.int 0), (.int 0), (.int 0), (.int 0), (.int 0), (.int 0), (.int 0)] (.int 0) := V8.pad (pad_rep [] _ 32)
  refine gastore X hx #[.val (.ref va), .val (.int 0), .val (.int 32), .val (.int 32), .val (.ref b6)] 14 (hb hby own_d36_12) rfl rfl rfl ?_
  refine galoadN (v := (.ref va)) X hx 15 (hb hby own_d36_14) rfl rfl rfl ?_
  refine giloadN (v := (0 : Int32)) X hx 16 (hb hby own_d36_15) rfl rfl ?_
  refine gaload (v := (.ref b6)) X hx 18 (hb hby own_d36_16) rfl rfl rfl ?_
  refine giconst X hx (0 : Int32) 19 (hb hby own_d36_18) rfl rfl ?_
  refine galoadN (v := (.ref va)) X hx 20 (hb hby own_d36_19) rfl rfl rfl ?_
  refine garrlen X hx hZ eT P0_Arv 21 (hb hby own_d36_20) rfl ?_
  refine giloadN (v := (0 : Int32)) X hx 22 (hb hby own_d36_21) rfl rfl ?_
  refine gisub X hx 23 (hb hby own_d36_22) rfl ?_
  rw [show ((34 : Int32) - (0 : Int32)) = (34 : Int32) from by decide]
  refine giloadN (v := (32 : Int32)) X hx 24 (hb hby own_d36_23) rfl rfl ?_
  refine gstatic (y := (⟨"java/lang/Math", "min", "(II)I"⟩ : MethodName)) (argsL := [(.int 34), (.int 32)]) (st := [(.int 0), (.ref b6), (.int 0), (.ref va)]) X hx hZ hown (own_w151 hw) (own_w152 hw) (own_w143 hw) (own_w153 hw) (by decide) (payP (W := 4) (rmMn34_32 l Z a0 hw h5 n0 (Nat.le_trans Z0 sz_h)) hZ (own_w153 hw) (own_w143 hw) (by decide) (by decide)) eT (by rw [hml]; rfl) (lenOf own_pd7 rfl) rfl (Nat.le_of_eq rfl) 1 32 rfl rfl (by decide) (by decide) 27 (hb hby own_d36_24) rfl ?_
  clear X eT; clear T; intro v T h10 L2 Lc X eT hL hQ11
  obtain ⟨rfl, Nq, hh⟩ := hQ11
  replace N : Fr n0 L2 := by rw [hL]; exact Fr.app N Nq
  clear Nq hL
  replace hh := hh.symm; subst hh
  show Go p e below _ T (mkF m 27 #[.val (.ref va), .val (.int 0), .val (.int 32), .val (.int 32), .val (.ref b6)] [(.int 32), (.int 0), (.ref b6), (.int 0), (.ref va)])
  refine gcpA (st := []) X hx hZ hown (own_w154 hw) (own_w130 hw) (own_w128 hw) (own_w129 hw) eT (by rw [hml]; rfl) P0_Arv V8 rfl 0 0 32 rfl rfl rfl (by decide) (by decide) (by decide) (by decide) (by decide) (Nat.le_of_ble_eq_true rfl) ([(.int bx0), (.int bx1), (.int bx2), (.int bx3), (.int bx4), (.int bx5), (.int bx6), (.int bx7), (.int bx8), (.int bx9), (.int bx10), (.int bx11), (.int bx12), (.int bx13), (.int bx14), (.int bx15), (.int bx16), (.int bx17), (.int bx18), (.int bx19), (.int bx20), (.int bx21), (.int bx22), (.int bx23), (.int bx24), (.int bx25), (.int bx26), (.int bx27), (.int bx28), (.int bx29), (.int bx30), (.int bx31)] : List Value) rfl N ge_b6 (by decide) 0 (Nat.le_of_eq rfl) (by decide) 30 (hb hby own_d36_27) rfl ?_
  clear X eT N; clear T; intro T h14 L X eT N K15 V16
  replace P0_Arv := P0_Arv.keep K15 (ninS ne_va_b6 nin0)
  replace K0 := K0.trans K15 (allS (Or.inr sz_b6) all0)
  replace sz_h : h0.size ≤ h14.size := Nat.le_trans sz_h K15.1
  show Go p e below _ T (mkF m 30 #[.val (.ref va), .val (.int 0), .val (.int 32), .val (.int 32), .val (.ref b6)] [])
  refine gaload (v := (.ref b6)) X hx 32 (hb hby own_d36_30) rfl rfl rfl ?_
  exact gRetP X hx hlk hret rfl (Or.inr (Or.inr (Or.inr (Or.inr ⟨rfl, rfl, rfl⟩)))) (hb hby own_d36_32) eT (by decide) (by decide) ⟨b6, kc9, rfl, N, K0, sz_b6, V16⟩
set_option maxRecDepth 65536 in
set_option maxHeartbeats 40000000 in
theorem rmCR32_34 (l : Launch) (Z : State) (a0 : Array Value) (hw : HW_ a0 Z) (va : Addr) (kv : ClassId) (bx0 : Int32) (bx1 : Int32) (bx2 : Int32) (bx3 : Int32) (bx4 : Int32) (bx5 : Int32) (bx6 : Int32) (bx7 : Int32) (bx8 : Int32) (bx9 : Int32) (bx10 : Int32) (bx11 : Int32) (bx12 : Int32) (bx13 : Int32) (bx14 : Int32) (bx15 : Int32) (bx16 : Int32) (bx17 : Int32) (bx18 : Int32) (bx19 : Int32) (bx20 : Int32) (bx21 : Int32) (bx22 : Int32) (bx23 : Int32) (bx24 : Int32) (bx25 : Int32) (bx26 : Int32) (bx27 : Int32) (bx28 : Int32) (bx29 : Int32) (bx30 : Int32) (bx31 : Int32) (h0 : Heap) (n0 : Nat) (Z0 : n0 ≤ h0.size) (P0_Arv : Arv Z h0 va kv .byte (34 : Int32) [(.int bx0), (.int bx1), (.int bx2), (.int bx3), (.int bx4), (.int bx5), (.int bx6), (.int bx7), (.int bx8), (.int bx9), (.int bx10), (.int bx11), (.int bx12), (.int bx13), (.int bx14), (.int bx15), (.int bx16), (.int bx17), (.int bx18), (.int bx19), (.int bx20), (.int bx21), (.int bx22), (.int bx23), (.int bx24), (.int bx25), (.int bx26), (.int bx27), (.int bx28), (.int bx29), (.int bx30), (.int bx31), (.int 0), (.int 0)] (.int 0)) :
    CtP l (⟨"java/util/Arrays", "copyOfRange", "([BII)[B"⟩ : MethodName) jdk_65_method_132_code 3 (some (.array .byte)) [] ({ frames := 2, cells := 1, slots := 32, locals := 34 } : Room) Z #[(.ref va), (.int 0), (.int 32)] h0 (fun v h L => ∃ (tr : Addr), ∃ (kr : ClassId), v = some (.ref tr) ∧ Fr n0 L ∧ Keep h0 h [] ∧ h0.size ≤ tr ∧ Arv Z h tr kr .byte (32 : Int32) [(.int bx0), (.int bx1), (.int bx2), (.int bx3), (.int bx4), (.int bx5), (.int bx6), (.int bx7), (.int bx8), (.int bx9), (.int bx10), (.int bx11), (.int bx12), (.int bx13), (.int bx14), (.int bx15), (.int bx16), (.int bx17), (.int bx18), (.int bx19), (.int bx20), (.int bx21), (.int bx22), (.int bx23), (.int bx24), (.int bx25), (.int bx26), (.int bx27), (.int bx28), (.int bx29), (.int bx30), (.int bx31)] (.int 0)) := by
  refine CtP.walk (Ls := #[.val (.ref va), .val (.int 0), .val (.int 32)]) (plainFor_of_name own_pn8) (fun m => by first | (simp [entryFrame, mkF, argsToLocals, Value.category]; done) | rfl) ?_
  intro p e s m below meth cc_ T hx hby hml hown hnm hret hlk hZ X eT
  have N := Fr.nil n0
  have K0 := Keep.refl h0 []
  have sz_h : h0.size ≤ h0.size := Nat.le_refl _
  refine giloadN (v := (0 : Int32)) X hx 1 (hb hby own_d35_0) rfl rfl ?_
  refine gifNo X hx 4 (hb hby own_d35_1) rfl (by decide) ?_
  refine giloadN (v := (32 : Int32)) X hx 5 (hb hby own_d35_4) rfl rfl ?_
  refine galoadN (v := (.ref va)) X hx 6 (hb hby own_d35_5) rfl rfl rfl ?_
  refine garrlen X hx hZ eT P0_Arv 7 (hb hby own_d35_6) rfl ?_
  refine gicmpNo X hx 10 (hb hby own_d35_7) rfl (by decide) ?_
  refine galoadN (v := (.ref va)) X hx 11 (hb hby own_d35_10) rfl rfl rfl ?_
  refine giloadN (v := (0 : Int32)) X hx 12 (hb hby own_d35_11) rfl rfl ?_
  refine giloadN (v := (32 : Int32)) X hx 13 (hb hby own_d35_12) rfl rfl ?_
  refine gstatic (y := (⟨"java/util/Arrays", "copyOfRangeByte", "([BII)[B"⟩ : MethodName)) (argsL := [(.ref va), (.int 0), (.int 32)]) (st := []) X hx hZ hown (own_w188 hw) (own_w189 hw) (own_w149 hw) (own_w190 hw) (by decide) (payP (W := 0) (rmCB32_34 l Z a0 hw (va) (kv) (bx0) (bx1) (bx2) (bx3) (bx4) (bx5) (bx6) (bx7) (bx8) (bx9) (bx10) (bx11) (bx12) (bx13) (bx14) (bx15) (bx16) (bx17) (bx18) (bx19) (bx20) (bx21) (bx22) (bx23) (bx24) (bx25) (bx26) (bx27) (bx28) (bx29) (bx30) (bx31) h0 n0 (Nat.le_trans Z0 sz_h) P0_Arv) hZ (own_w190 hw) (own_w149 hw) (by decide) (by decide)) eT (by rw [hml]; rfl) (lenOf own_pd12 rfl) rfl (Nat.le_of_eq rfl) 1 32 rfl rfl (by decide) (by decide) 16 (hb hby own_d35_13) rfl ?_
  clear X eT; clear T; intro v T h1 L2 Lc X eT hL hQ2
  obtain ⟨tr_3, kr_4, rfl, Nq, K5, zz_tr_3, G7⟩ := hQ2
  replace N : Fr n0 L2 := by rw [hL]; exact Fr.app N Nq
  clear Nq hL
  have ne_va_tr_3 : va ≠ tr_3 := Nat.ne_of_lt (Nat.lt_of_lt_of_le P0_Arv.lt zz_tr_3)
  have ne_tr_3_va : tr_3 ≠ va := Ne.symm ne_va_tr_3
  have sz_tr_3 : h0.size ≤ tr_3 := Nat.le_trans sz_h zz_tr_3
  have ge_tr_3 : n0 ≤ tr_3 := Nat.le_trans Z0 sz_tr_3
  replace P0_Arv := P0_Arv.keep K5 nin0
  replace K0 := K0.trans K5 all0
  replace sz_h : h0.size ≤ h1.size := Nat.le_trans sz_h K5.1
  show Go p e below _ T (mkF m 16 #[.val (.ref va), .val (.int 0), .val (.int 32)] [(.ref tr_3)])
  exact gRetP X hx hlk hret rfl (Or.inr (Or.inr (Or.inr (Or.inr ⟨rfl, rfl, rfl⟩)))) (hb hby own_d35_16) eT (by decide) (by decide) ⟨tr_3, kr_4, rfl, N, K0, sz_tr_3, G7⟩
set_option maxRecDepth 65536 in
set_option maxHeartbeats 40000000 in
theorem rmIA32_34 (l : Launch) (Z : State) (a0 : Array Value) (hw : HW_ a0 Z) (x : Addr) (sb : Addr) (va : Addr) (kv : ClassId) (G1 : Int32) (bx0 : Int32) (bx1 : Int32) (bx2 : Int32) (bx3 : Int32) (bx4 : Int32) (bx5 : Int32) (bx6 : Int32) (bx7 : Int32) (bx8 : Int32) (bx9 : Int32) (bx10 : Int32) (bx11 : Int32) (bx12 : Int32) (bx13 : Int32) (bx14 : Int32) (bx15 : Int32) (bx16 : Int32) (bx17 : Int32) (bx18 : Int32) (bx19 : Int32) (bx20 : Int32) (bx21 : Int32) (bx22 : Int32) (bx23 : Int32) (bx24 : Int32) (bx25 : Int32) (bx26 : Int32) (bx27 : Int32) (bx28 : Int32) (bx29 : Int32) (bx30 : Int32) (bx31 : Int32) (h0 : Heap) (n0 : Nat) (Z0 : n0 ≤ h0.size) (ge_x : n0 ≤ x) (P0_Old : Old Z n0 h0) (P1_Exa : Exa Z h0 x "java/lang/String") (P2_Fld : Fld Z h0 x "java/lang/String" "value" "[B" .null) (P3_Fld : Fld Z h0 x "java/lang/String" "coder" "B" (.int 0)) (P4_Exa : Exa Z h0 sb "java/lang/StringBuilder") (P5_Fld : Fld Z h0 sb "java/lang/AbstractStringBuilder" "value" "[B" (.ref va)) (P6_Fld : Fld Z h0 sb "java/lang/AbstractStringBuilder" "coder" "B" (.int 0)) (P7_Fld : Fld Z h0 sb "java/lang/AbstractStringBuilder" "count" "I" (.int 32)) (P8_Arv : Arv Z h0 va kv .byte (34 : Int32) [(.int bx0), (.int bx1), (.int bx2), (.int bx3), (.int bx4), (.int bx5), (.int bx6), (.int bx7), (.int bx8), (.int bx9), (.int bx10), (.int bx11), (.int bx12), (.int bx13), (.int bx14), (.int bx15), (.int bx16), (.int bx17), (.int bx18), (.int bx19), (.int bx20), (.int bx21), (.int bx22), (.int bx23), (.int bx24), (.int bx25), (.int bx26), (.int bx27), (.int bx28), (.int bx29), (.int bx30), (.int bx31), (.int 0), (.int 0)] (.int 0)) (O2 : Sta Z Z.heap "java/lang/String" "COMPACT_STRINGS" "Z" (.int G1)) (P5 : ¬ G1 = (0 : Int32)) :
    CtP l (⟨"java/lang/String", "<init>", "(Ljava/lang/AbstractStringBuilder;Ljava/lang/Void;)V"⟩ : MethodName) jdk_42_method_150_code 5 none [] ({ frames := 3, cells := 1, slots := 32, locals := 49 } : Room) Z #[(.ref x), (.ref sb), .null] h0 (fun v h L => ∃ (tr : Addr), ∃ (kr : ClassId), v = none ∧ Fr n0 L ∧ Keep h0 h [x] ∧ h0.size ≤ tr ∧ Fld Z h x "java/lang/String" "coder" "B" (.int 0) ∧ Fld Z h x "java/lang/String" "value" "[B" (.ref tr) ∧ Arv Z h tr kr .byte (32 : Int32) [(.int bx0), (.int bx1), (.int bx2), (.int bx3), (.int bx4), (.int bx5), (.int bx6), (.int bx7), (.int bx8), (.int bx9), (.int bx10), (.int bx11), (.int bx12), (.int bx13), (.int bx14), (.int bx15), (.int bx16), (.int bx17), (.int bx18), (.int bx19), (.int bx20), (.int bx21), (.int bx22), (.int bx23), (.int bx24), (.int bx25), (.int bx26), (.int bx27), (.int bx28), (.int bx29), (.int bx30), (.int bx31)] (.int 0)) := by
  refine CtP.walk (Ls := #[.val (.ref x), .val (.ref sb), .val .null, .unset, .unset]) own_pn9 (fun m => by first | (simp [entryFrame, mkF, argsToLocals, Value.category]; done) | rfl) ?_
  intro p e s m below meth cc_ T hx hby hml hown hnm hret hlk hZ X eT
  have N := Fr.nil n0
  have K0 := Keep.refl h0 [x]
  have sz_h : h0.size ≤ h0.size := Nat.le_refl _
  refine galoadN (v := (.ref x)) X hx 1 (hb hby own_d30_0) rfl rfl rfl ?_
  refine ginitO X hx hZ hown (own_w11 hw) (own_w12 hw) (own_w13 hw) eT (by rw [hml]; rfl) (by decide) 0 (Nat.le_of_eq rfl) (by decide) 4 (hb hby own_d30_1) rfl ?_
  clear X eT; clear T; intro T X eT
  refine galoadN (v := (.ref sb)) X hx 5 (hb hby own_d30_4) rfl rfl rfl ?_
  refine gvirtual (y := (⟨"java/lang/AbstractStringBuilder", "getValue", "()[B"⟩ : MethodName)) (z := (⟨"java/lang/AbstractStringBuilder", "getValue", "()[B"⟩ : MethodName)) (a := sb) (argsL := []) (st := []) X hx hZ hown (own_w167 hw) (own_w168 hw) (notFace_of_selects (args := #[]) (mvT hZ (own_w170 hw))) (own_w170 hw) (own_w169 hw) (by decide) P4_Exa (payP (W := 0) (rm31 l Z a0 hw (sb) (va) h0 n0 (Nat.le_trans Z0 sz_h) P5_Fld) hZ (own_w171 hw) (own_w75 hw) (by decide) (by decide)) eT (by rw [hml]; rfl) (lenOf own_pd13 rfl) rfl (Nat.le_of_eq rfl) 0 0 rfl rfl (by decide) (by decide) 8 (hb hby own_d30_5) rfl ?_
  clear X eT; clear T; intro v T h1 L2 Lc X eT hL hQ2
  obtain ⟨rfl, Nq, hh⟩ := hQ2
  replace N : Fr n0 L2 := by rw [hL]; exact Fr.app N Nq
  clear Nq hL
  replace hh := hh.symm; subst hh
  show Go p e below _ T (mkF m 8 #[.val (.ref x), .val (.ref sb), .val .null, .unset, .unset] [(.ref va)])
  refine gastoreN X hx #[.val (.ref x), .val (.ref sb), .val .null, .val (.ref va), .unset] 9 (hb hby own_d30_8) rfl rfl rfl ?_
  refine galoadN (v := (.ref sb)) X hx 10 (hb hby own_d30_9) rfl rfl rfl ?_
  refine gvirtual (y := (⟨"java/lang/AbstractStringBuilder", "length", "()I"⟩ : MethodName)) (z := (⟨"java/lang/StringBuilder", "length", "()I"⟩ : MethodName)) (a := sb) (argsL := []) (st := []) X hx hZ hown (own_w172 hw) (own_w173 hw) (nf_sel (args := #[]) (mvT hZ (own_w109 hw)) rfl) (own_w175 hw) (own_w176 hw) (by decide) P4_Exa (payP (W := 0) (rm32 l Z a0 hw (sb) ((32 : Int32)) h0 n0 (Nat.le_trans Z0 sz_h) P4_Exa P7_Fld) hZ (own_w177 hw) (own_w67 hw) (by decide) (by decide)) eT (by rw [hml]; rfl) (lenOf own_pd4 rfl) rfl (Nat.le_of_eq rfl) 0 0 rfl rfl (by decide) (by decide) 13 (hb hby own_d30_10) rfl ?_
  clear X eT; clear T; intro v T h5 L2 Lc X eT hL hQ6
  obtain ⟨rfl, Nq, hh⟩ := hQ6
  replace N : Fr n0 L2 := by rw [hL]; exact Fr.app N Nq
  clear Nq hL
  replace hh := hh.symm; subst hh
  show Go p e below _ T (mkF m 13 #[.val (.ref x), .val (.ref sb), .val .null, .val (.ref va), .unset] [(.int 32)])
  refine gistore X hx #[.val (.ref x), .val (.ref sb), .val .null, .val (.ref va), .val (.int 32)] 15 (hb hby own_d30_13) rfl rfl ?_
  refine galoadN (v := (.ref sb)) X hx 16 (hb hby own_d30_15) rfl rfl rfl ?_
  refine gvirtual (y := (⟨"java/lang/AbstractStringBuilder", "isLatin1", "()Z"⟩ : MethodName)) (z := (⟨"java/lang/AbstractStringBuilder", "isLatin1", "()Z"⟩ : MethodName)) (a := sb) (argsL := []) (st := []) X hx hZ hown (own_w180 hw) (own_w181 hw) (notFace_of_selects (args := #[]) (mvT hZ (own_w183 hw))) (own_w183 hw) (own_w182 hw) (by decide) P4_Exa (payP (W := 0) (rm34 l Z a0 hw (sb) (G1) h0 n0 (Nat.le_trans Z0 sz_h) P0_Old P6_Fld (O2) (P5)) hZ (own_w184 hw) (own_w75 hw) (by decide) (by decide)) eT (by rw [hml]; rfl) (lenOf own_pd14 rfl) rfl (Nat.le_of_eq rfl) 0 0 rfl rfl (by decide) (by decide) 19 (hb hby own_d30_16) rfl ?_
  clear X eT; clear T; intro v T h9 L2 Lc X eT hL hQ10
  obtain ⟨rfl, Nq, hh⟩ := hQ10
  replace N : Fr n0 L2 := by rw [hL]; exact Fr.app N Nq
  clear Nq hL
  replace hh := hh.symm; subst hh
  show Go p e below _ T (mkF m 19 #[.val (.ref x), .val (.ref sb), .val .null, .val (.ref va), .val (.int 32)] [(.int 1)])
  refine gifNo X hx 22 (hb hby own_d30_19) rfl (by decide) ?_
  refine galoadN (v := (.ref x)) X hx 23 (hb hby own_d30_22) rfl rfl rfl ?_
  refine giconst X hx (0 : Int32) 24 (hb hby own_d30_23) rfl rfl ?_
  refine gputF X hx hZ (host := "") hown (Or.inl (own_w26 hw)) Via.refl eT P3_Fld P1_Exa (Or.inr ⟨(own_w27 hw), rfl, hnm⟩) (own_w1 hw) (ty := .byte) own_pf1 rfl rfl N ge_x 27 (hb hby own_d30_24) rfl ?_
  clear X eT N; clear T; intro T h13 L X eT N W14
  have ne_sb_x : sb ≠ x := ne_exa P4_Exa P1_Exa (by decide)
  have ne_va_x : va ≠ x := Ne.symm (Exa.neArv P1_Exa P8_Arv (own_w1 hw))
  replace P0_Old := P0_Old.wr W14 ge_x
  replace P1_Exa := P1_Exa.wr W14
  replace P2_Fld := P2_Fld.other W14 (Or.inr (slot_ne (Or.inr (own_w29 hw)) (Or.inr (own_w27 hw)) (by decide) own_pf0 own_pf1))
  replace P3_Fld := P3_Fld.same W14
  replace P4_Exa := P4_Exa.wr W14
  replace P5_Fld := P5_Fld.other W14 (Or.inl ne_sb_x)
  replace P6_Fld := P6_Fld.other W14 (Or.inl ne_sb_x)
  replace P7_Fld := P7_Fld.other W14 (Or.inl ne_sb_x)
  replace P8_Arv := P8_Arv.other W14 ne_va_x
  replace K0 := K0.wr W14 (Or.inl (List.mem_of_getElem? (i := 0) rfl))
  replace sz_h : h0.size ≤ h13.size := by rw [Wr.size W14]; exact sz_h
  refine galoadN (v := (.ref x)) X hx 28 (hb hby own_d30_27) rfl rfl rfl ?_
  refine galoadN (v := (.ref va)) X hx 29 (hb hby own_d30_28) rfl rfl rfl ?_
  refine giconst X hx (0 : Int32) 30 (hb hby own_d30_29) rfl rfl ?_
  refine giload (v := (32 : Int32)) X hx 32 (hb hby own_d30_30) rfl rfl ?_
  refine gstatic (y := (⟨"java/util/Arrays", "copyOfRange", "([BII)[B"⟩ : MethodName)) (argsL := [(.ref va), (.int 0), (.int 32)]) (st := [(.ref x)]) X hx hZ hown (own_w185 hw) (own_w186 hw) (own_w149 hw) (own_w187 hw) (by decide) (payP (W := 1) (rmCR32_34 l Z a0 hw (va) (kv) (bx0) (bx1) (bx2) (bx3) (bx4) (bx5) (bx6) (bx7) (bx8) (bx9) (bx10) (bx11) (bx12) (bx13) (bx14) (bx15) (bx16) (bx17) (bx18) (bx19) (bx20) (bx21) (bx22) (bx23) (bx24) (bx25) (bx26) (bx27) (bx28) (bx29) (bx30) (bx31) h13 n0 (Nat.le_trans Z0 sz_h) P8_Arv) hZ (own_w187 hw) (own_w149 hw) (by decide) (by decide)) eT (by rw [hml]; rfl) (lenOf own_pd12 rfl) rfl (Nat.le_of_eq rfl) 1 32 rfl rfl (by decide) (by decide) 35 (hb hby own_d30_32) rfl ?_
  clear X eT; clear T; intro v T h15 L2 Lc X eT hL hQ16
  obtain ⟨tr_17, kr_18, rfl, Nq, K19, zz_tr_17, G21⟩ := hQ16
  replace N : Fr n0 L2 := by rw [hL]; exact Fr.app N Nq
  clear Nq hL
  have ne_x_tr_17 : x ≠ tr_17 := Nat.ne_of_lt (Nat.lt_of_lt_of_le P1_Exa.lt zz_tr_17)
  have ne_tr_17_x : tr_17 ≠ x := Ne.symm ne_x_tr_17
  have ne_sb_tr_17 : sb ≠ tr_17 := Nat.ne_of_lt (Nat.lt_of_lt_of_le P4_Exa.lt zz_tr_17)
  have ne_tr_17_sb : tr_17 ≠ sb := Ne.symm ne_sb_tr_17
  have ne_va_tr_17 : va ≠ tr_17 := Nat.ne_of_lt (Nat.lt_of_lt_of_le P8_Arv.lt zz_tr_17)
  have ne_tr_17_va : tr_17 ≠ va := Ne.symm ne_va_tr_17
  have sz_tr_17 : h0.size ≤ tr_17 := Nat.le_trans sz_h zz_tr_17
  have ge_tr_17 : n0 ≤ tr_17 := Nat.le_trans Z0 sz_tr_17
  replace P0_Old := P0_Old.keep K19 all0
  replace P1_Exa := P1_Exa.keep K19
  replace P2_Fld := P2_Fld.keep K19 nin0
  replace P3_Fld := P3_Fld.keep K19 nin0
  replace P4_Exa := P4_Exa.keep K19
  replace P5_Fld := P5_Fld.keep K19 nin0
  replace P6_Fld := P6_Fld.keep K19 nin0
  replace P7_Fld := P7_Fld.keep K19 nin0
  replace P8_Arv := P8_Arv.keep K19 nin0
  replace K0 := K0.trans K19 all0
  replace sz_h : h0.size ≤ h15.size := Nat.le_trans sz_h K19.1
  show Go p e below _ T (mkF m 35 #[.val (.ref x), .val (.ref sb), .val .null, .val (.ref va), .val (.int 32)] [(.ref tr_17), (.ref x)])
  refine gputF X hx hZ (host := "") hown (Or.inl (own_w28 hw)) Via.refl eT P2_Fld P1_Exa (Or.inr ⟨(own_w29 hw), rfl, hnm⟩) (own_w1 hw) (ty := (.array .byte)) own_pf0 rfl rfl N ge_x 38 (hb hby own_d30_35) rfl ?_
  clear X eT N; clear T; intro T h22 L X eT N W23
  replace P0_Old := P0_Old.wr W23 ge_x
  replace P1_Exa := P1_Exa.wr W23
  replace P2_Fld := P2_Fld.same W23
  replace P3_Fld := P3_Fld.other W23 (Or.inr (slot_ne (Or.inr (own_w27 hw)) (Or.inr (own_w29 hw)) (by decide) own_pf1 own_pf0))
  replace P4_Exa := P4_Exa.wr W23
  replace P5_Fld := P5_Fld.other W23 (Or.inl ne_sb_x)
  replace P6_Fld := P6_Fld.other W23 (Or.inl ne_sb_x)
  replace P7_Fld := P7_Fld.other W23 (Or.inl ne_sb_x)
  replace P8_Arv := P8_Arv.other W23 ne_va_x
  replace G21 := G21.other W23 ne_tr_17_x
  replace K0 := K0.wr W23 (Or.inl (List.mem_of_getElem? (i := 0) rfl))
  replace sz_h : h0.size ≤ h22.size := by rw [Wr.size W23]; exact sz_h
  refine ggoto X hx 97 (hb hby own_d30_38) (by decide) (by decide) ?_
  exact gRetP0 X hx hlk hret (hb hby own_d30_97) eT (by decide) (by decide) ⟨tr_17, kr_18, rfl, N, K0, sz_tr_17, P3_Fld, P2_Fld, G21⟩
set_option maxRecDepth 65536 in
set_option maxHeartbeats 40000000 in
theorem rmIS32_34 (l : Launch) (Z : State) (a0 : Array Value) (hw : HW_ a0 Z) (x : Addr) (sb : Addr) (va : Addr) (kv : ClassId) (G1 : Int32) (bx0 : Int32) (bx1 : Int32) (bx2 : Int32) (bx3 : Int32) (bx4 : Int32) (bx5 : Int32) (bx6 : Int32) (bx7 : Int32) (bx8 : Int32) (bx9 : Int32) (bx10 : Int32) (bx11 : Int32) (bx12 : Int32) (bx13 : Int32) (bx14 : Int32) (bx15 : Int32) (bx16 : Int32) (bx17 : Int32) (bx18 : Int32) (bx19 : Int32) (bx20 : Int32) (bx21 : Int32) (bx22 : Int32) (bx23 : Int32) (bx24 : Int32) (bx25 : Int32) (bx26 : Int32) (bx27 : Int32) (bx28 : Int32) (bx29 : Int32) (bx30 : Int32) (bx31 : Int32) (h0 : Heap) (n0 : Nat) (Z0 : n0 ≤ h0.size) (ge_x : n0 ≤ x) (P0_Old : Old Z n0 h0) (P1_Exa : Exa Z h0 x "java/lang/String") (P2_Fld : Fld Z h0 x "java/lang/String" "value" "[B" .null) (P3_Fld : Fld Z h0 x "java/lang/String" "coder" "B" (.int 0)) (P4_Exa : Exa Z h0 sb "java/lang/StringBuilder") (P5_Fld : Fld Z h0 sb "java/lang/AbstractStringBuilder" "value" "[B" (.ref va)) (P6_Fld : Fld Z h0 sb "java/lang/AbstractStringBuilder" "coder" "B" (.int 0)) (P7_Fld : Fld Z h0 sb "java/lang/AbstractStringBuilder" "count" "I" (.int 32)) (P8_Arv : Arv Z h0 va kv .byte (34 : Int32) [(.int bx0), (.int bx1), (.int bx2), (.int bx3), (.int bx4), (.int bx5), (.int bx6), (.int bx7), (.int bx8), (.int bx9), (.int bx10), (.int bx11), (.int bx12), (.int bx13), (.int bx14), (.int bx15), (.int bx16), (.int bx17), (.int bx18), (.int bx19), (.int bx20), (.int bx21), (.int bx22), (.int bx23), (.int bx24), (.int bx25), (.int bx26), (.int bx27), (.int bx28), (.int bx29), (.int bx30), (.int bx31), (.int 0), (.int 0)] (.int 0)) (O2 : Sta Z Z.heap "java/lang/String" "COMPACT_STRINGS" "Z" (.int G1)) (P5 : ¬ G1 = (0 : Int32)) :
    CtP l (⟨"java/lang/String", "<init>", "(Ljava/lang/StringBuilder;)V"⟩ : MethodName) jdk_42_method_53_code 2 none [] ({ frames := 4, cells := 1, slots := 32, locals := 65 } : Room) Z #[(.ref x), (.ref sb)] h0 (fun v h L => ∃ (tr : Addr), ∃ (kr : ClassId), v = none ∧ Fr n0 L ∧ Keep h0 h [x] ∧ h0.size ≤ tr ∧ Fld Z h x "java/lang/String" "coder" "B" (.int 0) ∧ Fld Z h x "java/lang/String" "value" "[B" (.ref tr) ∧ Arv Z h tr kr .byte (32 : Int32) [(.int bx0), (.int bx1), (.int bx2), (.int bx3), (.int bx4), (.int bx5), (.int bx6), (.int bx7), (.int bx8), (.int bx9), (.int bx10), (.int bx11), (.int bx12), (.int bx13), (.int bx14), (.int bx15), (.int bx16), (.int bx17), (.int bx18), (.int bx19), (.int bx20), (.int bx21), (.int bx22), (.int bx23), (.int bx24), (.int bx25), (.int bx26), (.int bx27), (.int bx28), (.int bx29), (.int bx30), (.int bx31)] (.int 0)) := by
  refine CtP.walk (Ls := #[.val (.ref x), .val (.ref sb)]) own_pn10 (fun m => by first | (simp [entryFrame, mkF, argsToLocals, Value.category]; done) | rfl) ?_
  intro p e s m below meth cc_ T hx hby hml hown hnm hret hlk hZ X eT
  have N := Fr.nil n0
  have K0 := Keep.refl h0 [x]
  have sz_h : h0.size ≤ h0.size := Nat.le_refl _
  refine galoadN (v := (.ref x)) X hx 1 (hb hby own_d29_0) rfl rfl rfl ?_
  refine galoadN (v := (.ref sb)) X hx 2 (hb hby own_d29_1) rfl rfl rfl ?_
  refine gaconstNull X hx 3 (hb hby own_d29_2) rfl ?_
  refine gspecial (y := (⟨"java/lang/String", "<init>", "(Ljava/lang/AbstractStringBuilder;Ljava/lang/Void;)V"⟩ : MethodName)) (a := x) (argsL := [(.ref sb), .null]) (st := []) X hx hZ hown rfl (own_w164 hw) (own_w165 hw) (own_w166 hw) (by decide) (payP (W := 0) (rmIA32_34 l Z a0 hw (x) (sb) (va) (kv) (G1) (bx0) (bx1) (bx2) (bx3) (bx4) (bx5) (bx6) (bx7) (bx8) (bx9) (bx10) (bx11) (bx12) (bx13) (bx14) (bx15) (bx16) (bx17) (bx18) (bx19) (bx20) (bx21) (bx22) (bx23) (bx24) (bx25) (bx26) (bx27) (bx28) (bx29) (bx30) (bx31) h0 n0 (Nat.le_trans Z0 sz_h) ge_x P0_Old P1_Exa P2_Fld P3_Fld P4_Exa P5_Fld P6_Fld P7_Fld P8_Arv (O2) (P5)) hZ (own_w166 hw) (own_w2 hw) (by decide) (by decide)) eT (by rw [hml]; rfl) (lenOf own_pd15 rfl) rfl (Nat.le_of_eq rfl) 1 32 rfl rfl (by decide) (by decide) 6 (hb hby own_d29_3) rfl ?_
  clear X eT; clear T; intro v T h1 L2 Lc X eT hL hQ2
  obtain ⟨tr_3, kr_4, rfl, Nq, K5, zz_tr_3, G7, G8, G9⟩ := hQ2
  replace N : Fr n0 L2 := by rw [hL]; exact Fr.app N Nq
  clear Nq hL
  have ne_x_tr_3 : x ≠ tr_3 := Nat.ne_of_lt (Nat.lt_of_lt_of_le P1_Exa.lt zz_tr_3)
  have ne_tr_3_x : tr_3 ≠ x := Ne.symm ne_x_tr_3
  have ne_sb_tr_3 : sb ≠ tr_3 := Nat.ne_of_lt (Nat.lt_of_lt_of_le P4_Exa.lt zz_tr_3)
  have ne_tr_3_sb : tr_3 ≠ sb := Ne.symm ne_sb_tr_3
  have ne_va_tr_3 : va ≠ tr_3 := Nat.ne_of_lt (Nat.lt_of_lt_of_le P8_Arv.lt zz_tr_3)
  have ne_tr_3_va : tr_3 ≠ va := Ne.symm ne_va_tr_3
  have sz_tr_3 : h0.size ≤ tr_3 := Nat.le_trans sz_h zz_tr_3
  have ge_tr_3 : n0 ≤ tr_3 := Nat.le_trans Z0 sz_tr_3
  have ne_sb_x : sb ≠ x := ne_exa P4_Exa P1_Exa (by decide)
  have ne_va_x : va ≠ x := Ne.symm (Exa.neArv P1_Exa P8_Arv (own_w1 hw))
  replace P0_Old := P0_Old.keep K5 (allS ge_x all0)
  replace P1_Exa := P1_Exa.keep K5
  replace P4_Exa := P4_Exa.keep K5
  replace P5_Fld := P5_Fld.keep K5 (ninS ne_sb_x nin0)
  replace P6_Fld := P6_Fld.keep K5 (ninS ne_sb_x nin0)
  replace P7_Fld := P7_Fld.keep K5 (ninS ne_sb_x nin0)
  replace P8_Arv := P8_Arv.keep K5 (ninS ne_va_x nin0)
  replace K0 := K0.trans K5 (allS (Or.inl (List.mem_of_getElem? (i := 0) rfl)) all0)
  replace sz_h : h0.size ≤ h1.size := Nat.le_trans sz_h K5.1
  show Go p e below _ T (mkF m 6 #[.val (.ref x), .val (.ref sb)] [])
  exact gRetP0 X hx hlk hret (hb hby own_d29_6) eT (by decide) (by decide) ⟨tr_3, kr_4, rfl, N, K0, sz_tr_3, G7, G8, G9⟩
set_option maxRecDepth 65536 in
set_option maxHeartbeats 40000000 in
theorem rmTS32_34 (l : Launch) (Z : State) (a0 : Array Value) (hw : HW_ a0 Z) (sb : Addr) (va : Addr) (kv : ClassId) (G1 : Int32) (bx0 : Int32) (bx1 : Int32) (bx2 : Int32) (bx3 : Int32) (bx4 : Int32) (bx5 : Int32) (bx6 : Int32) (bx7 : Int32) (bx8 : Int32) (bx9 : Int32) (bx10 : Int32) (bx11 : Int32) (bx12 : Int32) (bx13 : Int32) (bx14 : Int32) (bx15 : Int32) (bx16 : Int32) (bx17 : Int32) (bx18 : Int32) (bx19 : Int32) (bx20 : Int32) (bx21 : Int32) (bx22 : Int32) (bx23 : Int32) (bx24 : Int32) (bx25 : Int32) (bx26 : Int32) (bx27 : Int32) (bx28 : Int32) (bx29 : Int32) (bx30 : Int32) (bx31 : Int32) (h0 : Heap) (n0 : Nat) (Z0 : n0 ≤ h0.size) (P0_Old : Old Z n0 h0) (P1_Exa : Exa Z h0 sb "java/lang/StringBuilder") (P2_Fld : Fld Z h0 sb "java/lang/AbstractStringBuilder" "value" "[B" (.ref va)) (P3_Fld : Fld Z h0 sb "java/lang/AbstractStringBuilder" "coder" "B" (.int 0)) (P4_Fld : Fld Z h0 sb "java/lang/AbstractStringBuilder" "count" "I" (.int 32)) (P5_Arv : Arv Z h0 va kv .byte (34 : Int32) [(.int bx0), (.int bx1), (.int bx2), (.int bx3), (.int bx4), (.int bx5), (.int bx6), (.int bx7), (.int bx8), (.int bx9), (.int bx10), (.int bx11), (.int bx12), (.int bx13), (.int bx14), (.int bx15), (.int bx16), (.int bx17), (.int bx18), (.int bx19), (.int bx20), (.int bx21), (.int bx22), (.int bx23), (.int bx24), (.int bx25), (.int bx26), (.int bx27), (.int bx28), (.int bx29), (.int bx30), (.int bx31), (.int 0), (.int 0)] (.int 0)) (O2 : Sta Z Z.heap "java/lang/String" "COMPACT_STRINGS" "Z" (.int G1)) (P5 : ¬ G1 = (0 : Int32)) :
    CtP l (⟨"java/lang/StringBuilder", "toString", "()Ljava/lang/String;"⟩ : MethodName) jdk_67_method_42_code 1 (some (.object "java/lang/String")) [] ({ frames := 5, cells := 2, slots := 36, locals := 79 } : Room) Z #[(.ref sb)] h0 (fun v h L => ∃ (x : Addr), ∃ (tr : Addr), ∃ (kr : ClassId), v = some (.ref x) ∧ Fr n0 L ∧ Keep h0 h [] ∧ h0.size ≤ x ∧ h0.size ≤ tr ∧ Exa Z h x "java/lang/String" ∧ Fld Z h x "java/lang/String" "coder" "B" (.int 0) ∧ Fld Z h x "java/lang/String" "value" "[B" (.ref tr) ∧ Arv Z h tr kr .byte (32 : Int32) [(.int bx0), (.int bx1), (.int bx2), (.int bx3), (.int bx4), (.int bx5), (.int bx6), (.int bx7), (.int bx8), (.int bx9), (.int bx10), (.int bx11), (.int bx12), (.int bx13), (.int bx14), (.int bx15), (.int bx16), (.int bx17), (.int bx18), (.int bx19), (.int bx20), (.int bx21), (.int bx22), (.int bx23), (.int bx24), (.int bx25), (.int bx26), (.int bx27), (.int bx28), (.int bx29), (.int bx30), (.int bx31)] (.int 0)) := by
  refine CtP.walk (Ls := #[.val (.ref sb)]) (plainFor_of_name own_pn1) (fun m => by first | (simp [entryFrame, mkF, argsToLocals, Value.category]; done) | rfl) ?_
  intro p e s m below meth cc_ T hx hby hml hown hnm hret hlk hZ X eT
  have N := Fr.nil n0
  have K0 := Keep.refl h0 []
  have sz_h : h0.size ≤ h0.size := Nat.le_refl _
  refine gnewO X hx hZ hown (own_w160 hw) (own_w1 hw) (own_w2 hw) eT 1 4 rfl rfl (by decide) (by decide) 3 (hb hby own_d28_0) rfl ?_
  clear X eT; clear T; intro T h1 b2 X eT ga E3 A4 D5
  have le_a := Nat.le_of_eq ga.symm
  have ne_sb_b2 : sb ≠ b2 := Nat.ne_of_lt (Nat.lt_of_lt_of_le P1_Exa.lt le_a)
  have ne_b2_sb : b2 ≠ sb := Ne.symm ne_sb_b2
  have ne_va_b2 : va ≠ b2 := Nat.ne_of_lt (Nat.lt_of_lt_of_le P5_Arv.lt le_a)
  have ne_b2_va : b2 ≠ va := Ne.symm ne_va_b2
  have sz_b2 : h0.size ≤ b2 := Nat.le_trans sz_h le_a
  have ge_b2 : n0 ≤ b2 := Nat.le_trans Z0 sz_b2
  clear le_a ga
  replace P0_Old := P0_Old.ext E3
  replace P1_Exa := P1_Exa.ext E3
  replace P2_Fld := P2_Fld.ext E3
  replace P3_Fld := P3_Fld.ext E3
  replace P4_Fld := P4_Fld.ext E3
  replace P5_Arv := P5_Arv.ext E3
  replace K0 := K0.ext E3
  replace sz_h : h0.size ≤ h1.size := Nat.le_trans sz_h E3.1
  have F_coder_b2 : Fld Z h1 b2 "java/lang/String" "coder" "B" (.int 0) := D5 (Or.inr (own_w27 hw)) (ty := .byte) own_pf1
  have F_value_b2 : Fld Z h1 b2 "java/lang/String" "value" "[B" .null := D5 (Or.inr (own_w29 hw)) (ty := (.array .byte)) own_pf0
  clear D5
  refine gdup X hx 4 (hb hby own_d28_3) rfl rfl ?_
  refine galoadN (v := (.ref sb)) X hx 5 (hb hby own_d28_4) rfl rfl rfl ?_
  refine gspecial (y := (⟨"java/lang/String", "<init>", "(Ljava/lang/StringBuilder;)V"⟩ : MethodName)) (a := b2) (argsL := [(.ref sb)]) (st := [(.ref b2)]) X hx hZ hown rfl (own_w161 hw) (own_w162 hw) (own_w163 hw) (by decide) (payP (W := 1) (rmIS32_34 l Z a0 hw (b2) (sb) (va) (kv) (G1) (bx0) (bx1) (bx2) (bx3) (bx4) (bx5) (bx6) (bx7) (bx8) (bx9) (bx10) (bx11) (bx12) (bx13) (bx14) (bx15) (bx16) (bx17) (bx18) (bx19) (bx20) (bx21) (bx22) (bx23) (bx24) (bx25) (bx26) (bx27) (bx28) (bx29) (bx30) (bx31) h1 n0 (Nat.le_trans Z0 sz_h) ge_b2 P0_Old A4 F_value_b2 F_coder_b2 P1_Exa P2_Fld P3_Fld P4_Fld P5_Arv (O2) (P5)) hZ (own_w163 hw) (own_w2 hw) (by decide) (by decide)) eT (by rw [hml]; rfl) (lenOf own_pd16 rfl) rfl (Nat.le_of_eq rfl) 2 36 rfl rfl (by decide) (by decide) 8 (hb hby own_d28_5) rfl ?_
  clear X eT; clear T; intro v T h6 L2 Lc X eT hL hQ7
  obtain ⟨tr_8, kr_9, rfl, Nq, K10, zz_tr_8, G12, G13, G14⟩ := hQ7
  replace N : Fr n0 L2 := by rw [hL]; exact Fr.app N Nq
  clear Nq hL
  have ne_sb_tr_8 : sb ≠ tr_8 := Nat.ne_of_lt (Nat.lt_of_lt_of_le P1_Exa.lt zz_tr_8)
  have ne_tr_8_sb : tr_8 ≠ sb := Ne.symm ne_sb_tr_8
  have ne_va_tr_8 : va ≠ tr_8 := Nat.ne_of_lt (Nat.lt_of_lt_of_le P5_Arv.lt zz_tr_8)
  have ne_tr_8_va : tr_8 ≠ va := Ne.symm ne_va_tr_8
  have ne_b2_tr_8 : b2 ≠ tr_8 := Nat.ne_of_lt (Nat.lt_of_lt_of_le A4.lt zz_tr_8)
  have ne_tr_8_b2 : tr_8 ≠ b2 := Ne.symm ne_b2_tr_8
  have sz_tr_8 : h0.size ≤ tr_8 := Nat.le_trans sz_h zz_tr_8
  have ge_tr_8 : n0 ≤ tr_8 := Nat.le_trans Z0 sz_tr_8
  replace P0_Old := P0_Old.keep K10 (allS ge_b2 all0)
  replace P1_Exa := P1_Exa.keep K10
  replace P2_Fld := P2_Fld.keep K10 (ninS ne_sb_b2 nin0)
  replace P3_Fld := P3_Fld.keep K10 (ninS ne_sb_b2 nin0)
  replace P4_Fld := P4_Fld.keep K10 (ninS ne_sb_b2 nin0)
  replace P5_Arv := P5_Arv.keep K10 (ninS ne_va_b2 nin0)
  replace A4 := A4.keep K10
  replace K0 := K0.trans K10 (allS (Or.inr sz_b2) all0)
  replace sz_h : h0.size ≤ h6.size := Nat.le_trans sz_h K10.1
  show Go p e below _ T (mkF m 8 #[.val (.ref sb)] [(.ref b2)])
  exact gRetP X hx hlk hret rfl (Or.inr (Or.inr (Or.inr (Or.inr ⟨rfl, rfl, rfl⟩)))) (hb hby own_d28_8) eT (by decide) (by decide) ⟨b2, tr_8, kr_9, rfl, N, K0, sz_b2, sz_tr_8, A4, G12, G13, G14⟩
set_option maxRecDepth 65536 in
set_option maxHeartbeats 40000000 in
theorem rmPut_putTableWord_19 (l : Launch) (Z : State) (a0 : Array Value) (hw : HW_ a0 Z) (ar : Addr) (ka : ClassId) (y0 : Value) (y1 : Value) (y2 : Value) (y3 : Value) (y4 : Value) (y5 : Value) (y6 : Value) (y7 : Value) (y8 : Value) (y9 : Value) (y10 : Value) (y11 : Value) (y12 : Value) (y13 : Value) (y14 : Value) (y15 : Value) (y16 : Value) (y17 : Value) (y18 : Value) (h0 : Heap) (n0 : Nat) (Z0 : n0 ≤ h0.size) (ge_ar : n0 ≤ ar) (P0_Arv : Arv Z h0 ar ka .char (19 : Int32) [y0, y1, y2, y3, y4, y5, y6, y7, y8, y9, y10, y11, y12, y13, y14, y15, y16, y17, y18] (.int 0)) :
    CtP l (⟨"com/example/sessionsmith/sessionsmith/SchemaProblemToStringPinLaw", "putTableWord", "([CI)V"⟩ : MethodName) method_3_code 2 none [] ({ frames := 0, cells := 0, slots := 0, locals := 0 } : Room) Z #[(.ref ar), (.int 0)] h0 (fun v h L => v = none ∧ Fr n0 L ∧ Keep h0 h [ar] ∧ Arv Z h ar ka .char (19 : Int32) [(.int 116), (.int 97), (.int 98), (.int 108), (.int 101), (.int 32), y6, y7, y8, y9, y10, y11, y12, y13, y14, y15, y16, y17, y18] (.int 0)) := by
  refine CtP.walk (Ls := #[.val (.ref ar), .val (.int 0)]) (plainFor_of_name own_pn11) (fun m => by first | (simp [entryFrame, mkF, argsToLocals, Value.category]; done) | rfl) ?_
  intro p e s m below meth cc_ T hx hby hml hown hnm hret hlk hZ X eT
  have N := Fr.nil n0
  have K0 := Keep.refl h0 [ar]
  have sz_h : h0.size ≤ h0.size := Nat.le_refl _
  refine galoadN (v := (.ref ar)) X hx 1 (hb hby own_d7_0) rfl rfl rfl ?_
  refine giloadN (v := (0 : Int32)) X hx 2 (hb hby own_d7_1) rfl rfl ?_
  refine gbipush X hx (116 : Int32) 4 (hb hby own_d7_2) rfl rfl ?_
  refine gcastore X hx hZ eT P0_Arv (by decide) (by decide) 0 rfl (Nat.le_of_ble_eq_true rfl) N ge_ar 5 (hb hby own_d7_4) rfl ?_
  clear X eT N; clear T; intro T h2 L X eT N W1 V3
  replace K0 := K0.wr W1 (Or.inl (List.mem_of_getElem? (i := 0) rfl))
  replace sz_h : h0.size ≤ h2.size := by rw [Wr.size W1]; exact sz_h
  replace V3 : Arv Z h2 ar ka .char (19 : Int32) [(.int 116), y1, y2, y3, y4, y5, y6, y7, y8, y9, y10, y11, y12, y13, y14, y15, y16, y17, y18] (.int 0) := V3
  refine galoadN (v := (.ref ar)) X hx 6 (hb hby own_d7_5) rfl rfl rfl ?_
  refine giloadN (v := (0 : Int32)) X hx 7 (hb hby own_d7_6) rfl rfl ?_
  refine giconst X hx (1 : Int32) 8 (hb hby own_d7_7) rfl rfl ?_
  refine giadd X hx 9 (hb hby own_d7_8) rfl ?_
  rw [show ((0 : Int32) + (1 : Int32)) = (1 : Int32) from by decide]
  refine gbipush X hx (97 : Int32) 11 (hb hby own_d7_9) rfl rfl ?_
  refine gcastore X hx hZ eT V3 (by decide) (by decide) 1 rfl (Nat.le_of_ble_eq_true rfl) N ge_ar 12 (hb hby own_d7_11) rfl ?_
  clear X eT N; clear T; intro T h5 L X eT N W4 V6
  replace K0 := K0.wr W4 (Or.inl (List.mem_of_getElem? (i := 0) rfl))
  replace sz_h : h0.size ≤ h5.size := by rw [Wr.size W4]; exact sz_h
  replace V6 : Arv Z h5 ar ka .char (19 : Int32) [(.int 116), (.int 97), y2, y3, y4, y5, y6, y7, y8, y9, y10, y11, y12, y13, y14, y15, y16, y17, y18] (.int 0) := V6
  refine galoadN (v := (.ref ar)) X hx 13 (hb hby own_d7_12) rfl rfl rfl ?_
  refine giloadN (v := (0 : Int32)) X hx 14 (hb hby own_d7_13) rfl rfl ?_
  refine giconst X hx (2 : Int32) 15 (hb hby own_d7_14) rfl rfl ?_
  refine giadd X hx 16 (hb hby own_d7_15) rfl ?_
  rw [show ((0 : Int32) + (2 : Int32)) = (2 : Int32) from by decide]
  refine gbipush X hx (98 : Int32) 18 (hb hby own_d7_16) rfl rfl ?_
  refine gcastore X hx hZ eT V6 (by decide) (by decide) 2 rfl (Nat.le_of_ble_eq_true rfl) N ge_ar 19 (hb hby own_d7_18) rfl ?_
  clear X eT N; clear T; intro T h8 L X eT N W7 V9
  replace K0 := K0.wr W7 (Or.inl (List.mem_of_getElem? (i := 0) rfl))
  replace sz_h : h0.size ≤ h8.size := by rw [Wr.size W7]; exact sz_h
  replace V9 : Arv Z h8 ar ka .char (19 : Int32) [(.int 116), (.int 97), (.int 98), y3, y4, y5, y6, y7, y8, y9, y10, y11, y12, y13, y14, y15, y16, y17, y18] (.int 0) := V9
  refine galoadN (v := (.ref ar)) X hx 20 (hb hby own_d7_19) rfl rfl rfl ?_
  refine giloadN (v := (0 : Int32)) X hx 21 (hb hby own_d7_20) rfl rfl ?_
  refine giconst X hx (3 : Int32) 22 (hb hby own_d7_21) rfl rfl ?_
  refine giadd X hx 23 (hb hby own_d7_22) rfl ?_
  rw [show ((0 : Int32) + (3 : Int32)) = (3 : Int32) from by decide]
  refine gbipush X hx (108 : Int32) 25 (hb hby own_d7_23) rfl rfl ?_
  refine gcastore X hx hZ eT V9 (by decide) (by decide) 3 rfl (Nat.le_of_ble_eq_true rfl) N ge_ar 26 (hb hby own_d7_25) rfl ?_
  clear X eT N; clear T; intro T h11 L X eT N W10 V12
  replace K0 := K0.wr W10 (Or.inl (List.mem_of_getElem? (i := 0) rfl))
  replace sz_h : h0.size ≤ h11.size := by rw [Wr.size W10]; exact sz_h
  replace V12 : Arv Z h11 ar ka .char (19 : Int32) [(.int 116), (.int 97), (.int 98), (.int 108), y4, y5, y6, y7, y8, y9, y10, y11, y12, y13, y14, y15, y16, y17, y18] (.int 0) := V12
  refine galoadN (v := (.ref ar)) X hx 27 (hb hby own_d7_26) rfl rfl rfl ?_
  refine giloadN (v := (0 : Int32)) X hx 28 (hb hby own_d7_27) rfl rfl ?_
  refine giconst X hx (4 : Int32) 29 (hb hby own_d7_28) rfl rfl ?_
  refine giadd X hx 30 (hb hby own_d7_29) rfl ?_
  rw [show ((0 : Int32) + (4 : Int32)) = (4 : Int32) from by decide]
  refine gbipush X hx (101 : Int32) 32 (hb hby own_d7_30) rfl rfl ?_
  refine gcastore X hx hZ eT V12 (by decide) (by decide) 4 rfl (Nat.le_of_ble_eq_true rfl) N ge_ar 33 (hb hby own_d7_32) rfl ?_
  clear X eT N; clear T; intro T h14 L X eT N W13 V15
  replace K0 := K0.wr W13 (Or.inl (List.mem_of_getElem? (i := 0) rfl))
  replace sz_h : h0.size ≤ h14.size := by rw [Wr.size W13]; exact sz_h
  replace V15 : Arv Z h14 ar ka .char (19 : Int32) [(.int 116), (.int 97), (.int 98), (.int 108), (.int 101), y5, y6, y7, y8, y9, y10, y11, y12, y13, y14, y15, y16, y17, y18] (.int 0) := V15
  refine galoadN (v := (.ref ar)) X hx 34 (hb hby own_d7_33) rfl rfl rfl ?_
  refine giloadN (v := (0 : Int32)) X hx 35 (hb hby own_d7_34) rfl rfl ?_
  refine giconst X hx (5 : Int32) 36 (hb hby own_d7_35) rfl rfl ?_
  refine giadd X hx 37 (hb hby own_d7_36) rfl ?_
  rw [show ((0 : Int32) + (5 : Int32)) = (5 : Int32) from by decide]
  refine gbipush X hx (32 : Int32) 39 (hb hby own_d7_37) rfl rfl ?_
  refine gcastore X hx hZ eT V15 (by decide) (by decide) 5 rfl (Nat.le_of_ble_eq_true rfl) N ge_ar 40 (hb hby own_d7_39) rfl ?_
  clear X eT N; clear T; intro T h17 L X eT N W16 V18
  replace K0 := K0.wr W16 (Or.inl (List.mem_of_getElem? (i := 0) rfl))
  replace sz_h : h0.size ≤ h17.size := by rw [Wr.size W16]; exact sz_h
  replace V18 : Arv Z h17 ar ka .char (19 : Int32) [(.int 116), (.int 97), (.int 98), (.int 108), (.int 101), (.int 32), y6, y7, y8, y9, y10, y11, y12, y13, y14, y15, y16, y17, y18] (.int 0) := V18
  exact gRetP0 X hx hlk hret (hb hby own_d7_40) eT (by decide) (by decide) ⟨rfl, N, K0, V18⟩
set_option maxRecDepth 65536 in
set_option maxHeartbeats 40000000 in
theorem rmPut_putTableWord_32 (l : Launch) (Z : State) (a0 : Array Value) (hw : HW_ a0 Z) (ar : Addr) (ka : ClassId) (y0 : Value) (y1 : Value) (y2 : Value) (y3 : Value) (y4 : Value) (y5 : Value) (y6 : Value) (y7 : Value) (y8 : Value) (y9 : Value) (y10 : Value) (y11 : Value) (y12 : Value) (y13 : Value) (y14 : Value) (y15 : Value) (y16 : Value) (y17 : Value) (y18 : Value) (y19 : Value) (y20 : Value) (y21 : Value) (y22 : Value) (y23 : Value) (y24 : Value) (y25 : Value) (y26 : Value) (y27 : Value) (y28 : Value) (y29 : Value) (y30 : Value) (y31 : Value) (h0 : Heap) (n0 : Nat) (Z0 : n0 ≤ h0.size) (ge_ar : n0 ≤ ar) (P0_Arv : Arv Z h0 ar ka .char (32 : Int32) [y0, y1, y2, y3, y4, y5, y6, y7, y8, y9, y10, y11, y12, y13, y14, y15, y16, y17, y18, y19, y20, y21, y22, y23, y24, y25, y26, y27, y28, y29, y30, y31] (.int 0)) :
    CtP l (⟨"com/example/sessionsmith/sessionsmith/SchemaProblemToStringPinLaw", "putTableWord", "([CI)V"⟩ : MethodName) method_3_code 2 none [] ({ frames := 0, cells := 0, slots := 0, locals := 0 } : Room) Z #[(.ref ar), (.int 13)] h0 (fun v h L => v = none ∧ Fr n0 L ∧ Keep h0 h [ar] ∧ Arv Z h ar ka .char (32 : Int32) [y0, y1, y2, y3, y4, y5, y6, y7, y8, y9, y10, y11, y12, (.int 116), (.int 97), (.int 98), (.int 108), (.int 101), (.int 32), y19, y20, y21, y22, y23, y24, y25, y26, y27, y28, y29, y30, y31] (.int 0)) := by
  refine CtP.walk (Ls := #[.val (.ref ar), .val (.int 13)]) (plainFor_of_name own_pn11) (fun m => by first | (simp [entryFrame, mkF, argsToLocals, Value.category]; done) | rfl) ?_
  intro p e s m below meth cc_ T hx hby hml hown hnm hret hlk hZ X eT
  have N := Fr.nil n0
  have K0 := Keep.refl h0 [ar]
  have sz_h : h0.size ≤ h0.size := Nat.le_refl _
  refine galoadN (v := (.ref ar)) X hx 1 (hb hby own_d7_0) rfl rfl rfl ?_
  refine giloadN (v := (13 : Int32)) X hx 2 (hb hby own_d7_1) rfl rfl ?_
  refine gbipush X hx (116 : Int32) 4 (hb hby own_d7_2) rfl rfl ?_
  refine gcastore X hx hZ eT P0_Arv (by decide) (by decide) 13 rfl (Nat.le_of_ble_eq_true rfl) N ge_ar 5 (hb hby own_d7_4) rfl ?_
  clear X eT N; clear T; intro T h2 L X eT N W1 V3
  replace K0 := K0.wr W1 (Or.inl (List.mem_of_getElem? (i := 0) rfl))
  replace sz_h : h0.size ≤ h2.size := by rw [Wr.size W1]; exact sz_h
  replace V3 : Arv Z h2 ar ka .char (32 : Int32) [y0, y1, y2, y3, y4, y5, y6, y7, y8, y9, y10, y11, y12, (.int 116), y14, y15, y16, y17, y18, y19, y20, y21, y22, y23, y24, y25, y26, y27, y28, y29, y30, y31] (.int 0) := V3
  refine galoadN (v := (.ref ar)) X hx 6 (hb hby own_d7_5) rfl rfl rfl ?_
  refine giloadN (v := (13 : Int32)) X hx 7 (hb hby own_d7_6) rfl rfl ?_
  refine giconst X hx (1 : Int32) 8 (hb hby own_d7_7) rfl rfl ?_
  refine giadd X hx 9 (hb hby own_d7_8) rfl ?_
  rw [show ((13 : Int32) + (1 : Int32)) = (14 : Int32) from by decide]
  refine gbipush X hx (97 : Int32) 11 (hb hby own_d7_9) rfl rfl ?_
  refine gcastore X hx hZ eT V3 (by decide) (by decide) 14 rfl (Nat.le_of_ble_eq_true rfl) N ge_ar 12 (hb hby own_d7_11) rfl ?_
  clear X eT N; clear T; intro T h5 L X eT N W4 V6
  replace K0 := K0.wr W4 (Or.inl (List.mem_of_getElem? (i := 0) rfl))
  replace sz_h : h0.size ≤ h5.size := by rw [Wr.size W4]; exact sz_h
  replace V6 : Arv Z h5 ar ka .char (32 : Int32) [y0, y1, y2, y3, y4, y5, y6, y7, y8, y9, y10, y11, y12, (.int 116), (.int 97), y15, y16, y17, y18, y19, y20, y21, y22, y23, y24, y25, y26, y27, y28, y29, y30, y31] (.int 0) := V6
  refine galoadN (v := (.ref ar)) X hx 13 (hb hby own_d7_12) rfl rfl rfl ?_
  refine giloadN (v := (13 : Int32)) X hx 14 (hb hby own_d7_13) rfl rfl ?_
  refine giconst X hx (2 : Int32) 15 (hb hby own_d7_14) rfl rfl ?_
  refine giadd X hx 16 (hb hby own_d7_15) rfl ?_
  rw [show ((13 : Int32) + (2 : Int32)) = (15 : Int32) from by decide]
  refine gbipush X hx (98 : Int32) 18 (hb hby own_d7_16) rfl rfl ?_
  refine gcastore X hx hZ eT V6 (by decide) (by decide) 15 rfl (Nat.le_of_ble_eq_true rfl) N ge_ar 19 (hb hby own_d7_18) rfl ?_
  clear X eT N; clear T; intro T h8 L X eT N W7 V9
  replace K0 := K0.wr W7 (Or.inl (List.mem_of_getElem? (i := 0) rfl))
  replace sz_h : h0.size ≤ h8.size := by rw [Wr.size W7]; exact sz_h
  replace V9 : Arv Z h8 ar ka .char (32 : Int32) [y0, y1, y2, y3, y4, y5, y6, y7, y8, y9, y10, y11, y12, (.int 116), (.int 97), (.int 98), y16, y17, y18, y19, y20, y21, y22, y23, y24, y25, y26, y27, y28, y29, y30, y31] (.int 0) := V9
  refine galoadN (v := (.ref ar)) X hx 20 (hb hby own_d7_19) rfl rfl rfl ?_
  refine giloadN (v := (13 : Int32)) X hx 21 (hb hby own_d7_20) rfl rfl ?_
  refine giconst X hx (3 : Int32) 22 (hb hby own_d7_21) rfl rfl ?_
  refine giadd X hx 23 (hb hby own_d7_22) rfl ?_
  rw [show ((13 : Int32) + (3 : Int32)) = (16 : Int32) from by decide]
  refine gbipush X hx (108 : Int32) 25 (hb hby own_d7_23) rfl rfl ?_
  refine gcastore X hx hZ eT V9 (by decide) (by decide) 16 rfl (Nat.le_of_ble_eq_true rfl) N ge_ar 26 (hb hby own_d7_25) rfl ?_
  clear X eT N; clear T; intro T h11 L X eT N W10 V12
  replace K0 := K0.wr W10 (Or.inl (List.mem_of_getElem? (i := 0) rfl))
  replace sz_h : h0.size ≤ h11.size := by rw [Wr.size W10]; exact sz_h
  replace V12 : Arv Z h11 ar ka .char (32 : Int32) [y0, y1, y2, y3, y4, y5, y6, y7, y8, y9, y10, y11, y12, (.int 116), (.int 97), (.int 98), (.int 108), y17, y18, y19, y20, y21, y22, y23, y24, y25, y26, y27, y28, y29, y30, y31] (.int 0) := V12
  refine galoadN (v := (.ref ar)) X hx 27 (hb hby own_d7_26) rfl rfl rfl ?_
  refine giloadN (v := (13 : Int32)) X hx 28 (hb hby own_d7_27) rfl rfl ?_
  refine giconst X hx (4 : Int32) 29 (hb hby own_d7_28) rfl rfl ?_
  refine giadd X hx 30 (hb hby own_d7_29) rfl ?_
  rw [show ((13 : Int32) + (4 : Int32)) = (17 : Int32) from by decide]
  refine gbipush X hx (101 : Int32) 32 (hb hby own_d7_30) rfl rfl ?_
  refine gcastore X hx hZ eT V12 (by decide) (by decide) 17 rfl (Nat.le_of_ble_eq_true rfl) N ge_ar 33 (hb hby own_d7_32) rfl ?_
  clear X eT N; clear T; intro T h14 L X eT N W13 V15
  replace K0 := K0.wr W13 (Or.inl (List.mem_of_getElem? (i := 0) rfl))
  replace sz_h : h0.size ≤ h14.size := by rw [Wr.size W13]; exact sz_h
  replace V15 : Arv Z h14 ar ka .char (32 : Int32) [y0, y1, y2, y3, y4, y5, y6, y7, y8, y9, y10, y11, y12, (.int 116), (.int 97), (.int 98), (.int 108), (.int 101), y18, y19, y20, y21, y22, y23, y24, y25, y26, y27, y28, y29, y30, y31] (.int 0) := V15
  refine galoadN (v := (.ref ar)) X hx 34 (hb hby own_d7_33) rfl rfl rfl ?_
  refine giloadN (v := (13 : Int32)) X hx 35 (hb hby own_d7_34) rfl rfl ?_
  refine giconst X hx (5 : Int32) 36 (hb hby own_d7_35) rfl rfl ?_
  refine giadd X hx 37 (hb hby own_d7_36) rfl ?_
  rw [show ((13 : Int32) + (5 : Int32)) = (18 : Int32) from by decide]
  refine gbipush X hx (32 : Int32) 39 (hb hby own_d7_37) rfl rfl ?_
  refine gcastore X hx hZ eT V15 (by decide) (by decide) 18 rfl (Nat.le_of_ble_eq_true rfl) N ge_ar 40 (hb hby own_d7_39) rfl ?_
  clear X eT N; clear T; intro T h17 L X eT N W16 V18
  replace K0 := K0.wr W16 (Or.inl (List.mem_of_getElem? (i := 0) rfl))
  replace sz_h : h0.size ≤ h17.size := by rw [Wr.size W16]; exact sz_h
  replace V18 : Arv Z h17 ar ka .char (32 : Int32) [y0, y1, y2, y3, y4, y5, y6, y7, y8, y9, y10, y11, y12, (.int 116), (.int 97), (.int 98), (.int 108), (.int 101), (.int 32), y19, y20, y21, y22, y23, y24, y25, y26, y27, y28, y29, y30, y31] (.int 0) := V18
  exact gRetP0 X hx hlk hret (hb hby own_d7_40) eT (by decide) (by decide) ⟨rfl, N, K0, V18⟩
set_option maxRecDepth 65536 in
set_option maxHeartbeats 40000000 in
theorem rmPut_putIsMissing_19 (l : Launch) (Z : State) (a0 : Array Value) (hw : HW_ a0 Z) (ar : Addr) (ka : ClassId) (y0 : Value) (y1 : Value) (y2 : Value) (y3 : Value) (y4 : Value) (y5 : Value) (y6 : Value) (y7 : Value) (y8 : Value) (y9 : Value) (y10 : Value) (y11 : Value) (y12 : Value) (y13 : Value) (y14 : Value) (y15 : Value) (y16 : Value) (y17 : Value) (y18 : Value) (h0 : Heap) (n0 : Nat) (Z0 : n0 ≤ h0.size) (ge_ar : n0 ≤ ar) (P0_Arv : Arv Z h0 ar ka .char (19 : Int32) [y0, y1, y2, y3, y4, y5, y6, y7, y8, y9, y10, y11, y12, y13, y14, y15, y16, y17, y18] (.int 0)) :
    CtP l (⟨"com/example/sessionsmith/sessionsmith/SchemaProblemToStringPinLaw", "putIsMissing", "([CI)V"⟩ : MethodName) method_2_code 2 none [] ({ frames := 0, cells := 0, slots := 0, locals := 0 } : Room) Z #[(.ref ar), (.int 8)] h0 (fun v h L => v = none ∧ Fr n0 L ∧ Keep h0 h [ar] ∧ Arv Z h ar ka .char (19 : Int32) [y0, y1, y2, y3, y4, y5, y6, y7, (.int 32), (.int 105), (.int 115), (.int 32), (.int 109), (.int 105), (.int 115), (.int 115), (.int 105), (.int 110), (.int 103)] (.int 0)) := by
  refine CtP.walk (Ls := #[.val (.ref ar), .val (.int 8)]) (plainFor_of_name own_pn11) (fun m => by first | (simp [entryFrame, mkF, argsToLocals, Value.category]; done) | rfl) ?_
  intro p e s m below meth cc_ T hx hby hml hown hnm hret hlk hZ X eT
  have N := Fr.nil n0
  have K0 := Keep.refl h0 [ar]
  have sz_h : h0.size ≤ h0.size := Nat.le_refl _
  refine galoadN (v := (.ref ar)) X hx 1 (hb hby own_d8_0) rfl rfl rfl ?_
  refine giloadN (v := (8 : Int32)) X hx 2 (hb hby own_d8_1) rfl rfl ?_
  refine gbipush X hx (32 : Int32) 4 (hb hby own_d8_2) rfl rfl ?_
  refine gcastore X hx hZ eT P0_Arv (by decide) (by decide) 8 rfl (Nat.le_of_ble_eq_true rfl) N ge_ar 5 (hb hby own_d8_4) rfl ?_
  clear X eT N; clear T; intro T h2 L X eT N W1 V3
  replace K0 := K0.wr W1 (Or.inl (List.mem_of_getElem? (i := 0) rfl))
  replace sz_h : h0.size ≤ h2.size := by rw [Wr.size W1]; exact sz_h
  replace V3 : Arv Z h2 ar ka .char (19 : Int32) [y0, y1, y2, y3, y4, y5, y6, y7, (.int 32), y9, y10, y11, y12, y13, y14, y15, y16, y17, y18] (.int 0) := V3
  refine galoadN (v := (.ref ar)) X hx 6 (hb hby own_d8_5) rfl rfl rfl ?_
  refine giloadN (v := (8 : Int32)) X hx 7 (hb hby own_d8_6) rfl rfl ?_
  refine giconst X hx (1 : Int32) 8 (hb hby own_d8_7) rfl rfl ?_
  refine giadd X hx 9 (hb hby own_d8_8) rfl ?_
  rw [show ((8 : Int32) + (1 : Int32)) = (9 : Int32) from by decide]
  refine gbipush X hx (105 : Int32) 11 (hb hby own_d8_9) rfl rfl ?_
  refine gcastore X hx hZ eT V3 (by decide) (by decide) 9 rfl (Nat.le_of_ble_eq_true rfl) N ge_ar 12 (hb hby own_d8_11) rfl ?_
  clear X eT N; clear T; intro T h5 L X eT N W4 V6
  replace K0 := K0.wr W4 (Or.inl (List.mem_of_getElem? (i := 0) rfl))
  replace sz_h : h0.size ≤ h5.size := by rw [Wr.size W4]; exact sz_h
  replace V6 : Arv Z h5 ar ka .char (19 : Int32) [y0, y1, y2, y3, y4, y5, y6, y7, (.int 32), (.int 105), y10, y11, y12, y13, y14, y15, y16, y17, y18] (.int 0) := V6
  refine galoadN (v := (.ref ar)) X hx 13 (hb hby own_d8_12) rfl rfl rfl ?_
  refine giloadN (v := (8 : Int32)) X hx 14 (hb hby own_d8_13) rfl rfl ?_
  refine giconst X hx (2 : Int32) 15 (hb hby own_d8_14) rfl rfl ?_
  refine giadd X hx 16 (hb hby own_d8_15) rfl ?_
  rw [show ((8 : Int32) + (2 : Int32)) = (10 : Int32) from by decide]
  refine gbipush X hx (115 : Int32) 18 (hb hby own_d8_16) rfl rfl ?_
  refine gcastore X hx hZ eT V6 (by decide) (by decide) 10 rfl (Nat.le_of_ble_eq_true rfl) N ge_ar 19 (hb hby own_d8_18) rfl ?_
  clear X eT N; clear T; intro T h8 L X eT N W7 V9
  replace K0 := K0.wr W7 (Or.inl (List.mem_of_getElem? (i := 0) rfl))
  replace sz_h : h0.size ≤ h8.size := by rw [Wr.size W7]; exact sz_h
  replace V9 : Arv Z h8 ar ka .char (19 : Int32) [y0, y1, y2, y3, y4, y5, y6, y7, (.int 32), (.int 105), (.int 115), y11, y12, y13, y14, y15, y16, y17, y18] (.int 0) := V9
  refine galoadN (v := (.ref ar)) X hx 20 (hb hby own_d8_19) rfl rfl rfl ?_
  refine giloadN (v := (8 : Int32)) X hx 21 (hb hby own_d8_20) rfl rfl ?_
  refine giconst X hx (3 : Int32) 22 (hb hby own_d8_21) rfl rfl ?_
  refine giadd X hx 23 (hb hby own_d8_22) rfl ?_
  rw [show ((8 : Int32) + (3 : Int32)) = (11 : Int32) from by decide]
  refine gbipush X hx (32 : Int32) 25 (hb hby own_d8_23) rfl rfl ?_
  refine gcastore X hx hZ eT V9 (by decide) (by decide) 11 rfl (Nat.le_of_ble_eq_true rfl) N ge_ar 26 (hb hby own_d8_25) rfl ?_
  clear X eT N; clear T; intro T h11 L X eT N W10 V12
  replace K0 := K0.wr W10 (Or.inl (List.mem_of_getElem? (i := 0) rfl))
  replace sz_h : h0.size ≤ h11.size := by rw [Wr.size W10]; exact sz_h
  replace V12 : Arv Z h11 ar ka .char (19 : Int32) [y0, y1, y2, y3, y4, y5, y6, y7, (.int 32), (.int 105), (.int 115), (.int 32), y12, y13, y14, y15, y16, y17, y18] (.int 0) := V12
  refine galoadN (v := (.ref ar)) X hx 27 (hb hby own_d8_26) rfl rfl rfl ?_
  refine giloadN (v := (8 : Int32)) X hx 28 (hb hby own_d8_27) rfl rfl ?_
  refine giconst X hx (4 : Int32) 29 (hb hby own_d8_28) rfl rfl ?_
  refine giadd X hx 30 (hb hby own_d8_29) rfl ?_
  rw [show ((8 : Int32) + (4 : Int32)) = (12 : Int32) from by decide]
  refine gbipush X hx (109 : Int32) 32 (hb hby own_d8_30) rfl rfl ?_
  refine gcastore X hx hZ eT V12 (by decide) (by decide) 12 rfl (Nat.le_of_ble_eq_true rfl) N ge_ar 33 (hb hby own_d8_32) rfl ?_
  clear X eT N; clear T; intro T h14 L X eT N W13 V15
  replace K0 := K0.wr W13 (Or.inl (List.mem_of_getElem? (i := 0) rfl))
  replace sz_h : h0.size ≤ h14.size := by rw [Wr.size W13]; exact sz_h
  replace V15 : Arv Z h14 ar ka .char (19 : Int32) [y0, y1, y2, y3, y4, y5, y6, y7, (.int 32), (.int 105), (.int 115), (.int 32), (.int 109), y13, y14, y15, y16, y17, y18] (.int 0) := V15
  refine galoadN (v := (.ref ar)) X hx 34 (hb hby own_d8_33) rfl rfl rfl ?_
  refine giloadN (v := (8 : Int32)) X hx 35 (hb hby own_d8_34) rfl rfl ?_
  refine giconst X hx (5 : Int32) 36 (hb hby own_d8_35) rfl rfl ?_
  refine giadd X hx 37 (hb hby own_d8_36) rfl ?_
  rw [show ((8 : Int32) + (5 : Int32)) = (13 : Int32) from by decide]
  refine gbipush X hx (105 : Int32) 39 (hb hby own_d8_37) rfl rfl ?_
  refine gcastore X hx hZ eT V15 (by decide) (by decide) 13 rfl (Nat.le_of_ble_eq_true rfl) N ge_ar 40 (hb hby own_d8_39) rfl ?_
  clear X eT N; clear T; intro T h17 L X eT N W16 V18
  replace K0 := K0.wr W16 (Or.inl (List.mem_of_getElem? (i := 0) rfl))
  replace sz_h : h0.size ≤ h17.size := by rw [Wr.size W16]; exact sz_h
  replace V18 : Arv Z h17 ar ka .char (19 : Int32) [y0, y1, y2, y3, y4, y5, y6, y7, (.int 32), (.int 105), (.int 115), (.int 32), (.int 109), (.int 105), y14, y15, y16, y17, y18] (.int 0) := V18
  refine galoadN (v := (.ref ar)) X hx 41 (hb hby own_d8_40) rfl rfl rfl ?_
  refine giloadN (v := (8 : Int32)) X hx 42 (hb hby own_d8_41) rfl rfl ?_
  refine gbipush X hx (6 : Int32) 44 (hb hby own_d8_42) rfl rfl ?_
  refine giadd X hx 45 (hb hby own_d8_44) rfl ?_
  rw [show ((8 : Int32) + (6 : Int32)) = (14 : Int32) from by decide]
  refine gbipush X hx (115 : Int32) 47 (hb hby own_d8_45) rfl rfl ?_
  refine gcastore X hx hZ eT V18 (by decide) (by decide) 14 rfl (Nat.le_of_ble_eq_true rfl) N ge_ar 48 (hb hby own_d8_47) rfl ?_
  clear X eT N; clear T; intro T h20 L X eT N W19 V21
  replace K0 := K0.wr W19 (Or.inl (List.mem_of_getElem? (i := 0) rfl))
  replace sz_h : h0.size ≤ h20.size := by rw [Wr.size W19]; exact sz_h
  replace V21 : Arv Z h20 ar ka .char (19 : Int32) [y0, y1, y2, y3, y4, y5, y6, y7, (.int 32), (.int 105), (.int 115), (.int 32), (.int 109), (.int 105), (.int 115), y15, y16, y17, y18] (.int 0) := V21
  refine galoadN (v := (.ref ar)) X hx 49 (hb hby own_d8_48) rfl rfl rfl ?_
  refine giloadN (v := (8 : Int32)) X hx 50 (hb hby own_d8_49) rfl rfl ?_
  refine gbipush X hx (7 : Int32) 52 (hb hby own_d8_50) rfl rfl ?_
  refine giadd X hx 53 (hb hby own_d8_52) rfl ?_
  rw [show ((8 : Int32) + (7 : Int32)) = (15 : Int32) from by decide]
  refine gbipush X hx (115 : Int32) 55 (hb hby own_d8_53) rfl rfl ?_
  refine gcastore X hx hZ eT V21 (by decide) (by decide) 15 rfl (Nat.le_of_ble_eq_true rfl) N ge_ar 56 (hb hby own_d8_55) rfl ?_
  clear X eT N; clear T; intro T h23 L X eT N W22 V24
  replace K0 := K0.wr W22 (Or.inl (List.mem_of_getElem? (i := 0) rfl))
  replace sz_h : h0.size ≤ h23.size := by rw [Wr.size W22]; exact sz_h
  replace V24 : Arv Z h23 ar ka .char (19 : Int32) [y0, y1, y2, y3, y4, y5, y6, y7, (.int 32), (.int 105), (.int 115), (.int 32), (.int 109), (.int 105), (.int 115), (.int 115), y16, y17, y18] (.int 0) := V24
  refine galoadN (v := (.ref ar)) X hx 57 (hb hby own_d8_56) rfl rfl rfl ?_
  refine giloadN (v := (8 : Int32)) X hx 58 (hb hby own_d8_57) rfl rfl ?_
  refine gbipush X hx (8 : Int32) 60 (hb hby own_d8_58) rfl rfl ?_
  refine giadd X hx 61 (hb hby own_d8_60) rfl ?_
  rw [show ((8 : Int32) + (8 : Int32)) = (16 : Int32) from by decide]
  refine gbipush X hx (105 : Int32) 63 (hb hby own_d8_61) rfl rfl ?_
  refine gcastore X hx hZ eT V24 (by decide) (by decide) 16 rfl (Nat.le_of_ble_eq_true rfl) N ge_ar 64 (hb hby own_d8_63) rfl ?_
  clear X eT N; clear T; intro T h26 L X eT N W25 V27
  replace K0 := K0.wr W25 (Or.inl (List.mem_of_getElem? (i := 0) rfl))
  replace sz_h : h0.size ≤ h26.size := by rw [Wr.size W25]; exact sz_h
  replace V27 : Arv Z h26 ar ka .char (19 : Int32) [y0, y1, y2, y3, y4, y5, y6, y7, (.int 32), (.int 105), (.int 115), (.int 32), (.int 109), (.int 105), (.int 115), (.int 115), (.int 105), y17, y18] (.int 0) := V27
  refine galoadN (v := (.ref ar)) X hx 65 (hb hby own_d8_64) rfl rfl rfl ?_
  refine giloadN (v := (8 : Int32)) X hx 66 (hb hby own_d8_65) rfl rfl ?_
  refine gbipush X hx (9 : Int32) 68 (hb hby own_d8_66) rfl rfl ?_
  refine giadd X hx 69 (hb hby own_d8_68) rfl ?_
  rw [show ((8 : Int32) + (9 : Int32)) = (17 : Int32) from by decide]
  refine gbipush X hx (110 : Int32) 71 (hb hby own_d8_69) rfl rfl ?_
  refine gcastore X hx hZ eT V27 (by decide) (by decide) 17 rfl (Nat.le_of_ble_eq_true rfl) N ge_ar 72 (hb hby own_d8_71) rfl ?_
  clear X eT N; clear T; intro T h29 L X eT N W28 V30
  replace K0 := K0.wr W28 (Or.inl (List.mem_of_getElem? (i := 0) rfl))
  replace sz_h : h0.size ≤ h29.size := by rw [Wr.size W28]; exact sz_h
  replace V30 : Arv Z h29 ar ka .char (19 : Int32) [y0, y1, y2, y3, y4, y5, y6, y7, (.int 32), (.int 105), (.int 115), (.int 32), (.int 109), (.int 105), (.int 115), (.int 115), (.int 105), (.int 110), y18] (.int 0) := V30
  refine galoadN (v := (.ref ar)) X hx 73 (hb hby own_d8_72) rfl rfl rfl ?_
  refine giloadN (v := (8 : Int32)) X hx 74 (hb hby own_d8_73) rfl rfl ?_
  refine gbipush X hx (10 : Int32) 76 (hb hby own_d8_74) rfl rfl ?_
  refine giadd X hx 77 (hb hby own_d8_76) rfl ?_
  rw [show ((8 : Int32) + (10 : Int32)) = (18 : Int32) from by decide]
  refine gbipush X hx (103 : Int32) 79 (hb hby own_d8_77) rfl rfl ?_
  refine gcastore X hx hZ eT V30 (by decide) (by decide) 18 rfl (Nat.le_of_ble_eq_true rfl) N ge_ar 80 (hb hby own_d8_79) rfl ?_
  clear X eT N; clear T; intro T h32 L X eT N W31 V33
  replace K0 := K0.wr W31 (Or.inl (List.mem_of_getElem? (i := 0) rfl))
  replace sz_h : h0.size ≤ h32.size := by rw [Wr.size W31]; exact sz_h
  replace V33 : Arv Z h32 ar ka .char (19 : Int32) [y0, y1, y2, y3, y4, y5, y6, y7, (.int 32), (.int 105), (.int 115), (.int 32), (.int 109), (.int 105), (.int 115), (.int 115), (.int 105), (.int 110), (.int 103)] (.int 0) := V33
  exact gRetP0 X hx hlk hret (hb hby own_d8_80) eT (by decide) (by decide) ⟨rfl, N, K0, V33⟩
set_option maxRecDepth 65536 in
set_option maxHeartbeats 40000000 in
theorem rmPut_putIsMissing_32 (l : Launch) (Z : State) (a0 : Array Value) (hw : HW_ a0 Z) (ar : Addr) (ka : ClassId) (y0 : Value) (y1 : Value) (y2 : Value) (y3 : Value) (y4 : Value) (y5 : Value) (y6 : Value) (y7 : Value) (y8 : Value) (y9 : Value) (y10 : Value) (y11 : Value) (y12 : Value) (y13 : Value) (y14 : Value) (y15 : Value) (y16 : Value) (y17 : Value) (y18 : Value) (y19 : Value) (y20 : Value) (y21 : Value) (y22 : Value) (y23 : Value) (y24 : Value) (y25 : Value) (y26 : Value) (y27 : Value) (y28 : Value) (y29 : Value) (y30 : Value) (y31 : Value) (h0 : Heap) (n0 : Nat) (Z0 : n0 ≤ h0.size) (ge_ar : n0 ≤ ar) (P0_Arv : Arv Z h0 ar ka .char (32 : Int32) [y0, y1, y2, y3, y4, y5, y6, y7, y8, y9, y10, y11, y12, y13, y14, y15, y16, y17, y18, y19, y20, y21, y22, y23, y24, y25, y26, y27, y28, y29, y30, y31] (.int 0)) :
    CtP l (⟨"com/example/sessionsmith/sessionsmith/SchemaProblemToStringPinLaw", "putIsMissing", "([CI)V"⟩ : MethodName) method_2_code 2 none [] ({ frames := 0, cells := 0, slots := 0, locals := 0 } : Room) Z #[(.ref ar), (.int 21)] h0 (fun v h L => v = none ∧ Fr n0 L ∧ Keep h0 h [ar] ∧ Arv Z h ar ka .char (32 : Int32) [y0, y1, y2, y3, y4, y5, y6, y7, y8, y9, y10, y11, y12, y13, y14, y15, y16, y17, y18, y19, y20, (.int 32), (.int 105), (.int 115), (.int 32), (.int 109), (.int 105), (.int 115), (.int 115), (.int 105), (.int 110), (.int 103)] (.int 0)) := by
  refine CtP.walk (Ls := #[.val (.ref ar), .val (.int 21)]) (plainFor_of_name own_pn11) (fun m => by first | (simp [entryFrame, mkF, argsToLocals, Value.category]; done) | rfl) ?_
  intro p e s m below meth cc_ T hx hby hml hown hnm hret hlk hZ X eT
  have N := Fr.nil n0
  have K0 := Keep.refl h0 [ar]
  have sz_h : h0.size ≤ h0.size := Nat.le_refl _
  refine galoadN (v := (.ref ar)) X hx 1 (hb hby own_d8_0) rfl rfl rfl ?_
  refine giloadN (v := (21 : Int32)) X hx 2 (hb hby own_d8_1) rfl rfl ?_
  refine gbipush X hx (32 : Int32) 4 (hb hby own_d8_2) rfl rfl ?_
  refine gcastore X hx hZ eT P0_Arv (by decide) (by decide) 21 rfl (Nat.le_of_ble_eq_true rfl) N ge_ar 5 (hb hby own_d8_4) rfl ?_
  clear X eT N; clear T; intro T h2 L X eT N W1 V3
  replace K0 := K0.wr W1 (Or.inl (List.mem_of_getElem? (i := 0) rfl))
  replace sz_h : h0.size ≤ h2.size := by rw [Wr.size W1]; exact sz_h
  replace V3 : Arv Z h2 ar ka .char (32 : Int32) [y0, y1, y2, y3, y4, y5, y6, y7, y8, y9, y10, y11, y12, y13, y14, y15, y16, y17, y18, y19, y20, (.int 32), y22, y23, y24, y25, y26, y27, y28, y29, y30, y31] (.int 0) := V3
  refine galoadN (v := (.ref ar)) X hx 6 (hb hby own_d8_5) rfl rfl rfl ?_
  refine giloadN (v := (21 : Int32)) X hx 7 (hb hby own_d8_6) rfl rfl ?_
  refine giconst X hx (1 : Int32) 8 (hb hby own_d8_7) rfl rfl ?_
  refine giadd X hx 9 (hb hby own_d8_8) rfl ?_
  rw [show ((21 : Int32) + (1 : Int32)) = (22 : Int32) from by decide]
  refine gbipush X hx (105 : Int32) 11 (hb hby own_d8_9) rfl rfl ?_
  refine gcastore X hx hZ eT V3 (by decide) (by decide) 22 rfl (Nat.le_of_ble_eq_true rfl) N ge_ar 12 (hb hby own_d8_11) rfl ?_
  clear X eT N; clear T; intro T h5 L X eT N W4 V6
  replace K0 := K0.wr W4 (Or.inl (List.mem_of_getElem? (i := 0) rfl))
  replace sz_h : h0.size ≤ h5.size := by rw [Wr.size W4]; exact sz_h
  replace V6 : Arv Z h5 ar ka .char (32 : Int32) [y0, y1, y2, y3, y4, y5, y6, y7, y8, y9, y10, y11, y12, y13, y14, y15, y16, y17, y18, y19, y20, (.int 32), (.int 105), y23, y24, y25, y26, y27, y28, y29, y30, y31] (.int 0) := V6
  refine galoadN (v := (.ref ar)) X hx 13 (hb hby own_d8_12) rfl rfl rfl ?_
  refine giloadN (v := (21 : Int32)) X hx 14 (hb hby own_d8_13) rfl rfl ?_
  refine giconst X hx (2 : Int32) 15 (hb hby own_d8_14) rfl rfl ?_
  refine giadd X hx 16 (hb hby own_d8_15) rfl ?_
  rw [show ((21 : Int32) + (2 : Int32)) = (23 : Int32) from by decide]
  refine gbipush X hx (115 : Int32) 18 (hb hby own_d8_16) rfl rfl ?_
  refine gcastore X hx hZ eT V6 (by decide) (by decide) 23 rfl (Nat.le_of_ble_eq_true rfl) N ge_ar 19 (hb hby own_d8_18) rfl ?_
  clear X eT N; clear T; intro T h8 L X eT N W7 V9
  replace K0 := K0.wr W7 (Or.inl (List.mem_of_getElem? (i := 0) rfl))
  replace sz_h : h0.size ≤ h8.size := by rw [Wr.size W7]; exact sz_h
  replace V9 : Arv Z h8 ar ka .char (32 : Int32) [y0, y1, y2, y3, y4, y5, y6, y7, y8, y9, y10, y11, y12, y13, y14, y15, y16, y17, y18, y19, y20, (.int 32), (.int 105), (.int 115), y24, y25, y26, y27, y28, y29, y30, y31] (.int 0) := V9
  refine galoadN (v := (.ref ar)) X hx 20 (hb hby own_d8_19) rfl rfl rfl ?_
  refine giloadN (v := (21 : Int32)) X hx 21 (hb hby own_d8_20) rfl rfl ?_
  refine giconst X hx (3 : Int32) 22 (hb hby own_d8_21) rfl rfl ?_
  refine giadd X hx 23 (hb hby own_d8_22) rfl ?_
  rw [show ((21 : Int32) + (3 : Int32)) = (24 : Int32) from by decide]
  refine gbipush X hx (32 : Int32) 25 (hb hby own_d8_23) rfl rfl ?_
  refine gcastore X hx hZ eT V9 (by decide) (by decide) 24 rfl (Nat.le_of_ble_eq_true rfl) N ge_ar 26 (hb hby own_d8_25) rfl ?_
  clear X eT N; clear T; intro T h11 L X eT N W10 V12
  replace K0 := K0.wr W10 (Or.inl (List.mem_of_getElem? (i := 0) rfl))
  replace sz_h : h0.size ≤ h11.size := by rw [Wr.size W10]; exact sz_h
  replace V12 : Arv Z h11 ar ka .char (32 : Int32) [y0, y1, y2, y3, y4, y5, y6, y7, y8, y9, y10, y11, y12, y13, y14, y15, y16, y17, y18, y19, y20, (.int 32), (.int 105), (.int 115), (.int 32), y25, y26, y27, y28, y29, y30, y31] (.int 0) := V12
  refine galoadN (v := (.ref ar)) X hx 27 (hb hby own_d8_26) rfl rfl rfl ?_
  refine giloadN (v := (21 : Int32)) X hx 28 (hb hby own_d8_27) rfl rfl ?_
  refine giconst X hx (4 : Int32) 29 (hb hby own_d8_28) rfl rfl ?_
  refine giadd X hx 30 (hb hby own_d8_29) rfl ?_
  rw [show ((21 : Int32) + (4 : Int32)) = (25 : Int32) from by decide]
  refine gbipush X hx (109 : Int32) 32 (hb hby own_d8_30) rfl rfl ?_
  refine gcastore X hx hZ eT V12 (by decide) (by decide) 25 rfl (Nat.le_of_ble_eq_true rfl) N ge_ar 33 (hb hby own_d8_32) rfl ?_
  clear X eT N; clear T; intro T h14 L X eT N W13 V15
  replace K0 := K0.wr W13 (Or.inl (List.mem_of_getElem? (i := 0) rfl))
  replace sz_h : h0.size ≤ h14.size := by rw [Wr.size W13]; exact sz_h
  replace V15 : Arv Z h14 ar ka .char (32 : Int32) [y0, y1, y2, y3, y4, y5, y6, y7, y8, y9, y10, y11, y12, y13, y14, y15, y16, y17, y18, y19, y20, (.int 32), (.int 105), (.int 115), (.int 32), (.int 109), y26, y27, y28, y29, y30, y31] (.int 0) := V15
  refine galoadN (v := (.ref ar)) X hx 34 (hb hby own_d8_33) rfl rfl rfl ?_
  refine giloadN (v := (21 : Int32)) X hx 35 (hb hby own_d8_34) rfl rfl ?_
  refine giconst X hx (5 : Int32) 36 (hb hby own_d8_35) rfl rfl ?_
  refine giadd X hx 37 (hb hby own_d8_36) rfl ?_
  rw [show ((21 : Int32) + (5 : Int32)) = (26 : Int32) from by decide]
  refine gbipush X hx (105 : Int32) 39 (hb hby own_d8_37) rfl rfl ?_
  refine gcastore X hx hZ eT V15 (by decide) (by decide) 26 rfl (Nat.le_of_ble_eq_true rfl) N ge_ar 40 (hb hby own_d8_39) rfl ?_
  clear X eT N; clear T; intro T h17 L X eT N W16 V18
  replace K0 := K0.wr W16 (Or.inl (List.mem_of_getElem? (i := 0) rfl))
  replace sz_h : h0.size ≤ h17.size := by rw [Wr.size W16]; exact sz_h
  replace V18 : Arv Z h17 ar ka .char (32 : Int32) [y0, y1, y2, y3, y4, y5, y6, y7, y8, y9, y10, y11, y12, y13, y14, y15, y16, y17, y18, y19, y20, (.int 32), (.int 105), (.int 115), (.int 32), (.int 109), (.int 105), y27, y28, y29, y30, y31] (.int 0) := V18
  refine galoadN (v := (.ref ar)) X hx 41 (hb hby own_d8_40) rfl rfl rfl ?_
  refine giloadN (v := (21 : Int32)) X hx 42 (hb hby own_d8_41) rfl rfl ?_
  refine gbipush X hx (6 : Int32) 44 (hb hby own_d8_42) rfl rfl ?_
  refine giadd X hx 45 (hb hby own_d8_44) rfl ?_
  rw [show ((21 : Int32) + (6 : Int32)) = (27 : Int32) from by decide]
  refine gbipush X hx (115 : Int32) 47 (hb hby own_d8_45) rfl rfl ?_
  refine gcastore X hx hZ eT V18 (by decide) (by decide) 27 rfl (Nat.le_of_ble_eq_true rfl) N ge_ar 48 (hb hby own_d8_47) rfl ?_
  clear X eT N; clear T; intro T h20 L X eT N W19 V21
  replace K0 := K0.wr W19 (Or.inl (List.mem_of_getElem? (i := 0) rfl))
  replace sz_h : h0.size ≤ h20.size := by rw [Wr.size W19]; exact sz_h
  replace V21 : Arv Z h20 ar ka .char (32 : Int32) [y0, y1, y2, y3, y4, y5, y6, y7, y8, y9, y10, y11, y12, y13, y14, y15, y16, y17, y18, y19, y20, (.int 32), (.int 105), (.int 115), (.int 32), (.int 109), (.int 105), (.int 115), y28, y29, y30, y31] (.int 0) := V21
  refine galoadN (v := (.ref ar)) X hx 49 (hb hby own_d8_48) rfl rfl rfl ?_
  refine giloadN (v := (21 : Int32)) X hx 50 (hb hby own_d8_49) rfl rfl ?_
  refine gbipush X hx (7 : Int32) 52 (hb hby own_d8_50) rfl rfl ?_
  refine giadd X hx 53 (hb hby own_d8_52) rfl ?_
  rw [show ((21 : Int32) + (7 : Int32)) = (28 : Int32) from by decide]
  refine gbipush X hx (115 : Int32) 55 (hb hby own_d8_53) rfl rfl ?_
  refine gcastore X hx hZ eT V21 (by decide) (by decide) 28 rfl (Nat.le_of_ble_eq_true rfl) N ge_ar 56 (hb hby own_d8_55) rfl ?_
  clear X eT N; clear T; intro T h23 L X eT N W22 V24
  replace K0 := K0.wr W22 (Or.inl (List.mem_of_getElem? (i := 0) rfl))
  replace sz_h : h0.size ≤ h23.size := by rw [Wr.size W22]; exact sz_h
  replace V24 : Arv Z h23 ar ka .char (32 : Int32) [y0, y1, y2, y3, y4, y5, y6, y7, y8, y9, y10, y11, y12, y13, y14, y15, y16, y17, y18, y19, y20, (.int 32), (.int 105), (.int 115), (.int 32), (.int 109), (.int 105), (.int 115), (.int 115), y29, y30, y31] (.int 0) := V24
  refine galoadN (v := (.ref ar)) X hx 57 (hb hby own_d8_56) rfl rfl rfl ?_
  refine giloadN (v := (21 : Int32)) X hx 58 (hb hby own_d8_57) rfl rfl ?_
  refine gbipush X hx (8 : Int32) 60 (hb hby own_d8_58) rfl rfl ?_
  refine giadd X hx 61 (hb hby own_d8_60) rfl ?_
  rw [show ((21 : Int32) + (8 : Int32)) = (29 : Int32) from by decide]
  refine gbipush X hx (105 : Int32) 63 (hb hby own_d8_61) rfl rfl ?_
  refine gcastore X hx hZ eT V24 (by decide) (by decide) 29 rfl (Nat.le_of_ble_eq_true rfl) N ge_ar 64 (hb hby own_d8_63) rfl ?_
  clear X eT N; clear T; intro T h26 L X eT N W25 V27
  replace K0 := K0.wr W25 (Or.inl (List.mem_of_getElem? (i := 0) rfl))
  replace sz_h : h0.size ≤ h26.size := by rw [Wr.size W25]; exact sz_h
  replace V27 : Arv Z h26 ar ka .char (32 : Int32) [y0, y1, y2, y3, y4, y5, y6, y7, y8, y9, y10, y11, y12, y13, y14, y15, y16, y17, y18, y19, y20, (.int 32), (.int 105), (.int 115), (.int 32), (.int 109), (.int 105), (.int 115), (.int 115), (.int 105), y30, y31] (.int 0) := V27
  refine galoadN (v := (.ref ar)) X hx 65 (hb hby own_d8_64) rfl rfl rfl ?_
  refine giloadN (v := (21 : Int32)) X hx 66 (hb hby own_d8_65) rfl rfl ?_
  refine gbipush X hx (9 : Int32) 68 (hb hby own_d8_66) rfl rfl ?_
  refine giadd X hx 69 (hb hby own_d8_68) rfl ?_
  rw [show ((21 : Int32) + (9 : Int32)) = (30 : Int32) from by decide]
  refine gbipush X hx (110 : Int32) 71 (hb hby own_d8_69) rfl rfl ?_
  refine gcastore X hx hZ eT V27 (by decide) (by decide) 30 rfl (Nat.le_of_ble_eq_true rfl) N ge_ar 72 (hb hby own_d8_71) rfl ?_
  clear X eT N; clear T; intro T h29 L X eT N W28 V30
  replace K0 := K0.wr W28 (Or.inl (List.mem_of_getElem? (i := 0) rfl))
  replace sz_h : h0.size ≤ h29.size := by rw [Wr.size W28]; exact sz_h
  replace V30 : Arv Z h29 ar ka .char (32 : Int32) [y0, y1, y2, y3, y4, y5, y6, y7, y8, y9, y10, y11, y12, y13, y14, y15, y16, y17, y18, y19, y20, (.int 32), (.int 105), (.int 115), (.int 32), (.int 109), (.int 105), (.int 115), (.int 115), (.int 105), (.int 110), y31] (.int 0) := V30
  refine galoadN (v := (.ref ar)) X hx 73 (hb hby own_d8_72) rfl rfl rfl ?_
  refine giloadN (v := (21 : Int32)) X hx 74 (hb hby own_d8_73) rfl rfl ?_
  refine gbipush X hx (10 : Int32) 76 (hb hby own_d8_74) rfl rfl ?_
  refine giadd X hx 77 (hb hby own_d8_76) rfl ?_
  rw [show ((21 : Int32) + (10 : Int32)) = (31 : Int32) from by decide]
  refine gbipush X hx (103 : Int32) 79 (hb hby own_d8_77) rfl rfl ?_
  refine gcastore X hx hZ eT V30 (by decide) (by decide) 31 rfl (Nat.le_of_ble_eq_true rfl) N ge_ar 80 (hb hby own_d8_79) rfl ?_
  clear X eT N; clear T; intro T h32 L X eT N W31 V33
  replace K0 := K0.wr W31 (Or.inl (List.mem_of_getElem? (i := 0) rfl))
  replace sz_h : h0.size ≤ h32.size := by rw [Wr.size W31]; exact sz_h
  replace V33 : Arv Z h32 ar ka .char (32 : Int32) [y0, y1, y2, y3, y4, y5, y6, y7, y8, y9, y10, y11, y12, y13, y14, y15, y16, y17, y18, y19, y20, (.int 32), (.int 105), (.int 115), (.int 32), (.int 109), (.int 105), (.int 115), (.int 115), (.int 105), (.int 110), (.int 103)] (.int 0) := V33
  exact gRetP0 X hx hlk hret (hb hby own_d8_80) eT (by decide) (by decide) ⟨rfl, N, K0, V33⟩
set_option maxRecDepth 65536 in
set_option maxHeartbeats 40000000 in
theorem rm10 (l : Launch) (Z : State) (a0 : Array Value) (hw : HW_ a0 Z) (q0 : Addr) (h0 : Heap) (n0 : Nat) (Z0 : n0 ≤ h0.size) :
    CtP l (⟨"java/lang/Record", "<init>", "()V"⟩ : MethodName) jdk_30_method_1_code 1 none [] ({ frames := 1, cells := 0, slots := 0, locals := 12 } : Room) Z #[(.ref q0)] h0 (fun v h L => v = none ∧ Fr n0 L ∧ h = h0) := by
  refine CtP.walk (Ls := #[.val (.ref q0)]) (plainFor_of_name own_pn12) (fun m => by first | (simp [entryFrame, mkF, argsToLocals, Value.category]; done) | rfl) ?_
  intro p e s m below meth cc_ T hx hby hml hown hnm hret hlk hZ X eT
  have N := Fr.nil n0
  have sz_h : h0.size ≤ h0.size := Nat.le_refl _
  refine galoadN (v := (.ref q0)) X hx 1 (hb hby own_d10_0) rfl rfl rfl ?_
  refine ginitO X hx hZ hown (own_w48 hw) (own_w12 hw) (own_w13 hw) eT (by rw [hml]; rfl) (by decide) 0 (Nat.le_of_eq rfl) (by decide) 4 (hb hby own_d10_1) rfl ?_
  clear X eT; clear T; intro T X eT
  exact gRetP0 X hx hlk hret (hb hby own_d10_4) eT (by decide) (by decide) ⟨rfl, N, rfl⟩
set_option maxRecDepth 65536 in
set_option maxHeartbeats 40000000 in
theorem rm11 (l : Launch) (Z : State) (a0 : Array Value) (hw : HW_ a0 Z) (x : Addr) (y : Addr) (h0 : Heap) (n0 : Nat) (Z0 : n0 ≤ h0.size) :
    CtP l (⟨"java/util/Objects", "requireNonNull", "(Ljava/lang/Object;Ljava/lang/String;)Ljava/lang/Object;"⟩ : MethodName) jdk_31_method_11_code 2 (some (.object "java/lang/Object")) [] ({ frames := 0, cells := 0, slots := 0, locals := 0 } : Room) Z #[(.ref x), (.ref y)] h0 (fun v h L => v = some (.ref x) ∧ Fr n0 L ∧ h = h0) := by
  refine CtP.walk (Ls := #[.val (.ref x), .val (.ref y)]) (plainFor_of_name own_pn13) (fun m => by first | (simp [entryFrame, mkF, argsToLocals, Value.category]; done) | rfl) ?_
  intro p e s m below meth cc_ T hx hby hml hown hnm hret hlk hZ X eT
  have N := Fr.nil n0
  have sz_h : h0.size ≤ h0.size := Nat.le_refl _
  refine galoadN (v := (.ref x)) X hx 1 (hb hby own_d11_0) rfl rfl rfl ?_
  refine gifnonnullYes X hx 13 (hb hby own_d11_1) (by decide) (by decide) ?_
  refine galoadN (v := (.ref x)) X hx 14 (hb hby own_d11_13) rfl rfl rfl ?_
  exact gRetP X hx hlk hret rfl (Or.inr (Or.inr (Or.inr (Or.inr ⟨rfl, rfl, rfl⟩)))) (hb hby own_d11_14) eT (by decide) (by decide) ⟨rfl, N, rfl⟩
set_option maxRecDepth 65536 in
set_option maxHeartbeats 40000000 in
theorem rmSP0 (l : Launch) (Z : State) (a0 : Array Value) (hw : HW_ a0 Z) (q0 : Addr) (xt : Addr) (h0 : Heap) (n0 : Nat) (Z0 : n0 ≤ h0.size) (ge_q0 : n0 ≤ q0) (P0_Exa : Exa Z h0 q0 "com/example/sessionsmith/sessionsmith/SchemaProblem") (P1_Fld : Fld Z h0 q0 "com/example/sessionsmith/sessionsmith/SchemaProblem" "table" "Ljava/lang/String;" .null) (P2_Fld : Fld Z h0 q0 "com/example/sessionsmith/sessionsmith/SchemaProblem" "column" "Ljava/lang/String;" .null) :
    CtS l (⟨"com/example/sessionsmith/sessionsmith/SchemaProblem", "<init>", "(Ljava/lang/String;Ljava/lang/String;)V"⟩ : MethodName) prog_8_method_1_code 3 none [] ({ frames := 2, cells := 2, slots := 24, locals := 24 } : Room) Z own_EL [] #[(.ref q0), (.ref xt), .null] h0 (fun v h L => v = none ∧ Fr n0 L ∧ Keep h0 h [q0] ∧ Fld Z h q0 "com/example/sessionsmith/sessionsmith/SchemaProblem" "table" "Ljava/lang/String;" (.ref xt) ∧ Fld Z h q0 "com/example/sessionsmith/sessionsmith/SchemaProblem" "column" "Ljava/lang/String;" .null) := by
  refine CtS.walk (Ls := #[.val (.ref q0), .val (.ref xt), .val .null]) (plainFor_of_name own_pn14) (fun m => by first | (simp [entryFrame, mkF, argsToLocals, Value.category]; done) | rfl) ?_
  intro p e s m below meth cc_ T vm k0 hx hby hml hown hnm hret hlk hZ X eT hS hk C hSL
  have N := Fr.nil n0
  have K0 := Keep.refl h0 [q0]
  have sz_h : h0.size ≤ h0.size := Nat.le_refl _
  refine galoadN (v := (.ref q0)) X hx 1 (hb hby own_d9_0) rfl rfl rfl ?_
  refine gspecial (y := (⟨"java/lang/Record", "<init>", "()V"⟩ : MethodName)) (a := q0) (argsL := []) (st := []) X hx hZ hown rfl (own_w43 hw) (own_w44 hw) (own_w47 hw) (by decide) (payP (W := 0) (rm10 l Z a0 hw (q0) h0 n0 (Nat.le_trans Z0 sz_h)) hZ (own_w47 hw) (own_w46 hw) (by decide) (by decide)) eT (by rw [hml]; rfl) (lenOf own_pd17 rfl) rfl (Nat.le_of_eq rfl) 0 0 rfl rfl (by decide) (by decide) 4 (hb hby own_d9_1) rfl ?_
  clear X eT; clear T; intro v T h1 L2 Lc X eT hL hQ2
  obtain ⟨rfl, Nq, hh⟩ := hQ2
  replace N : Fr n0 L2 := by rw [hL]; exact Fr.app N Nq
  clear Nq hL
  replace hh := hh.symm; subst hh
  show Go p e below _ T (mkF m 4 #[.val (.ref q0), .val (.ref xt), .val .null] [])
  refine galoadN (v := (.ref xt)) X hx 5 (hb hby own_d9_4) rfl rfl rfl ?_
  refine gldcV X hx hZ hown (own_w49 hw) (own_wS hw) eT hS hk (own_EW hw) own_mem49 C.1 [(.int 116), (.int 97), (.int 98), (.int 108), (.int 101)] (5 : Int32) (by decide +kernel) (by decide) rfl 20 (by decide) (by decide) 2 24 rfl rfl (by decide) (by decide) 7 (hb hby own_d9_5) rfl ?_
  clear X eT hS hk hZ hown; clear T k0; intro c6 T h5 vm k0 t14 kb15 X eT E7 hS hk hZ hown CR8 Li9 A10 F11 F12 V13 ns16
  replace P0_Exa := P0_Exa.ext E7
  replace P1_Fld := P1_Fld.ext E7
  replace P2_Fld := P2_Fld.ext E7
  replace K0 := K0.ext E7
  replace C := C.trans CR8
  replace sz_h : h0.size ≤ h5.size := Nat.le_trans sz_h E7.1
  show Go p e below _ T (mkF m 7 #[.val (.ref q0), .val (.ref xt), .val .null] [(.ref c6), (.ref xt)])
  refine gstatic (y := (⟨"java/util/Objects", "requireNonNull", "(Ljava/lang/Object;Ljava/lang/String;)Ljava/lang/Object;"⟩ : MethodName)) (argsL := [(.ref xt), (.ref c6)]) (st := []) X hx hZ hown (own_w52 hw) (own_w53 hw) (own_w54 hw) (own_w55 hw) (by decide) (payP (W := 0) (rm11 l Z a0 hw (xt) (c6) h5 n0 (Nat.le_trans Z0 sz_h)) hZ (own_w55 hw) (own_w54 hw) (by decide) (by decide)) eT (by rw [hml]; rfl) (lenOf own_pd18 rfl) rfl (Nat.le_of_eq rfl) 2 24 rfl rfl (by decide) (by decide) 10 (hb hby own_d9_7) rfl ?_
  clear X eT; clear T; intro v T h17 L2 Lc X eT hL hQ18
  obtain ⟨rfl, Nq, hh⟩ := hQ18
  replace N : Fr n0 L2 := by rw [hL]; exact Fr.app N Nq
  clear Nq hL
  replace hh := hh.symm; subst hh
  show Go p e below _ T (mkF m 10 #[.val (.ref q0), .val (.ref xt), .val .null] [(.ref xt)])
  refine gpop X hx 11 (hb hby own_d9_10) rfl rfl ?_
  refine galoadN (v := (.ref q0)) X hx 12 (hb hby own_d9_11) rfl rfl rfl ?_
  refine galoadN (v := (.ref xt)) X hx 13 (hb hby own_d9_12) rfl rfl rfl ?_
  refine gputF X hx hZ (host := "") hown (Or.inl (own_w56 hw)) Via.refl eT P1_Fld P0_Exa (Or.inr ⟨(own_w57 hw), rfl, hnm⟩) (own_w38 hw) (ty := (.object "java/lang/String")) own_pf3 rfl rfl N ge_q0 16 (hb hby own_d9_13) rfl ?_
  clear X eT N; clear T; intro T h21 L X eT N W22
  have ne_c6_q0 : c6 ≠ q0 := ne_exa A10 P0_Exa (by decide)
  have ne_t14_q0 : t14 ≠ q0 := Ne.symm (Exa.neArv P0_Exa V13 (own_w38 hw))
  have sfw := (Safe.exa (EL := own_EL) (vm := vm) hZ.alike P0_Exa (by decide) (by decide))
  replace P0_Exa := P0_Exa.wr W22
  replace P1_Fld := P1_Fld.same W22
  replace P2_Fld := P2_Fld.other W22 (Or.inr (slot_ne (Or.inr (own_w59 hw)) (Or.inr (own_w57 hw)) (by decide) own_pf3 own_pf3))
  replace A10 := A10.wr W22
  replace F11 := F11.other W22 (Or.inl ne_c6_q0)
  replace F12 := F12.other W22 (Or.inl ne_c6_q0)
  replace V13 := V13.other W22 ne_t14_q0
  replace K0 := K0.wr W22 (Or.inl (List.mem_of_getElem? (i := 0) rfl))
  replace C := C.trans (CHr.wr W22 sfw C.1)
  replace hk : k0 ≤ h21.size := by rw [Wr.size W22]; exact hk
  replace sz_h : h0.size ≤ h21.size := by rw [Wr.size W22]; exact sz_h
  refine galoadN (v := (.ref q0)) X hx 17 (hb hby own_d9_16) rfl rfl rfl ?_
  refine galoadN (v := .null) X hx 18 (hb hby own_d9_17) rfl rfl rfl ?_
  refine gputF X hx hZ (host := "") hown (Or.inl (own_w58 hw)) Via.refl eT P2_Fld P0_Exa (Or.inr ⟨(own_w59 hw), rfl, hnm⟩) (own_w38 hw) (ty := (.object "java/lang/String")) own_pf3 rfl rfl N ge_q0 21 (hb hby own_d9_18) rfl ?_
  clear X eT N; clear T; intro T h23 L X eT N W24
  have sfw := (Safe.exa (EL := own_EL) (vm := vm) hZ.alike P0_Exa (by decide) (by decide))
  replace P0_Exa := P0_Exa.wr W24
  replace P1_Fld := P1_Fld.other W24 (Or.inr (slot_ne (Or.inr (own_w57 hw)) (Or.inr (own_w59 hw)) (by decide) own_pf3 own_pf3))
  replace P2_Fld := P2_Fld.same W24
  replace A10 := A10.wr W24
  replace F11 := F11.other W24 (Or.inl ne_c6_q0)
  replace F12 := F12.other W24 (Or.inl ne_c6_q0)
  replace V13 := V13.other W24 ne_t14_q0
  replace K0 := K0.wr W24 (Or.inl (List.mem_of_getElem? (i := 0) rfl))
  replace C := C.trans (CHr.wr W24 sfw C.1)
  replace hk : k0 ≤ h23.size := by rw [Wr.size W24]; exact hk
  replace sz_h : h0.size ≤ h23.size := by rw [Wr.size W24]; exact sz_h
  exact gRetS0 X hx hlk hret (hb hby own_d9_21) eT hS hk hZ (own_EW hw) C (by decide) (by decide) ⟨rfl, N, K0, P1_Fld, P2_Fld⟩
set_option maxRecDepth 65536 in
set_option maxHeartbeats 40000000 in
theorem rmSP1 (l : Launch) (Z : State) (a0 : Array Value) (hw : HW_ a0 Z) (q0 : Addr) (xt : Addr) (xc : Addr) (h0 : Heap) (n0 : Nat) (Z0 : n0 ≤ h0.size) (ge_q0 : n0 ≤ q0) (P0_Exa : Exa Z h0 q0 "com/example/sessionsmith/sessionsmith/SchemaProblem") (P1_Fld : Fld Z h0 q0 "com/example/sessionsmith/sessionsmith/SchemaProblem" "table" "Ljava/lang/String;" .null) (P2_Fld : Fld Z h0 q0 "com/example/sessionsmith/sessionsmith/SchemaProblem" "column" "Ljava/lang/String;" .null) :
    CtS l (⟨"com/example/sessionsmith/sessionsmith/SchemaProblem", "<init>", "(Ljava/lang/String;Ljava/lang/String;)V"⟩ : MethodName) prog_8_method_1_code 3 none [] ({ frames := 2, cells := 2, slots := 24, locals := 24 } : Room) Z own_EL [] #[(.ref q0), (.ref xt), (.ref xc)] h0 (fun v h L => v = none ∧ Fr n0 L ∧ Keep h0 h [q0] ∧ Fld Z h q0 "com/example/sessionsmith/sessionsmith/SchemaProblem" "table" "Ljava/lang/String;" (.ref xt) ∧ Fld Z h q0 "com/example/sessionsmith/sessionsmith/SchemaProblem" "column" "Ljava/lang/String;" (.ref xc)) := by
  refine CtS.walk (Ls := #[.val (.ref q0), .val (.ref xt), .val (.ref xc)]) (plainFor_of_name own_pn14) (fun m => by first | (simp [entryFrame, mkF, argsToLocals, Value.category]; done) | rfl) ?_
  intro p e s m below meth cc_ T vm k0 hx hby hml hown hnm hret hlk hZ X eT hS hk C hSL
  have N := Fr.nil n0
  have K0 := Keep.refl h0 [q0]
  have sz_h : h0.size ≤ h0.size := Nat.le_refl _
  refine galoadN (v := (.ref q0)) X hx 1 (hb hby own_d9_0) rfl rfl rfl ?_
  refine gspecial (y := (⟨"java/lang/Record", "<init>", "()V"⟩ : MethodName)) (a := q0) (argsL := []) (st := []) X hx hZ hown rfl (own_w43 hw) (own_w44 hw) (own_w47 hw) (by decide) (payP (W := 0) (rm10 l Z a0 hw (q0) h0 n0 (Nat.le_trans Z0 sz_h)) hZ (own_w47 hw) (own_w46 hw) (by decide) (by decide)) eT (by rw [hml]; rfl) (lenOf own_pd17 rfl) rfl (Nat.le_of_eq rfl) 0 0 rfl rfl (by decide) (by decide) 4 (hb hby own_d9_1) rfl ?_
  clear X eT; clear T; intro v T h1 L2 Lc X eT hL hQ2
  obtain ⟨rfl, Nq, hh⟩ := hQ2
  replace N : Fr n0 L2 := by rw [hL]; exact Fr.app N Nq
  clear Nq hL
  replace hh := hh.symm; subst hh
  show Go p e below _ T (mkF m 4 #[.val (.ref q0), .val (.ref xt), .val (.ref xc)] [])
  refine galoadN (v := (.ref xt)) X hx 5 (hb hby own_d9_4) rfl rfl rfl ?_
  refine gldcV X hx hZ hown (own_w49 hw) (own_wS hw) eT hS hk (own_EW hw) own_mem49 C.1 [(.int 116), (.int 97), (.int 98), (.int 108), (.int 101)] (5 : Int32) (by decide +kernel) (by decide) rfl 20 (by decide) (by decide) 2 24 rfl rfl (by decide) (by decide) 7 (hb hby own_d9_5) rfl ?_
  clear X eT hS hk hZ hown; clear T k0; intro c6 T h5 vm k0 t14 kb15 X eT E7 hS hk hZ hown CR8 Li9 A10 F11 F12 V13 ns16
  replace P0_Exa := P0_Exa.ext E7
  replace P1_Fld := P1_Fld.ext E7
  replace P2_Fld := P2_Fld.ext E7
  replace K0 := K0.ext E7
  replace C := C.trans CR8
  replace sz_h : h0.size ≤ h5.size := Nat.le_trans sz_h E7.1
  show Go p e below _ T (mkF m 7 #[.val (.ref q0), .val (.ref xt), .val (.ref xc)] [(.ref c6), (.ref xt)])
  refine gstatic (y := (⟨"java/util/Objects", "requireNonNull", "(Ljava/lang/Object;Ljava/lang/String;)Ljava/lang/Object;"⟩ : MethodName)) (argsL := [(.ref xt), (.ref c6)]) (st := []) X hx hZ hown (own_w52 hw) (own_w53 hw) (own_w54 hw) (own_w55 hw) (by decide) (payP (W := 0) (rm11 l Z a0 hw (xt) (c6) h5 n0 (Nat.le_trans Z0 sz_h)) hZ (own_w55 hw) (own_w54 hw) (by decide) (by decide)) eT (by rw [hml]; rfl) (lenOf own_pd18 rfl) rfl (Nat.le_of_eq rfl) 2 24 rfl rfl (by decide) (by decide) 10 (hb hby own_d9_7) rfl ?_
  clear X eT; clear T; intro v T h17 L2 Lc X eT hL hQ18
  obtain ⟨rfl, Nq, hh⟩ := hQ18
  replace N : Fr n0 L2 := by rw [hL]; exact Fr.app N Nq
  clear Nq hL
  replace hh := hh.symm; subst hh
  show Go p e below _ T (mkF m 10 #[.val (.ref q0), .val (.ref xt), .val (.ref xc)] [(.ref xt)])
  refine gpop X hx 11 (hb hby own_d9_10) rfl rfl ?_
  refine galoadN (v := (.ref q0)) X hx 12 (hb hby own_d9_11) rfl rfl rfl ?_
  refine galoadN (v := (.ref xt)) X hx 13 (hb hby own_d9_12) rfl rfl rfl ?_
  refine gputF X hx hZ (host := "") hown (Or.inl (own_w56 hw)) Via.refl eT P1_Fld P0_Exa (Or.inr ⟨(own_w57 hw), rfl, hnm⟩) (own_w38 hw) (ty := (.object "java/lang/String")) own_pf3 rfl rfl N ge_q0 16 (hb hby own_d9_13) rfl ?_
  clear X eT N; clear T; intro T h21 L X eT N W22
  have ne_c6_q0 : c6 ≠ q0 := ne_exa A10 P0_Exa (by decide)
  have ne_t14_q0 : t14 ≠ q0 := Ne.symm (Exa.neArv P0_Exa V13 (own_w38 hw))
  have sfw := (Safe.exa (EL := own_EL) (vm := vm) hZ.alike P0_Exa (by decide) (by decide))
  replace P0_Exa := P0_Exa.wr W22
  replace P1_Fld := P1_Fld.same W22
  replace P2_Fld := P2_Fld.other W22 (Or.inr (slot_ne (Or.inr (own_w59 hw)) (Or.inr (own_w57 hw)) (by decide) own_pf3 own_pf3))
  replace A10 := A10.wr W22
  replace F11 := F11.other W22 (Or.inl ne_c6_q0)
  replace F12 := F12.other W22 (Or.inl ne_c6_q0)
  replace V13 := V13.other W22 ne_t14_q0
  replace K0 := K0.wr W22 (Or.inl (List.mem_of_getElem? (i := 0) rfl))
  replace C := C.trans (CHr.wr W22 sfw C.1)
  replace hk : k0 ≤ h21.size := by rw [Wr.size W22]; exact hk
  replace sz_h : h0.size ≤ h21.size := by rw [Wr.size W22]; exact sz_h
  refine galoadN (v := (.ref q0)) X hx 17 (hb hby own_d9_16) rfl rfl rfl ?_
  refine galoadN (v := (.ref xc)) X hx 18 (hb hby own_d9_17) rfl rfl rfl ?_
  refine gputF X hx hZ (host := "") hown (Or.inl (own_w58 hw)) Via.refl eT P2_Fld P0_Exa (Or.inr ⟨(own_w59 hw), rfl, hnm⟩) (own_w38 hw) (ty := (.object "java/lang/String")) own_pf3 rfl rfl N ge_q0 21 (hb hby own_d9_18) rfl ?_
  clear X eT N; clear T; intro T h23 L X eT N W24
  have sfw := (Safe.exa (EL := own_EL) (vm := vm) hZ.alike P0_Exa (by decide) (by decide))
  replace P0_Exa := P0_Exa.wr W24
  replace P1_Fld := P1_Fld.other W24 (Or.inr (slot_ne (Or.inr (own_w57 hw)) (Or.inr (own_w59 hw)) (by decide) own_pf3 own_pf3))
  replace P2_Fld := P2_Fld.same W24
  replace A10 := A10.wr W24
  replace F11 := F11.other W24 (Or.inl ne_c6_q0)
  replace F12 := F12.other W24 (Or.inl ne_c6_q0)
  replace V13 := V13.other W24 ne_t14_q0
  replace K0 := K0.wr W24 (Or.inl (List.mem_of_getElem? (i := 0) rfl))
  replace C := C.trans (CHr.wr W24 sfw C.1)
  replace hk : k0 ≤ h23.size := by rw [Wr.size W24]; exact hk
  replace sz_h : h0.size ≤ h23.size := by rw [Wr.size W24]; exact sz_h
  exact gRetS0 X hx hlk hret (hb hby own_d9_21) eT hS hk hZ (own_EW hw) C (by decide) (by decide) ⟨rfl, N, K0, P1_Fld, P2_Fld⟩
set_option maxRecDepth 65536 in
set_option maxHeartbeats 40000000 in
theorem rmPS0 (l : Launch) (Z : State) (a0 : Array Value) (hw : HW_ a0 Z) (q0 : Addr) (xt : Addr) (tt : Addr) (kt : ClassId) (u0 : Int32) (u1 : Int32) (G1 : Int32) (h0 : Heap) (n0 : Nat) (Z0 : n0 ≤ h0.size) (P0_Old : Old Z n0 h0) (P1_Exa : Exa Z h0 q0 "com/example/sessionsmith/sessionsmith/SchemaProblem") (P2_Fld : Fld Z h0 q0 "com/example/sessionsmith/sessionsmith/SchemaProblem" "table" "Ljava/lang/String;" (.ref xt)) (P3_Fld : Fld Z h0 q0 "com/example/sessionsmith/sessionsmith/SchemaProblem" "column" "Ljava/lang/String;" .null) (P4_Exa : Exa Z h0 xt "java/lang/String") (P5_Fld : Fld Z h0 xt "java/lang/String" "coder" "B" (.int 0)) (P6_Fld : Fld Z h0 xt "java/lang/String" "value" "[B" (.ref tt)) (P7_Arv : Arv Z h0 tt kt .byte (2 : Int32) [(.int u0), (.int u1)] (.int 0)) (O2 : Sta Z Z.heap "java/lang/String" "COMPACT_STRINGS" "Z" (.int G1)) (P5 : ¬ G1 = (0 : Int32)) :
    CtS l (⟨"com/example/sessionsmith/sessionsmith/SchemaProblem", "toString", "()Ljava/lang/String;"⟩ : MethodName) prog_8_method_2_code 1 (some (.object "java/lang/String")) [] ({ frames := 6, cells := 9, slots := 153, locals := 91 } : Room) Z own_EL [] #[(.ref q0)] h0 (fun v h L => ∃ (xr : Addr), ∃ (tr : Addr), ∃ (kr : ClassId), v = some (.ref xr) ∧ Fr n0 L ∧ Keep h0 h [] ∧ h0.size ≤ xr ∧ h0.size ≤ tr ∧ Exa Z h xr "java/lang/String" ∧ Fld Z h xr "java/lang/String" "coder" "B" (.int 0) ∧ Fld Z h xr "java/lang/String" "value" "[B" (.ref tr) ∧ Arv Z h tr kr .byte (19 : Int32) [(.int 116), (.int 97), (.int 98), (.int 108), (.int 101), (.int 32), (.int u0), (.int u1), (.int 32), (.int 105), (.int 115), (.int 32), (.int 109), (.int 105), (.int 115), (.int 115), (.int 105), (.int 110), (.int 103)] (.int 0)) := by
  refine CtS.walk (Ls := #[.val (.ref q0)]) (plainFor_of_name own_pn14) (fun m => by first | (simp [entryFrame, mkF, argsToLocals, Value.category]; done) | rfl) ?_
  intro p e s m below meth cc_ T vm k0 hx hby hml hown hnm hret hlk hZ X eT hS hk C hSL
  have N := Fr.nil n0
  have K0 := Keep.refl h0 []
  have sz_h : h0.size ≤ h0.size := Nat.le_refl _
  refine galoadN (v := (.ref q0)) X hx 1 (hb hby own_d12_0) rfl rfl rfl ?_
  refine ggetF X hx hZ (host := "") hown (Or.inl (own_w58 hw)) Via.refl eT P3_Fld 4 (hb hby own_d12_1) rfl ?_
  clear X eT; clear T; intro T X eT
  refine gifnonnullNo X hx 7 (hb hby own_d12_4) rfl ?_
  refine gnewO X hx hZ hown (own_w65 hw) (own_w66 hw) (own_w67 hw) eT 1 4 rfl rfl (by decide) (by decide) 10 (hb hby own_d12_7) rfl ?_
  clear X eT; clear T; intro T h1 b2 X eT ga E3 A4 D5
  have le_a := Nat.le_of_eq ga.symm
  have ne_q0_b2 : q0 ≠ b2 := Nat.ne_of_lt (Nat.lt_of_lt_of_le P1_Exa.lt le_a)
  have ne_b2_q0 : b2 ≠ q0 := Ne.symm ne_q0_b2
  have ne_xt_b2 : xt ≠ b2 := Nat.ne_of_lt (Nat.lt_of_lt_of_le P4_Exa.lt le_a)
  have ne_b2_xt : b2 ≠ xt := Ne.symm ne_xt_b2
  have ne_tt_b2 : tt ≠ b2 := Nat.ne_of_lt (Nat.lt_of_lt_of_le P7_Arv.lt le_a)
  have ne_b2_tt : b2 ≠ tt := Ne.symm ne_tt_b2
  have sz_b2 : h0.size ≤ b2 := Nat.le_trans sz_h le_a
  have ge_b2 : n0 ≤ b2 := Nat.le_trans Z0 sz_b2
  clear le_a ga
  replace P0_Old := P0_Old.ext E3
  replace P1_Exa := P1_Exa.ext E3
  replace P2_Fld := P2_Fld.ext E3
  replace P3_Fld := P3_Fld.ext E3
  replace P4_Exa := P4_Exa.ext E3
  replace P5_Fld := P5_Fld.ext E3
  replace P6_Fld := P6_Fld.ext E3
  replace P7_Arv := P7_Arv.ext E3
  replace K0 := K0.ext E3
  replace C := C.trans (CHr.ext E3 C.1)
  replace hk := Nat.le_trans hk E3.1
  replace sz_h : h0.size ≤ h1.size := Nat.le_trans sz_h E3.1
  have F_value_b2 : Fld Z h1 b2 "java/lang/AbstractStringBuilder" "value" "[B" .null := D5 (Or.inl (own_w80 hw)) (ty := (.array .byte)) own_pf0
  have F_coder_b2 : Fld Z h1 b2 "java/lang/AbstractStringBuilder" "coder" "B" (.int 0) := D5 (Or.inl (own_w82 hw)) (ty := .byte) own_pf1
  have F_count_b2 : Fld Z h1 b2 "java/lang/AbstractStringBuilder" "count" "I" (.int 0) := D5 (Or.inl (own_w105 hw)) (ty := .int) own_pf2
  clear D5
  refine gdup X hx 11 (hb hby own_d12_10) rfl rfl ?_
  refine gspecial (y := (⟨"java/lang/StringBuilder", "<init>", "()V"⟩ : MethodName)) (a := b2) (argsL := []) (st := [(.ref b2)]) X hx hZ hown rfl (own_w68 hw) (own_w69 hw) (own_w70 hw) (by decide) (payP (W := 1) (rm13 l Z a0 hw (b2) (G1) h1 n0 (Nat.le_trans Z0 sz_h) ge_b2 P0_Old A4 F_value_b2 F_coder_b2 F_count_b2 (O2) (P5)) hZ (own_w70 hw) (own_w67 hw) (by decide) (by decide)) eT (by rw [hml]; rfl) (lenOf own_pd17 rfl) rfl (Nat.le_of_eq rfl) 2 20 rfl rfl (by decide) (by decide) 14 (hb hby own_d12_11) rfl ?_
  clear X eT; clear T; intro v T h6 L2 Lc X eT hL hQ7
  obtain ⟨va_8, kv_9, rfl, Nq, K10, zz_va_8, G12, G13, G14, G15⟩ := hQ7
  replace N : Fr n0 L2 := by rw [hL]; exact Fr.app N Nq
  clear Nq hL
  have Sf_va_8 : Safe Z own_EL vm h1 va_8 := Safe.new zz_va_8
  have ne_q0_va_8 : q0 ≠ va_8 := Nat.ne_of_lt (Nat.lt_of_lt_of_le P1_Exa.lt zz_va_8)
  have ne_va_8_q0 : va_8 ≠ q0 := Ne.symm ne_q0_va_8
  have ne_xt_va_8 : xt ≠ va_8 := Nat.ne_of_lt (Nat.lt_of_lt_of_le P4_Exa.lt zz_va_8)
  have ne_va_8_xt : va_8 ≠ xt := Ne.symm ne_xt_va_8
  have ne_tt_va_8 : tt ≠ va_8 := Nat.ne_of_lt (Nat.lt_of_lt_of_le P7_Arv.lt zz_va_8)
  have ne_va_8_tt : va_8 ≠ tt := Ne.symm ne_tt_va_8
  have ne_b2_va_8 : b2 ≠ va_8 := Nat.ne_of_lt (Nat.lt_of_lt_of_le A4.lt zz_va_8)
  have ne_va_8_b2 : va_8 ≠ b2 := Ne.symm ne_b2_va_8
  have sz_va_8 : h0.size ≤ va_8 := Nat.le_trans sz_h zz_va_8
  have ge_va_8 : n0 ≤ va_8 := Nat.le_trans Z0 sz_va_8
  have sfs := (sfS (Safe.exa (EL := own_EL) (vm := vm) hZ.alike A4 (by decide) (by decide)) sf0)
  replace P0_Old := P0_Old.keep K10 (allS ge_b2 all0)
  replace P1_Exa := P1_Exa.keep K10
  replace P2_Fld := P2_Fld.keep K10 (ninS ne_q0_b2 nin0)
  replace P3_Fld := P3_Fld.keep K10 (ninS ne_q0_b2 nin0)
  replace P4_Exa := P4_Exa.keep K10
  replace P5_Fld := P5_Fld.keep K10 (ninS ne_xt_b2 nin0)
  replace P6_Fld := P6_Fld.keep K10 (ninS ne_xt_b2 nin0)
  replace P7_Arv := P7_Arv.keep K10 (ninS ne_tt_b2 nin0)
  replace A4 := A4.keep K10
  replace Sf_va_8 := Safe.keep K10 sfs C.1 Sf_va_8
  replace K0 := K0.trans K10 (allS (Or.inr sz_b2) all0)
  replace C := C.trans (CHr.keep K10 sfs C.1)
  replace hk := Nat.le_trans hk K10.1
  replace sz_h : h0.size ≤ h6.size := Nat.le_trans sz_h K10.1
  show Go p e below _ T (mkF m 14 #[.val (.ref q0)] [(.ref b2)])
  have lt_va_8 := G15.lt
  refine gldcV X hx hZ hown (own_w83 hw) (own_wS hw) eT hS hk (own_EW hw) own_mem83 C.1 [(.int 116), (.int 97), (.int 98), (.int 108), (.int 101), (.int 32)] (6 : Int32) (by decide +kernel) (by decide) rfl 24 (by decide) (by decide) 4 48 rfl rfl (by decide) (by decide) 16 (hb hby own_d12_14) rfl ?_
  clear X eT hS hk hZ hown; clear T k0; intro c17 T h16 vm k0 t25 kb26 X eT E18 hS hk hZ hown CR19 Li20 A21 F22 F23 V24 ns27
  replace P0_Old := P0_Old.ext E18
  replace P1_Exa := P1_Exa.ext E18
  replace P2_Fld := P2_Fld.ext E18
  replace P3_Fld := P3_Fld.ext E18
  replace P4_Exa := P4_Exa.ext E18
  replace P5_Fld := P5_Fld.ext E18
  replace P6_Fld := P6_Fld.ext E18
  replace P7_Arv := P7_Arv.ext E18
  replace A4 := A4.ext E18
  replace Sf_va_8 := CHr.safe CR19 lt_va_8 Sf_va_8
  replace G12 := G12.ext E18
  replace G13 := G13.ext E18
  replace G14 := G14.ext E18
  replace G15 := G15.ext E18
  replace K0 := K0.ext E18
  replace C := C.trans CR19
  replace sz_h : h0.size ≤ h16.size := Nat.le_trans sz_h E18.1
  have ne_va_8_c17 := (ns27 _ Sf_va_8).1
  have ne_c17_va_8 := Ne.symm ne_va_8_c17
  have ne_va_8_t25 := (ns27 _ Sf_va_8).2
  have ne_t25_va_8 := Ne.symm ne_va_8_t25
  show Go p e below _ T (mkF m 16 #[.val (.ref q0)] [(.ref c17), (.ref b2)])
  refine gvirtual (y := (⟨"java/lang/StringBuilder", "append", "(Ljava/lang/String;)Ljava/lang/StringBuilder;"⟩ : MethodName)) (z := (⟨"java/lang/StringBuilder", "append", "(Ljava/lang/String;)Ljava/lang/StringBuilder;"⟩ : MethodName)) (a := b2) (argsL := [(.ref c17)]) (st := []) X hx hZ hown (own_w84 hw) (own_w85 hw) (notFace_of_selects (args := #[]) (mvT hZ (own_w87 hw))) (own_w87 hw) (own_w86 hw) (by decide) A4 (payP (W := 0) (rmSA0_6_16 l Z a0 hw (b2) (c17) (t25) (va_8) (kb26) (kv_9) (G1) ((116 : Int32)) ((97 : Int32)) ((98 : Int32)) ((108 : Int32)) ((101 : Int32)) ((32 : Int32)) h16 n0 (Nat.le_trans Z0 sz_h) ge_b2 ge_va_8 P0_Old A4 G12 G13 G14 A21 F22 F23 V24 G15 (O2) (P5) (ne_t25_va_8)) hZ (own_w88 hw) (own_w67 hw) (by decide) (by decide)) eT (by rw [hml]; rfl) (lenOf own_pd19 rfl) rfl (Nat.le_of_eq rfl) 4 48 rfl rfl (by decide) (by decide) 19 (hb hby own_d12_16) rfl ?_
  clear X eT; clear T; intro v T h28 L2 Lc X eT hL hQ29
  obtain ⟨rfl, Nq, K30, G32, G33, G34, G35⟩ := hQ29
  replace N : Fr n0 L2 := by rw [hL]; exact Fr.app N Nq
  clear Nq hL
  have ne_c17_b2 : c17 ≠ b2 := ne_exa A21 A4 (by decide)
  have ne_t25_b2 : t25 ≠ b2 := Ne.symm (Exa.neArv A4 V24 (own_w66 hw))
  have sfs := (sfS (Safe.exa (EL := own_EL) (vm := vm) hZ.alike A4 (by decide) (by decide)) (sfS Sf_va_8 sf0))
  replace P0_Old := P0_Old.keep K30 (allS ge_b2 (allS ge_va_8 all0))
  replace P1_Exa := P1_Exa.keep K30
  replace P2_Fld := P2_Fld.keep K30 (ninS ne_q0_b2 (ninS ne_q0_va_8 nin0))
  replace P3_Fld := P3_Fld.keep K30 (ninS ne_q0_b2 (ninS ne_q0_va_8 nin0))
  replace P4_Exa := P4_Exa.keep K30
  replace P5_Fld := P5_Fld.keep K30 (ninS ne_xt_b2 (ninS ne_xt_va_8 nin0))
  replace P6_Fld := P6_Fld.keep K30 (ninS ne_xt_b2 (ninS ne_xt_va_8 nin0))
  replace P7_Arv := P7_Arv.keep K30 (ninS ne_tt_b2 (ninS ne_tt_va_8 nin0))
  replace A4 := A4.keep K30
  replace Sf_va_8 := Safe.keep K30 sfs C.1 Sf_va_8
  replace A21 := A21.keep K30
  replace F22 := F22.keep K30 (ninS ne_c17_b2 (ninS ne_c17_va_8 nin0))
  replace F23 := F23.keep K30 (ninS ne_c17_b2 (ninS ne_c17_va_8 nin0))
  replace V24 := V24.keep K30 (ninS ne_t25_b2 (ninS ne_t25_va_8 nin0))
  replace K0 := K0.trans K30 (allS (Or.inr sz_b2) (allS (Or.inr sz_va_8) all0))
  replace C := C.trans (CHr.keep K30 sfs C.1)
  replace hk := Nat.le_trans hk K30.1
  replace sz_h : h0.size ≤ h28.size := Nat.le_trans sz_h K30.1
  show Go p e below _ T (mkF m 19 #[.val (.ref q0)] [(.ref b2)])
  refine galoadN (v := (.ref q0)) X hx 20 (hb hby own_d12_19) rfl rfl rfl ?_
  refine ggetF X hx hZ (host := "") hown (Or.inl (own_w56 hw)) Via.refl eT P2_Fld 23 (hb hby own_d12_20) rfl ?_
  clear X eT; clear T; intro T X eT
  refine gvirtual (y := (⟨"java/lang/StringBuilder", "append", "(Ljava/lang/String;)Ljava/lang/StringBuilder;"⟩ : MethodName)) (z := (⟨"java/lang/StringBuilder", "append", "(Ljava/lang/String;)Ljava/lang/StringBuilder;"⟩ : MethodName)) (a := b2) (argsL := [(.ref xt)]) (st := []) X hx hZ hown (own_w84 hw) (own_w85 hw) (notFace_of_selects (args := #[]) (mvT hZ (own_w87 hw))) (own_w87 hw) (own_w86 hw) (by decide) A4 (payP (W := 0) (rmSA6_2_16 l Z a0 hw (b2) (xt) (tt) (va_8) (kt) (kv_9) (G1) ((116 : Int32)) ((97 : Int32)) ((98 : Int32)) ((108 : Int32)) ((101 : Int32)) ((32 : Int32)) (u0) (u1) h28 n0 (Nat.le_trans Z0 sz_h) ge_b2 ge_va_8 P0_Old A4 G32 G33 G34 P4_Exa P5_Fld P6_Fld P7_Arv G35 (O2) (P5) (ne_tt_va_8)) hZ (own_w88 hw) (own_w67 hw) (by decide) (by decide)) eT (by rw [hml]; rfl) (lenOf own_pd19 rfl) rfl (Nat.le_of_eq rfl) 4 48 rfl rfl (by decide) (by decide) 26 (hb hby own_d12_23) rfl ?_
  clear X eT; clear T; intro v T h36 L2 Lc X eT hL hQ37
  obtain ⟨rfl, Nq, K38, G40, G41, G42, G43⟩ := hQ37
  replace N : Fr n0 L2 := by rw [hL]; exact Fr.app N Nq
  clear Nq hL
  have sfs := (sfS (Safe.exa (EL := own_EL) (vm := vm) hZ.alike A4 (by decide) (by decide)) (sfS Sf_va_8 sf0))
  replace P0_Old := P0_Old.keep K38 (allS ge_b2 (allS ge_va_8 all0))
  replace P1_Exa := P1_Exa.keep K38
  replace P2_Fld := P2_Fld.keep K38 (ninS ne_q0_b2 (ninS ne_q0_va_8 nin0))
  replace P3_Fld := P3_Fld.keep K38 (ninS ne_q0_b2 (ninS ne_q0_va_8 nin0))
  replace P4_Exa := P4_Exa.keep K38
  replace P5_Fld := P5_Fld.keep K38 (ninS ne_xt_b2 (ninS ne_xt_va_8 nin0))
  replace P6_Fld := P6_Fld.keep K38 (ninS ne_xt_b2 (ninS ne_xt_va_8 nin0))
  replace P7_Arv := P7_Arv.keep K38 (ninS ne_tt_b2 (ninS ne_tt_va_8 nin0))
  replace A4 := A4.keep K38
  replace Sf_va_8 := Safe.keep K38 sfs C.1 Sf_va_8
  replace A21 := A21.keep K38
  replace F22 := F22.keep K38 (ninS ne_c17_b2 (ninS ne_c17_va_8 nin0))
  replace F23 := F23.keep K38 (ninS ne_c17_b2 (ninS ne_c17_va_8 nin0))
  replace V24 := V24.keep K38 (ninS ne_t25_b2 (ninS ne_t25_va_8 nin0))
  replace K0 := K0.trans K38 (allS (Or.inr sz_b2) (allS (Or.inr sz_va_8) all0))
  replace C := C.trans (CHr.keep K38 sfs C.1)
  replace hk := Nat.le_trans hk K38.1
  replace sz_h : h0.size ≤ h36.size := Nat.le_trans sz_h K38.1
  show Go p e below _ T (mkF m 26 #[.val (.ref q0)] [(.ref b2)])
  have lt_va_8 := G43.lt
  refine gldcV X hx hZ hown (own_w131 hw) (own_wS hw) eT hS hk (own_EW hw) own_mem131 C.1 [(.int 32), (.int 105), (.int 115), (.int 32), (.int 109), (.int 105), (.int 115), (.int 115), (.int 105), (.int 110), (.int 103)] (11 : Int32) (by decide +kernel) (by decide) rfl 44 (by decide) (by decide) 6 96 rfl rfl (by decide) (by decide) 28 (hb hby own_d12_26) rfl ?_
  clear X eT hS hk hZ hown; clear T k0; intro c45 T h44 vm k0 t53 kb54 X eT E46 hS hk hZ hown CR47 Li48 A49 F50 F51 V52 ns55
  replace P0_Old := P0_Old.ext E46
  replace P1_Exa := P1_Exa.ext E46
  replace P2_Fld := P2_Fld.ext E46
  replace P3_Fld := P3_Fld.ext E46
  replace P4_Exa := P4_Exa.ext E46
  replace P5_Fld := P5_Fld.ext E46
  replace P6_Fld := P6_Fld.ext E46
  replace P7_Arv := P7_Arv.ext E46
  replace A4 := A4.ext E46
  replace Sf_va_8 := CHr.safe CR47 lt_va_8 Sf_va_8
  replace A21 := A21.ext E46
  replace F22 := F22.ext E46
  replace F23 := F23.ext E46
  replace V24 := V24.ext E46
  replace G40 := G40.ext E46
  replace G41 := G41.ext E46
  replace G42 := G42.ext E46
  replace G43 := G43.ext E46
  replace K0 := K0.ext E46
  replace C := C.trans CR47
  replace sz_h : h0.size ≤ h44.size := Nat.le_trans sz_h E46.1
  have ne_va_8_c45 := (ns55 _ Sf_va_8).1
  have ne_c45_va_8 := Ne.symm ne_va_8_c45
  have ne_va_8_t53 := (ns55 _ Sf_va_8).2
  have ne_t53_va_8 := Ne.symm ne_va_8_t53
  show Go p e below _ T (mkF m 28 #[.val (.ref q0)] [(.ref c45), (.ref b2)])
  refine gvirtual (y := (⟨"java/lang/StringBuilder", "append", "(Ljava/lang/String;)Ljava/lang/StringBuilder;"⟩ : MethodName)) (z := (⟨"java/lang/StringBuilder", "append", "(Ljava/lang/String;)Ljava/lang/StringBuilder;"⟩ : MethodName)) (a := b2) (argsL := [(.ref c45)]) (st := []) X hx hZ hown (own_w84 hw) (own_w85 hw) (notFace_of_selects (args := #[]) (mvT hZ (own_w87 hw))) (own_w87 hw) (own_w86 hw) (by decide) A4 (payP (W := 0) (rmSA8_11_16 l Z a0 hw (b2) (c45) (t53) (va_8) (kb54) (kv_9) (G1) ((116 : Int32)) ((97 : Int32)) ((98 : Int32)) ((108 : Int32)) ((101 : Int32)) ((32 : Int32)) (u0) (u1) ((32 : Int32)) ((105 : Int32)) ((115 : Int32)) ((32 : Int32)) ((109 : Int32)) ((105 : Int32)) ((115 : Int32)) ((115 : Int32)) ((105 : Int32)) ((110 : Int32)) ((103 : Int32)) h44 n0 (Nat.le_trans Z0 sz_h) ge_b2 P0_Old A4 G40 G41 G42 A49 F50 F51 V52 G43 (O2) (P5)) hZ (own_w88 hw) (own_w67 hw) (by decide) (by decide)) eT (by rw [hml]; rfl) (lenOf own_pd19 rfl) rfl (Nat.le_of_eq rfl) 7 130 rfl rfl (by decide) (by decide) 31 (hb hby own_d12_28) rfl ?_
  clear X eT; clear T; intro v T h56 L2 Lc X eT hL hQ57
  obtain ⟨vb_58, kw_59, rfl, Nq, K60, zz_vb_58, G62, G63, G64, G65⟩ := hQ57
  replace N : Fr n0 L2 := by rw [hL]; exact Fr.app N Nq
  clear Nq hL
  have Sf_vb_58 : Safe Z own_EL vm h44 vb_58 := Safe.new zz_vb_58
  have ne_q0_vb_58 : q0 ≠ vb_58 := Nat.ne_of_lt (Nat.lt_of_lt_of_le P1_Exa.lt zz_vb_58)
  have ne_vb_58_q0 : vb_58 ≠ q0 := Ne.symm ne_q0_vb_58
  have ne_xt_vb_58 : xt ≠ vb_58 := Nat.ne_of_lt (Nat.lt_of_lt_of_le P4_Exa.lt zz_vb_58)
  have ne_vb_58_xt : vb_58 ≠ xt := Ne.symm ne_xt_vb_58
  have ne_tt_vb_58 : tt ≠ vb_58 := Nat.ne_of_lt (Nat.lt_of_lt_of_le P7_Arv.lt zz_vb_58)
  have ne_vb_58_tt : vb_58 ≠ tt := Ne.symm ne_tt_vb_58
  have ne_b2_vb_58 : b2 ≠ vb_58 := Nat.ne_of_lt (Nat.lt_of_lt_of_le A4.lt zz_vb_58)
  have ne_vb_58_b2 : vb_58 ≠ b2 := Ne.symm ne_b2_vb_58
  have ne_c17_vb_58 : c17 ≠ vb_58 := Nat.ne_of_lt (Nat.lt_of_lt_of_le A21.lt zz_vb_58)
  have ne_vb_58_c17 : vb_58 ≠ c17 := Ne.symm ne_c17_vb_58
  have ne_t25_vb_58 : t25 ≠ vb_58 := Nat.ne_of_lt (Nat.lt_of_lt_of_le V24.lt zz_vb_58)
  have ne_vb_58_t25 : vb_58 ≠ t25 := Ne.symm ne_t25_vb_58
  have ne_va_8_vb_58 : va_8 ≠ vb_58 := Nat.ne_of_lt (Nat.lt_of_lt_of_le G43.lt zz_vb_58)
  have ne_vb_58_va_8 : vb_58 ≠ va_8 := Ne.symm ne_va_8_vb_58
  have ne_c45_vb_58 : c45 ≠ vb_58 := Nat.ne_of_lt (Nat.lt_of_lt_of_le A49.lt zz_vb_58)
  have ne_vb_58_c45 : vb_58 ≠ c45 := Ne.symm ne_c45_vb_58
  have ne_t53_vb_58 : t53 ≠ vb_58 := Nat.ne_of_lt (Nat.lt_of_lt_of_le V52.lt zz_vb_58)
  have ne_vb_58_t53 : vb_58 ≠ t53 := Ne.symm ne_t53_vb_58
  have sz_vb_58 : h0.size ≤ vb_58 := Nat.le_trans sz_h zz_vb_58
  have ge_vb_58 : n0 ≤ vb_58 := Nat.le_trans Z0 sz_vb_58
  have ne_c45_b2 : c45 ≠ b2 := ne_exa A49 A4 (by decide)
  have ne_t53_b2 : t53 ≠ b2 := Ne.symm (Exa.neArv A4 V52 (own_w66 hw))
  have sfs := (sfS (Safe.exa (EL := own_EL) (vm := vm) hZ.alike A4 (by decide) (by decide)) sf0)
  replace P0_Old := P0_Old.keep K60 (allS ge_b2 all0)
  replace P1_Exa := P1_Exa.keep K60
  replace P2_Fld := P2_Fld.keep K60 (ninS ne_q0_b2 nin0)
  replace P3_Fld := P3_Fld.keep K60 (ninS ne_q0_b2 nin0)
  replace P4_Exa := P4_Exa.keep K60
  replace P5_Fld := P5_Fld.keep K60 (ninS ne_xt_b2 nin0)
  replace P6_Fld := P6_Fld.keep K60 (ninS ne_xt_b2 nin0)
  replace P7_Arv := P7_Arv.keep K60 (ninS ne_tt_b2 nin0)
  replace A4 := A4.keep K60
  replace Sf_va_8 := Safe.keep K60 sfs C.1 Sf_va_8
  replace A21 := A21.keep K60
  replace F22 := F22.keep K60 (ninS ne_c17_b2 nin0)
  replace F23 := F23.keep K60 (ninS ne_c17_b2 nin0)
  replace V24 := V24.keep K60 (ninS ne_t25_b2 nin0)
  replace G43 := G43.keep K60 (ninS ne_va_8_b2 nin0)
  replace A49 := A49.keep K60
  replace F50 := F50.keep K60 (ninS ne_c45_b2 nin0)
  replace F51 := F51.keep K60 (ninS ne_c45_b2 nin0)
  replace V52 := V52.keep K60 (ninS ne_t53_b2 nin0)
  replace Sf_vb_58 := Safe.keep K60 sfs C.1 Sf_vb_58
  replace K0 := K0.trans K60 (allS (Or.inr sz_b2) all0)
  replace C := C.trans (CHr.keep K60 sfs C.1)
  replace hk := Nat.le_trans hk K60.1
  replace sz_h : h0.size ≤ h56.size := Nat.le_trans sz_h K60.1
  show Go p e below _ T (mkF m 31 #[.val (.ref q0)] [(.ref b2)])
  refine gvirtual (y := (⟨"java/lang/StringBuilder", "toString", "()Ljava/lang/String;"⟩ : MethodName)) (z := (⟨"java/lang/StringBuilder", "toString", "()Ljava/lang/String;"⟩ : MethodName)) (a := b2) (argsL := []) (st := []) X hx hZ hown (own_w155 hw) (own_w156 hw) (notFace_of_selects (args := #[]) (mvT hZ (own_w158 hw))) (own_w158 hw) (own_w157 hw) (by decide) A4 (payP (W := 0) (rmTS19_34 l Z a0 hw (b2) (vb_58) (kw_59) (G1) ((116 : Int32)) ((97 : Int32)) ((98 : Int32)) ((108 : Int32)) ((101 : Int32)) ((32 : Int32)) (u0) (u1) ((32 : Int32)) ((105 : Int32)) ((115 : Int32)) ((32 : Int32)) ((109 : Int32)) ((105 : Int32)) ((115 : Int32)) ((115 : Int32)) ((105 : Int32)) ((110 : Int32)) ((103 : Int32)) h56 n0 (Nat.le_trans Z0 sz_h) P0_Old A4 G62 G63 G64 G65 (O2) (P5)) hZ (own_w159 hw) (own_w67 hw) (by decide) (by decide)) eT (by rw [hml]; rfl) (lenOf own_pd20 rfl) rfl (Nat.le_of_eq rfl) 9 153 rfl rfl (by decide) (by decide) 34 (hb hby own_d12_31) rfl ?_
  clear X eT; clear T; intro v T h66 L2 Lc X eT hL hQ67
  obtain ⟨x_68, tr_69, kr_70, rfl, Nq, K71, zz_x_68, zz_tr_69, G73, G74, G75, G76⟩ := hQ67
  replace N : Fr n0 L2 := by rw [hL]; exact Fr.app N Nq
  clear Nq hL
  have ne_q0_x_68 : q0 ≠ x_68 := Nat.ne_of_lt (Nat.lt_of_lt_of_le P1_Exa.lt zz_x_68)
  have ne_x_68_q0 : x_68 ≠ q0 := Ne.symm ne_q0_x_68
  have ne_xt_x_68 : xt ≠ x_68 := Nat.ne_of_lt (Nat.lt_of_lt_of_le P4_Exa.lt zz_x_68)
  have ne_x_68_xt : x_68 ≠ xt := Ne.symm ne_xt_x_68
  have ne_tt_x_68 : tt ≠ x_68 := Nat.ne_of_lt (Nat.lt_of_lt_of_le P7_Arv.lt zz_x_68)
  have ne_x_68_tt : x_68 ≠ tt := Ne.symm ne_tt_x_68
  have ne_b2_x_68 : b2 ≠ x_68 := Nat.ne_of_lt (Nat.lt_of_lt_of_le A4.lt zz_x_68)
  have ne_x_68_b2 : x_68 ≠ b2 := Ne.symm ne_b2_x_68
  have ne_c17_x_68 : c17 ≠ x_68 := Nat.ne_of_lt (Nat.lt_of_lt_of_le A21.lt zz_x_68)
  have ne_x_68_c17 : x_68 ≠ c17 := Ne.symm ne_c17_x_68
  have ne_t25_x_68 : t25 ≠ x_68 := Nat.ne_of_lt (Nat.lt_of_lt_of_le V24.lt zz_x_68)
  have ne_x_68_t25 : x_68 ≠ t25 := Ne.symm ne_t25_x_68
  have ne_va_8_x_68 : va_8 ≠ x_68 := Nat.ne_of_lt (Nat.lt_of_lt_of_le G43.lt zz_x_68)
  have ne_x_68_va_8 : x_68 ≠ va_8 := Ne.symm ne_va_8_x_68
  have ne_c45_x_68 : c45 ≠ x_68 := Nat.ne_of_lt (Nat.lt_of_lt_of_le A49.lt zz_x_68)
  have ne_x_68_c45 : x_68 ≠ c45 := Ne.symm ne_c45_x_68
  have ne_t53_x_68 : t53 ≠ x_68 := Nat.ne_of_lt (Nat.lt_of_lt_of_le V52.lt zz_x_68)
  have ne_x_68_t53 : x_68 ≠ t53 := Ne.symm ne_t53_x_68
  have ne_vb_58_x_68 : vb_58 ≠ x_68 := Nat.ne_of_lt (Nat.lt_of_lt_of_le G65.lt zz_x_68)
  have ne_x_68_vb_58 : x_68 ≠ vb_58 := Ne.symm ne_vb_58_x_68
  have sz_x_68 : h0.size ≤ x_68 := Nat.le_trans sz_h zz_x_68
  have ge_x_68 : n0 ≤ x_68 := Nat.le_trans Z0 sz_x_68
  have Sf_tr_69 : Safe Z own_EL vm h56 tr_69 := Safe.new zz_tr_69
  have ne_q0_tr_69 : q0 ≠ tr_69 := Nat.ne_of_lt (Nat.lt_of_lt_of_le P1_Exa.lt zz_tr_69)
  have ne_tr_69_q0 : tr_69 ≠ q0 := Ne.symm ne_q0_tr_69
  have ne_xt_tr_69 : xt ≠ tr_69 := Nat.ne_of_lt (Nat.lt_of_lt_of_le P4_Exa.lt zz_tr_69)
  have ne_tr_69_xt : tr_69 ≠ xt := Ne.symm ne_xt_tr_69
  have ne_tt_tr_69 : tt ≠ tr_69 := Nat.ne_of_lt (Nat.lt_of_lt_of_le P7_Arv.lt zz_tr_69)
  have ne_tr_69_tt : tr_69 ≠ tt := Ne.symm ne_tt_tr_69
  have ne_b2_tr_69 : b2 ≠ tr_69 := Nat.ne_of_lt (Nat.lt_of_lt_of_le A4.lt zz_tr_69)
  have ne_tr_69_b2 : tr_69 ≠ b2 := Ne.symm ne_b2_tr_69
  have ne_c17_tr_69 : c17 ≠ tr_69 := Nat.ne_of_lt (Nat.lt_of_lt_of_le A21.lt zz_tr_69)
  have ne_tr_69_c17 : tr_69 ≠ c17 := Ne.symm ne_c17_tr_69
  have ne_t25_tr_69 : t25 ≠ tr_69 := Nat.ne_of_lt (Nat.lt_of_lt_of_le V24.lt zz_tr_69)
  have ne_tr_69_t25 : tr_69 ≠ t25 := Ne.symm ne_t25_tr_69
  have ne_va_8_tr_69 : va_8 ≠ tr_69 := Nat.ne_of_lt (Nat.lt_of_lt_of_le G43.lt zz_tr_69)
  have ne_tr_69_va_8 : tr_69 ≠ va_8 := Ne.symm ne_va_8_tr_69
  have ne_c45_tr_69 : c45 ≠ tr_69 := Nat.ne_of_lt (Nat.lt_of_lt_of_le A49.lt zz_tr_69)
  have ne_tr_69_c45 : tr_69 ≠ c45 := Ne.symm ne_c45_tr_69
  have ne_t53_tr_69 : t53 ≠ tr_69 := Nat.ne_of_lt (Nat.lt_of_lt_of_le V52.lt zz_tr_69)
  have ne_tr_69_t53 : tr_69 ≠ t53 := Ne.symm ne_t53_tr_69
  have ne_vb_58_tr_69 : vb_58 ≠ tr_69 := Nat.ne_of_lt (Nat.lt_of_lt_of_le G65.lt zz_tr_69)
  have ne_tr_69_vb_58 : tr_69 ≠ vb_58 := Ne.symm ne_vb_58_tr_69
  have sz_tr_69 : h0.size ≤ tr_69 := Nat.le_trans sz_h zz_tr_69
  have ge_tr_69 : n0 ≤ tr_69 := Nat.le_trans Z0 sz_tr_69
  replace P0_Old := P0_Old.keep K71 all0
  replace P1_Exa := P1_Exa.keep K71
  replace P2_Fld := P2_Fld.keep K71 nin0
  replace P3_Fld := P3_Fld.keep K71 nin0
  replace P4_Exa := P4_Exa.keep K71
  replace P5_Fld := P5_Fld.keep K71 nin0
  replace P6_Fld := P6_Fld.keep K71 nin0
  replace P7_Arv := P7_Arv.keep K71 nin0
  replace A4 := A4.keep K71
  replace Sf_va_8 := Safe.keep K71 sf0 C.1 Sf_va_8
  replace A21 := A21.keep K71
  replace F22 := F22.keep K71 nin0
  replace F23 := F23.keep K71 nin0
  replace V24 := V24.keep K71 nin0
  replace G43 := G43.keep K71 nin0
  replace A49 := A49.keep K71
  replace F50 := F50.keep K71 nin0
  replace F51 := F51.keep K71 nin0
  replace V52 := V52.keep K71 nin0
  replace Sf_vb_58 := Safe.keep K71 sf0 C.1 Sf_vb_58
  replace G62 := G62.keep K71 nin0
  replace G63 := G63.keep K71 nin0
  replace G64 := G64.keep K71 nin0
  replace G65 := G65.keep K71 nin0
  replace Sf_tr_69 := Safe.keep K71 sf0 C.1 Sf_tr_69
  replace K0 := K0.trans K71 all0
  replace C := C.trans (CHr.keep K71 sf0 C.1)
  replace hk := Nat.le_trans hk K71.1
  replace sz_h : h0.size ≤ h66.size := Nat.le_trans sz_h K71.1
  show Go p e below _ T (mkF m 34 #[.val (.ref q0)] [(.ref x_68)])
  refine ggoto X hx 76 (hb hby own_d12_34) (by decide) (by decide) ?_
  exact gRetS X hx hlk hret rfl (Or.inr (Or.inr (Or.inr (Or.inr ⟨rfl, rfl, rfl⟩)))) (hb hby own_d12_76) eT hS hk hZ (own_EW hw) C (by decide) (by decide) ⟨x_68, tr_69, kr_70, rfl, N, K0, sz_x_68, sz_tr_69, G73, G74, G75, G76⟩
set_option maxRecDepth 65536 in
set_option maxHeartbeats 40000000 in
theorem rmPS1 (l : Launch) (Z : State) (a0 : Array Value) (hw : HW_ a0 Z) (q0 : Addr) (xt : Addr) (tt : Addr) (kt : ClassId) (u0 : Int32) (u1 : Int32) (xc : Addr) (tc : Addr) (kc : ClassId) (u2 : Int32) (u3 : Int32) (G1 : Int32) (h0 : Heap) (n0 : Nat) (Z0 : n0 ≤ h0.size) (P0_Old : Old Z n0 h0) (P1_Exa : Exa Z h0 q0 "com/example/sessionsmith/sessionsmith/SchemaProblem") (P2_Fld : Fld Z h0 q0 "com/example/sessionsmith/sessionsmith/SchemaProblem" "table" "Ljava/lang/String;" (.ref xt)) (P3_Fld : Fld Z h0 q0 "com/example/sessionsmith/sessionsmith/SchemaProblem" "column" "Ljava/lang/String;" (.ref xc)) (P4_Exa : Exa Z h0 xt "java/lang/String") (P5_Fld : Fld Z h0 xt "java/lang/String" "coder" "B" (.int 0)) (P6_Fld : Fld Z h0 xt "java/lang/String" "value" "[B" (.ref tt)) (P7_Arv : Arv Z h0 tt kt .byte (2 : Int32) [(.int u0), (.int u1)] (.int 0)) (P8_Exa : Exa Z h0 xc "java/lang/String") (P9_Fld : Fld Z h0 xc "java/lang/String" "coder" "B" (.int 0)) (P10_Fld : Fld Z h0 xc "java/lang/String" "value" "[B" (.ref tc)) (P11_Arv : Arv Z h0 tc kc .byte (2 : Int32) [(.int u2), (.int u3)] (.int 0)) (O2 : Sta Z Z.heap "java/lang/String" "COMPACT_STRINGS" "Z" (.int G1)) (P5 : ¬ G1 = (0 : Int32)) :
    CtS l (⟨"com/example/sessionsmith/sessionsmith/SchemaProblem", "toString", "()Ljava/lang/String;"⟩ : MethodName) prog_8_method_2_code 1 (some (.object "java/lang/String")) [] ({ frames := 6, cells := 11, slots := 214, locals := 91 } : Room) Z own_EL [] #[(.ref q0)] h0 (fun v h L => ∃ (xr : Addr), ∃ (tr : Addr), ∃ (kr : ClassId), v = some (.ref xr) ∧ Fr n0 L ∧ Keep h0 h [] ∧ h0.size ≤ xr ∧ h0.size ≤ tr ∧ Exa Z h xr "java/lang/String" ∧ Fld Z h xr "java/lang/String" "coder" "B" (.int 0) ∧ Fld Z h xr "java/lang/String" "value" "[B" (.ref tr) ∧ Arv Z h tr kr .byte (32 : Int32) [(.int 99), (.int 111), (.int 108), (.int 117), (.int 109), (.int 110), (.int 32), (.int u2), (.int u3), (.int 32), (.int 111), (.int 102), (.int 32), (.int 116), (.int 97), (.int 98), (.int 108), (.int 101), (.int 32), (.int u0), (.int u1), (.int 32), (.int 105), (.int 115), (.int 32), (.int 109), (.int 105), (.int 115), (.int 115), (.int 105), (.int 110), (.int 103)] (.int 0)) := by
  refine CtS.walk (Ls := #[.val (.ref q0)]) (plainFor_of_name own_pn14) (fun m => by first | (simp [entryFrame, mkF, argsToLocals, Value.category]; done) | rfl) ?_
  intro p e s m below meth cc_ T vm k0 hx hby hml hown hnm hret hlk hZ X eT hS hk C hSL
  have N := Fr.nil n0
  have K0 := Keep.refl h0 []
  have sz_h : h0.size ≤ h0.size := Nat.le_refl _
  refine galoadN (v := (.ref q0)) X hx 1 (hb hby own_d12_0) rfl rfl rfl ?_
  refine ggetF X hx hZ (host := "") hown (Or.inl (own_w58 hw)) Via.refl eT P3_Fld 4 (hb hby own_d12_1) rfl ?_
  clear X eT; clear T; intro T X eT
  refine gifnonnullYes X hx 37 (hb hby own_d12_4) (by decide) (by decide) ?_
  refine gnewO X hx hZ hown (own_w65 hw) (own_w66 hw) (own_w67 hw) eT 1 4 rfl rfl (by decide) (by decide) 40 (hb hby own_d12_37) rfl ?_
  clear X eT; clear T; intro T h1 b2 X eT ga E3 A4 D5
  have le_a := Nat.le_of_eq ga.symm
  have ne_q0_b2 : q0 ≠ b2 := Nat.ne_of_lt (Nat.lt_of_lt_of_le P1_Exa.lt le_a)
  have ne_b2_q0 : b2 ≠ q0 := Ne.symm ne_q0_b2
  have ne_xt_b2 : xt ≠ b2 := Nat.ne_of_lt (Nat.lt_of_lt_of_le P4_Exa.lt le_a)
  have ne_b2_xt : b2 ≠ xt := Ne.symm ne_xt_b2
  have ne_tt_b2 : tt ≠ b2 := Nat.ne_of_lt (Nat.lt_of_lt_of_le P7_Arv.lt le_a)
  have ne_b2_tt : b2 ≠ tt := Ne.symm ne_tt_b2
  have ne_xc_b2 : xc ≠ b2 := Nat.ne_of_lt (Nat.lt_of_lt_of_le P8_Exa.lt le_a)
  have ne_b2_xc : b2 ≠ xc := Ne.symm ne_xc_b2
  have ne_tc_b2 : tc ≠ b2 := Nat.ne_of_lt (Nat.lt_of_lt_of_le P11_Arv.lt le_a)
  have ne_b2_tc : b2 ≠ tc := Ne.symm ne_tc_b2
  have sz_b2 : h0.size ≤ b2 := Nat.le_trans sz_h le_a
  have ge_b2 : n0 ≤ b2 := Nat.le_trans Z0 sz_b2
  clear le_a ga
  replace P0_Old := P0_Old.ext E3
  replace P1_Exa := P1_Exa.ext E3
  replace P2_Fld := P2_Fld.ext E3
  replace P3_Fld := P3_Fld.ext E3
  replace P4_Exa := P4_Exa.ext E3
  replace P5_Fld := P5_Fld.ext E3
  replace P6_Fld := P6_Fld.ext E3
  replace P7_Arv := P7_Arv.ext E3
  replace P8_Exa := P8_Exa.ext E3
  replace P9_Fld := P9_Fld.ext E3
  replace P10_Fld := P10_Fld.ext E3
  replace P11_Arv := P11_Arv.ext E3
  replace K0 := K0.ext E3
  replace C := C.trans (CHr.ext E3 C.1)
  replace hk := Nat.le_trans hk E3.1
  replace sz_h : h0.size ≤ h1.size := Nat.le_trans sz_h E3.1
  have F_value_b2 : Fld Z h1 b2 "java/lang/AbstractStringBuilder" "value" "[B" .null := D5 (Or.inl (own_w80 hw)) (ty := (.array .byte)) own_pf0
  have F_coder_b2 : Fld Z h1 b2 "java/lang/AbstractStringBuilder" "coder" "B" (.int 0) := D5 (Or.inl (own_w82 hw)) (ty := .byte) own_pf1
  have F_count_b2 : Fld Z h1 b2 "java/lang/AbstractStringBuilder" "count" "I" (.int 0) := D5 (Or.inl (own_w105 hw)) (ty := .int) own_pf2
  clear D5
  refine gdup X hx 41 (hb hby own_d12_40) rfl rfl ?_
  refine gspecial (y := (⟨"java/lang/StringBuilder", "<init>", "()V"⟩ : MethodName)) (a := b2) (argsL := []) (st := [(.ref b2)]) X hx hZ hown rfl (own_w68 hw) (own_w69 hw) (own_w70 hw) (by decide) (payP (W := 1) (rm13 l Z a0 hw (b2) (G1) h1 n0 (Nat.le_trans Z0 sz_h) ge_b2 P0_Old A4 F_value_b2 F_coder_b2 F_count_b2 (O2) (P5)) hZ (own_w70 hw) (own_w67 hw) (by decide) (by decide)) eT (by rw [hml]; rfl) (lenOf own_pd17 rfl) rfl (Nat.le_of_eq rfl) 2 20 rfl rfl (by decide) (by decide) 44 (hb hby own_d12_41) rfl ?_
  clear X eT; clear T; intro v T h6 L2 Lc X eT hL hQ7
  obtain ⟨va_8, kv_9, rfl, Nq, K10, zz_va_8, G12, G13, G14, G15⟩ := hQ7
  replace N : Fr n0 L2 := by rw [hL]; exact Fr.app N Nq
  clear Nq hL
  have Sf_va_8 : Safe Z own_EL vm h1 va_8 := Safe.new zz_va_8
  have ne_q0_va_8 : q0 ≠ va_8 := Nat.ne_of_lt (Nat.lt_of_lt_of_le P1_Exa.lt zz_va_8)
  have ne_va_8_q0 : va_8 ≠ q0 := Ne.symm ne_q0_va_8
  have ne_xt_va_8 : xt ≠ va_8 := Nat.ne_of_lt (Nat.lt_of_lt_of_le P4_Exa.lt zz_va_8)
  have ne_va_8_xt : va_8 ≠ xt := Ne.symm ne_xt_va_8
  have ne_tt_va_8 : tt ≠ va_8 := Nat.ne_of_lt (Nat.lt_of_lt_of_le P7_Arv.lt zz_va_8)
  have ne_va_8_tt : va_8 ≠ tt := Ne.symm ne_tt_va_8
  have ne_xc_va_8 : xc ≠ va_8 := Nat.ne_of_lt (Nat.lt_of_lt_of_le P8_Exa.lt zz_va_8)
  have ne_va_8_xc : va_8 ≠ xc := Ne.symm ne_xc_va_8
  have ne_tc_va_8 : tc ≠ va_8 := Nat.ne_of_lt (Nat.lt_of_lt_of_le P11_Arv.lt zz_va_8)
  have ne_va_8_tc : va_8 ≠ tc := Ne.symm ne_tc_va_8
  have ne_b2_va_8 : b2 ≠ va_8 := Nat.ne_of_lt (Nat.lt_of_lt_of_le A4.lt zz_va_8)
  have ne_va_8_b2 : va_8 ≠ b2 := Ne.symm ne_b2_va_8
  have sz_va_8 : h0.size ≤ va_8 := Nat.le_trans sz_h zz_va_8
  have ge_va_8 : n0 ≤ va_8 := Nat.le_trans Z0 sz_va_8
  have sfs := (sfS (Safe.exa (EL := own_EL) (vm := vm) hZ.alike A4 (by decide) (by decide)) sf0)
  replace P0_Old := P0_Old.keep K10 (allS ge_b2 all0)
  replace P1_Exa := P1_Exa.keep K10
  replace P2_Fld := P2_Fld.keep K10 (ninS ne_q0_b2 nin0)
  replace P3_Fld := P3_Fld.keep K10 (ninS ne_q0_b2 nin0)
  replace P4_Exa := P4_Exa.keep K10
  replace P5_Fld := P5_Fld.keep K10 (ninS ne_xt_b2 nin0)
  replace P6_Fld := P6_Fld.keep K10 (ninS ne_xt_b2 nin0)
  replace P7_Arv := P7_Arv.keep K10 (ninS ne_tt_b2 nin0)
  replace P8_Exa := P8_Exa.keep K10
  replace P9_Fld := P9_Fld.keep K10 (ninS ne_xc_b2 nin0)
  replace P10_Fld := P10_Fld.keep K10 (ninS ne_xc_b2 nin0)
  replace P11_Arv := P11_Arv.keep K10 (ninS ne_tc_b2 nin0)
  replace A4 := A4.keep K10
  replace Sf_va_8 := Safe.keep K10 sfs C.1 Sf_va_8
  replace K0 := K0.trans K10 (allS (Or.inr sz_b2) all0)
  replace C := C.trans (CHr.keep K10 sfs C.1)
  replace hk := Nat.le_trans hk K10.1
  replace sz_h : h0.size ≤ h6.size := Nat.le_trans sz_h K10.1
  show Go p e below _ T (mkF m 44 #[.val (.ref q0)] [(.ref b2)])
  have lt_va_8 := G15.lt
  refine gldcV X hx hZ hown (own_w204 hw) (own_wS hw) eT hS hk (own_EW hw) own_mem204 C.1 [(.int 99), (.int 111), (.int 108), (.int 117), (.int 109), (.int 110), (.int 32)] (7 : Int32) (by decide +kernel) (by decide) rfl 28 (by decide) (by decide) 4 52 rfl rfl (by decide) (by decide) 46 (hb hby own_d12_44) rfl ?_
  clear X eT hS hk hZ hown; clear T k0; intro c17 T h16 vm k0 t25 kb26 X eT E18 hS hk hZ hown CR19 Li20 A21 F22 F23 V24 ns27
  replace P0_Old := P0_Old.ext E18
  replace P1_Exa := P1_Exa.ext E18
  replace P2_Fld := P2_Fld.ext E18
  replace P3_Fld := P3_Fld.ext E18
  replace P4_Exa := P4_Exa.ext E18
  replace P5_Fld := P5_Fld.ext E18
  replace P6_Fld := P6_Fld.ext E18
  replace P7_Arv := P7_Arv.ext E18
  replace P8_Exa := P8_Exa.ext E18
  replace P9_Fld := P9_Fld.ext E18
  replace P10_Fld := P10_Fld.ext E18
  replace P11_Arv := P11_Arv.ext E18
  replace A4 := A4.ext E18
  replace Sf_va_8 := CHr.safe CR19 lt_va_8 Sf_va_8
  replace G12 := G12.ext E18
  replace G13 := G13.ext E18
  replace G14 := G14.ext E18
  replace G15 := G15.ext E18
  replace K0 := K0.ext E18
  replace C := C.trans CR19
  replace sz_h : h0.size ≤ h16.size := Nat.le_trans sz_h E18.1
  have ne_va_8_c17 := (ns27 _ Sf_va_8).1
  have ne_c17_va_8 := Ne.symm ne_va_8_c17
  have ne_va_8_t25 := (ns27 _ Sf_va_8).2
  have ne_t25_va_8 := Ne.symm ne_va_8_t25
  show Go p e below _ T (mkF m 46 #[.val (.ref q0)] [(.ref c17), (.ref b2)])
  refine gvirtual (y := (⟨"java/lang/StringBuilder", "append", "(Ljava/lang/String;)Ljava/lang/StringBuilder;"⟩ : MethodName)) (z := (⟨"java/lang/StringBuilder", "append", "(Ljava/lang/String;)Ljava/lang/StringBuilder;"⟩ : MethodName)) (a := b2) (argsL := [(.ref c17)]) (st := []) X hx hZ hown (own_w84 hw) (own_w85 hw) (notFace_of_selects (args := #[]) (mvT hZ (own_w87 hw))) (own_w87 hw) (own_w86 hw) (by decide) A4 (payP (W := 0) (rmSA0_7_16 l Z a0 hw (b2) (c17) (t25) (va_8) (kb26) (kv_9) (G1) ((99 : Int32)) ((111 : Int32)) ((108 : Int32)) ((117 : Int32)) ((109 : Int32)) ((110 : Int32)) ((32 : Int32)) h16 n0 (Nat.le_trans Z0 sz_h) ge_b2 ge_va_8 P0_Old A4 G12 G13 G14 A21 F22 F23 V24 G15 (O2) (P5) (ne_t25_va_8)) hZ (own_w88 hw) (own_w67 hw) (by decide) (by decide)) eT (by rw [hml]; rfl) (lenOf own_pd19 rfl) rfl (Nat.le_of_eq rfl) 4 52 rfl rfl (by decide) (by decide) 49 (hb hby own_d12_46) rfl ?_
  clear X eT; clear T; intro v T h28 L2 Lc X eT hL hQ29
  obtain ⟨rfl, Nq, K30, G32, G33, G34, G35⟩ := hQ29
  replace N : Fr n0 L2 := by rw [hL]; exact Fr.app N Nq
  clear Nq hL
  have ne_c17_b2 : c17 ≠ b2 := ne_exa A21 A4 (by decide)
  have ne_t25_b2 : t25 ≠ b2 := Ne.symm (Exa.neArv A4 V24 (own_w66 hw))
  have sfs := (sfS (Safe.exa (EL := own_EL) (vm := vm) hZ.alike A4 (by decide) (by decide)) (sfS Sf_va_8 sf0))
  replace P0_Old := P0_Old.keep K30 (allS ge_b2 (allS ge_va_8 all0))
  replace P1_Exa := P1_Exa.keep K30
  replace P2_Fld := P2_Fld.keep K30 (ninS ne_q0_b2 (ninS ne_q0_va_8 nin0))
  replace P3_Fld := P3_Fld.keep K30 (ninS ne_q0_b2 (ninS ne_q0_va_8 nin0))
  replace P4_Exa := P4_Exa.keep K30
  replace P5_Fld := P5_Fld.keep K30 (ninS ne_xt_b2 (ninS ne_xt_va_8 nin0))
  replace P6_Fld := P6_Fld.keep K30 (ninS ne_xt_b2 (ninS ne_xt_va_8 nin0))
  replace P7_Arv := P7_Arv.keep K30 (ninS ne_tt_b2 (ninS ne_tt_va_8 nin0))
  replace P8_Exa := P8_Exa.keep K30
  replace P9_Fld := P9_Fld.keep K30 (ninS ne_xc_b2 (ninS ne_xc_va_8 nin0))
  replace P10_Fld := P10_Fld.keep K30 (ninS ne_xc_b2 (ninS ne_xc_va_8 nin0))
  replace P11_Arv := P11_Arv.keep K30 (ninS ne_tc_b2 (ninS ne_tc_va_8 nin0))
  replace A4 := A4.keep K30
  replace Sf_va_8 := Safe.keep K30 sfs C.1 Sf_va_8
  replace A21 := A21.keep K30
  replace F22 := F22.keep K30 (ninS ne_c17_b2 (ninS ne_c17_va_8 nin0))
  replace F23 := F23.keep K30 (ninS ne_c17_b2 (ninS ne_c17_va_8 nin0))
  replace V24 := V24.keep K30 (ninS ne_t25_b2 (ninS ne_t25_va_8 nin0))
  replace K0 := K0.trans K30 (allS (Or.inr sz_b2) (allS (Or.inr sz_va_8) all0))
  replace C := C.trans (CHr.keep K30 sfs C.1)
  replace hk := Nat.le_trans hk K30.1
  replace sz_h : h0.size ≤ h28.size := Nat.le_trans sz_h K30.1
  show Go p e below _ T (mkF m 49 #[.val (.ref q0)] [(.ref b2)])
  refine galoadN (v := (.ref q0)) X hx 50 (hb hby own_d12_49) rfl rfl rfl ?_
  refine ggetF X hx hZ (host := "") hown (Or.inl (own_w58 hw)) Via.refl eT P3_Fld 53 (hb hby own_d12_50) rfl ?_
  clear X eT; clear T; intro T X eT
  refine gvirtual (y := (⟨"java/lang/StringBuilder", "append", "(Ljava/lang/String;)Ljava/lang/StringBuilder;"⟩ : MethodName)) (z := (⟨"java/lang/StringBuilder", "append", "(Ljava/lang/String;)Ljava/lang/StringBuilder;"⟩ : MethodName)) (a := b2) (argsL := [(.ref xc)]) (st := []) X hx hZ hown (own_w84 hw) (own_w85 hw) (notFace_of_selects (args := #[]) (mvT hZ (own_w87 hw))) (own_w87 hw) (own_w86 hw) (by decide) A4 (payP (W := 0) (rmSA7_2_16 l Z a0 hw (b2) (xc) (tc) (va_8) (kc) (kv_9) (G1) ((99 : Int32)) ((111 : Int32)) ((108 : Int32)) ((117 : Int32)) ((109 : Int32)) ((110 : Int32)) ((32 : Int32)) (u2) (u3) h28 n0 (Nat.le_trans Z0 sz_h) ge_b2 ge_va_8 P0_Old A4 G32 G33 G34 P8_Exa P9_Fld P10_Fld P11_Arv G35 (O2) (P5) (ne_tc_va_8)) hZ (own_w88 hw) (own_w67 hw) (by decide) (by decide)) eT (by rw [hml]; rfl) (lenOf own_pd19 rfl) rfl (Nat.le_of_eq rfl) 4 52 rfl rfl (by decide) (by decide) 56 (hb hby own_d12_53) rfl ?_
  clear X eT; clear T; intro v T h36 L2 Lc X eT hL hQ37
  obtain ⟨rfl, Nq, K38, G40, G41, G42, G43⟩ := hQ37
  replace N : Fr n0 L2 := by rw [hL]; exact Fr.app N Nq
  clear Nq hL
  have sfs := (sfS (Safe.exa (EL := own_EL) (vm := vm) hZ.alike A4 (by decide) (by decide)) (sfS Sf_va_8 sf0))
  replace P0_Old := P0_Old.keep K38 (allS ge_b2 (allS ge_va_8 all0))
  replace P1_Exa := P1_Exa.keep K38
  replace P2_Fld := P2_Fld.keep K38 (ninS ne_q0_b2 (ninS ne_q0_va_8 nin0))
  replace P3_Fld := P3_Fld.keep K38 (ninS ne_q0_b2 (ninS ne_q0_va_8 nin0))
  replace P4_Exa := P4_Exa.keep K38
  replace P5_Fld := P5_Fld.keep K38 (ninS ne_xt_b2 (ninS ne_xt_va_8 nin0))
  replace P6_Fld := P6_Fld.keep K38 (ninS ne_xt_b2 (ninS ne_xt_va_8 nin0))
  replace P7_Arv := P7_Arv.keep K38 (ninS ne_tt_b2 (ninS ne_tt_va_8 nin0))
  replace P8_Exa := P8_Exa.keep K38
  replace P9_Fld := P9_Fld.keep K38 (ninS ne_xc_b2 (ninS ne_xc_va_8 nin0))
  replace P10_Fld := P10_Fld.keep K38 (ninS ne_xc_b2 (ninS ne_xc_va_8 nin0))
  replace P11_Arv := P11_Arv.keep K38 (ninS ne_tc_b2 (ninS ne_tc_va_8 nin0))
  replace A4 := A4.keep K38
  replace Sf_va_8 := Safe.keep K38 sfs C.1 Sf_va_8
  replace A21 := A21.keep K38
  replace F22 := F22.keep K38 (ninS ne_c17_b2 (ninS ne_c17_va_8 nin0))
  replace F23 := F23.keep K38 (ninS ne_c17_b2 (ninS ne_c17_va_8 nin0))
  replace V24 := V24.keep K38 (ninS ne_t25_b2 (ninS ne_t25_va_8 nin0))
  replace K0 := K0.trans K38 (allS (Or.inr sz_b2) (allS (Or.inr sz_va_8) all0))
  replace C := C.trans (CHr.keep K38 sfs C.1)
  replace hk := Nat.le_trans hk K38.1
  replace sz_h : h0.size ≤ h36.size := Nat.le_trans sz_h K38.1
  show Go p e below _ T (mkF m 56 #[.val (.ref q0)] [(.ref b2)])
  have lt_va_8 := G43.lt
  refine gldcV X hx hZ hown (own_w205 hw) (own_wS hw) eT hS hk (own_EW hw) own_mem205 C.1 [(.int 32), (.int 111), (.int 102), (.int 32), (.int 116), (.int 97), (.int 98), (.int 108), (.int 101), (.int 32)] (10 : Int32) (by decide +kernel) (by decide) rfl 40 (by decide) (by decide) 6 96 rfl rfl (by decide) (by decide) 58 (hb hby own_d12_56) rfl ?_
  clear X eT hS hk hZ hown; clear T k0; intro c45 T h44 vm k0 t53 kb54 X eT E46 hS hk hZ hown CR47 Li48 A49 F50 F51 V52 ns55
  replace P0_Old := P0_Old.ext E46
  replace P1_Exa := P1_Exa.ext E46
  replace P2_Fld := P2_Fld.ext E46
  replace P3_Fld := P3_Fld.ext E46
  replace P4_Exa := P4_Exa.ext E46
  replace P5_Fld := P5_Fld.ext E46
  replace P6_Fld := P6_Fld.ext E46
  replace P7_Arv := P7_Arv.ext E46
  replace P8_Exa := P8_Exa.ext E46
  replace P9_Fld := P9_Fld.ext E46
  replace P10_Fld := P10_Fld.ext E46
  replace P11_Arv := P11_Arv.ext E46
  replace A4 := A4.ext E46
  replace Sf_va_8 := CHr.safe CR47 lt_va_8 Sf_va_8
  replace A21 := A21.ext E46
  replace F22 := F22.ext E46
  replace F23 := F23.ext E46
  replace V24 := V24.ext E46
  replace G40 := G40.ext E46
  replace G41 := G41.ext E46
  replace G42 := G42.ext E46
  replace G43 := G43.ext E46
  replace K0 := K0.ext E46
  replace C := C.trans CR47
  replace sz_h : h0.size ≤ h44.size := Nat.le_trans sz_h E46.1
  have ne_va_8_c45 := (ns55 _ Sf_va_8).1
  have ne_c45_va_8 := Ne.symm ne_va_8_c45
  have ne_va_8_t53 := (ns55 _ Sf_va_8).2
  have ne_t53_va_8 := Ne.symm ne_va_8_t53
  show Go p e below _ T (mkF m 58 #[.val (.ref q0)] [(.ref c45), (.ref b2)])
  refine gvirtual (y := (⟨"java/lang/StringBuilder", "append", "(Ljava/lang/String;)Ljava/lang/StringBuilder;"⟩ : MethodName)) (z := (⟨"java/lang/StringBuilder", "append", "(Ljava/lang/String;)Ljava/lang/StringBuilder;"⟩ : MethodName)) (a := b2) (argsL := [(.ref c45)]) (st := []) X hx hZ hown (own_w84 hw) (own_w85 hw) (notFace_of_selects (args := #[]) (mvT hZ (own_w87 hw))) (own_w87 hw) (own_w86 hw) (by decide) A4 (payP (W := 0) (rmSA9_10_16 l Z a0 hw (b2) (c45) (t53) (va_8) (kb54) (kv_9) (G1) ((99 : Int32)) ((111 : Int32)) ((108 : Int32)) ((117 : Int32)) ((109 : Int32)) ((110 : Int32)) ((32 : Int32)) (u2) (u3) ((32 : Int32)) ((111 : Int32)) ((102 : Int32)) ((32 : Int32)) ((116 : Int32)) ((97 : Int32)) ((98 : Int32)) ((108 : Int32)) ((101 : Int32)) ((32 : Int32)) h44 n0 (Nat.le_trans Z0 sz_h) ge_b2 P0_Old A4 G40 G41 G42 A49 F50 F51 V52 G43 (O2) (P5)) hZ (own_w88 hw) (own_w67 hw) (by decide) (by decide)) eT (by rw [hml]; rfl) (lenOf own_pd19 rfl) rfl (Nat.le_of_eq rfl) 7 130 rfl rfl (by decide) (by decide) 61 (hb hby own_d12_58) rfl ?_
  clear X eT; clear T; intro v T h56 L2 Lc X eT hL hQ57
  obtain ⟨vb_58, kw_59, rfl, Nq, K60, zz_vb_58, G62, G63, G64, G65⟩ := hQ57
  replace N : Fr n0 L2 := by rw [hL]; exact Fr.app N Nq
  clear Nq hL
  have Sf_vb_58 : Safe Z own_EL vm h44 vb_58 := Safe.new zz_vb_58
  have ne_q0_vb_58 : q0 ≠ vb_58 := Nat.ne_of_lt (Nat.lt_of_lt_of_le P1_Exa.lt zz_vb_58)
  have ne_vb_58_q0 : vb_58 ≠ q0 := Ne.symm ne_q0_vb_58
  have ne_xt_vb_58 : xt ≠ vb_58 := Nat.ne_of_lt (Nat.lt_of_lt_of_le P4_Exa.lt zz_vb_58)
  have ne_vb_58_xt : vb_58 ≠ xt := Ne.symm ne_xt_vb_58
  have ne_tt_vb_58 : tt ≠ vb_58 := Nat.ne_of_lt (Nat.lt_of_lt_of_le P7_Arv.lt zz_vb_58)
  have ne_vb_58_tt : vb_58 ≠ tt := Ne.symm ne_tt_vb_58
  have ne_xc_vb_58 : xc ≠ vb_58 := Nat.ne_of_lt (Nat.lt_of_lt_of_le P8_Exa.lt zz_vb_58)
  have ne_vb_58_xc : vb_58 ≠ xc := Ne.symm ne_xc_vb_58
  have ne_tc_vb_58 : tc ≠ vb_58 := Nat.ne_of_lt (Nat.lt_of_lt_of_le P11_Arv.lt zz_vb_58)
  have ne_vb_58_tc : vb_58 ≠ tc := Ne.symm ne_tc_vb_58
  have ne_b2_vb_58 : b2 ≠ vb_58 := Nat.ne_of_lt (Nat.lt_of_lt_of_le A4.lt zz_vb_58)
  have ne_vb_58_b2 : vb_58 ≠ b2 := Ne.symm ne_b2_vb_58
  have ne_c17_vb_58 : c17 ≠ vb_58 := Nat.ne_of_lt (Nat.lt_of_lt_of_le A21.lt zz_vb_58)
  have ne_vb_58_c17 : vb_58 ≠ c17 := Ne.symm ne_c17_vb_58
  have ne_t25_vb_58 : t25 ≠ vb_58 := Nat.ne_of_lt (Nat.lt_of_lt_of_le V24.lt zz_vb_58)
  have ne_vb_58_t25 : vb_58 ≠ t25 := Ne.symm ne_t25_vb_58
  have ne_va_8_vb_58 : va_8 ≠ vb_58 := Nat.ne_of_lt (Nat.lt_of_lt_of_le G43.lt zz_vb_58)
  have ne_vb_58_va_8 : vb_58 ≠ va_8 := Ne.symm ne_va_8_vb_58
  have ne_c45_vb_58 : c45 ≠ vb_58 := Nat.ne_of_lt (Nat.lt_of_lt_of_le A49.lt zz_vb_58)
  have ne_vb_58_c45 : vb_58 ≠ c45 := Ne.symm ne_c45_vb_58
  have ne_t53_vb_58 : t53 ≠ vb_58 := Nat.ne_of_lt (Nat.lt_of_lt_of_le V52.lt zz_vb_58)
  have ne_vb_58_t53 : vb_58 ≠ t53 := Ne.symm ne_t53_vb_58
  have sz_vb_58 : h0.size ≤ vb_58 := Nat.le_trans sz_h zz_vb_58
  have ge_vb_58 : n0 ≤ vb_58 := Nat.le_trans Z0 sz_vb_58
  have ne_c45_b2 : c45 ≠ b2 := ne_exa A49 A4 (by decide)
  have ne_t53_b2 : t53 ≠ b2 := Ne.symm (Exa.neArv A4 V52 (own_w66 hw))
  have sfs := (sfS (Safe.exa (EL := own_EL) (vm := vm) hZ.alike A4 (by decide) (by decide)) sf0)
  replace P0_Old := P0_Old.keep K60 (allS ge_b2 all0)
  replace P1_Exa := P1_Exa.keep K60
  replace P2_Fld := P2_Fld.keep K60 (ninS ne_q0_b2 nin0)
  replace P3_Fld := P3_Fld.keep K60 (ninS ne_q0_b2 nin0)
  replace P4_Exa := P4_Exa.keep K60
  replace P5_Fld := P5_Fld.keep K60 (ninS ne_xt_b2 nin0)
  replace P6_Fld := P6_Fld.keep K60 (ninS ne_xt_b2 nin0)
  replace P7_Arv := P7_Arv.keep K60 (ninS ne_tt_b2 nin0)
  replace P8_Exa := P8_Exa.keep K60
  replace P9_Fld := P9_Fld.keep K60 (ninS ne_xc_b2 nin0)
  replace P10_Fld := P10_Fld.keep K60 (ninS ne_xc_b2 nin0)
  replace P11_Arv := P11_Arv.keep K60 (ninS ne_tc_b2 nin0)
  replace A4 := A4.keep K60
  replace Sf_va_8 := Safe.keep K60 sfs C.1 Sf_va_8
  replace A21 := A21.keep K60
  replace F22 := F22.keep K60 (ninS ne_c17_b2 nin0)
  replace F23 := F23.keep K60 (ninS ne_c17_b2 nin0)
  replace V24 := V24.keep K60 (ninS ne_t25_b2 nin0)
  replace G43 := G43.keep K60 (ninS ne_va_8_b2 nin0)
  replace A49 := A49.keep K60
  replace F50 := F50.keep K60 (ninS ne_c45_b2 nin0)
  replace F51 := F51.keep K60 (ninS ne_c45_b2 nin0)
  replace V52 := V52.keep K60 (ninS ne_t53_b2 nin0)
  replace Sf_vb_58 := Safe.keep K60 sfs C.1 Sf_vb_58
  replace K0 := K0.trans K60 (allS (Or.inr sz_b2) all0)
  replace C := C.trans (CHr.keep K60 sfs C.1)
  replace hk := Nat.le_trans hk K60.1
  replace sz_h : h0.size ≤ h56.size := Nat.le_trans sz_h K60.1
  show Go p e below _ T (mkF m 61 #[.val (.ref q0)] [(.ref b2)])
  refine galoadN (v := (.ref q0)) X hx 62 (hb hby own_d12_61) rfl rfl rfl ?_
  refine ggetF X hx hZ (host := "") hown (Or.inl (own_w56 hw)) Via.refl eT P2_Fld 65 (hb hby own_d12_62) rfl ?_
  clear X eT; clear T; intro T X eT
  refine gvirtual (y := (⟨"java/lang/StringBuilder", "append", "(Ljava/lang/String;)Ljava/lang/StringBuilder;"⟩ : MethodName)) (z := (⟨"java/lang/StringBuilder", "append", "(Ljava/lang/String;)Ljava/lang/StringBuilder;"⟩ : MethodName)) (a := b2) (argsL := [(.ref xt)]) (st := []) X hx hZ hown (own_w84 hw) (own_w85 hw) (notFace_of_selects (args := #[]) (mvT hZ (own_w87 hw))) (own_w87 hw) (own_w86 hw) (by decide) A4 (payP (W := 0) (rmSA19_2_34 l Z a0 hw (b2) (xt) (tt) (vb_58) (kt) (kw_59) (G1) ((99 : Int32)) ((111 : Int32)) ((108 : Int32)) ((117 : Int32)) ((109 : Int32)) ((110 : Int32)) ((32 : Int32)) (u2) (u3) ((32 : Int32)) ((111 : Int32)) ((102 : Int32)) ((32 : Int32)) ((116 : Int32)) ((97 : Int32)) ((98 : Int32)) ((108 : Int32)) ((101 : Int32)) ((32 : Int32)) (u0) (u1) h56 n0 (Nat.le_trans Z0 sz_h) ge_b2 ge_vb_58 P0_Old A4 G62 G63 G64 P4_Exa P5_Fld P6_Fld P7_Arv G65 (O2) (P5) (ne_tt_vb_58)) hZ (own_w88 hw) (own_w67 hw) (by decide) (by decide)) eT (by rw [hml]; rfl) (lenOf own_pd19 rfl) rfl (Nat.le_of_eq rfl) 7 130 rfl rfl (by decide) (by decide) 68 (hb hby own_d12_65) rfl ?_
  clear X eT; clear T; intro v T h66 L2 Lc X eT hL hQ67
  obtain ⟨rfl, Nq, K68, G70, G71, G72, G73⟩ := hQ67
  replace N : Fr n0 L2 := by rw [hL]; exact Fr.app N Nq
  clear Nq hL
  have sfs := (sfS (Safe.exa (EL := own_EL) (vm := vm) hZ.alike A4 (by decide) (by decide)) (sfS Sf_vb_58 sf0))
  replace P0_Old := P0_Old.keep K68 (allS ge_b2 (allS ge_vb_58 all0))
  replace P1_Exa := P1_Exa.keep K68
  replace P2_Fld := P2_Fld.keep K68 (ninS ne_q0_b2 (ninS ne_q0_vb_58 nin0))
  replace P3_Fld := P3_Fld.keep K68 (ninS ne_q0_b2 (ninS ne_q0_vb_58 nin0))
  replace P4_Exa := P4_Exa.keep K68
  replace P5_Fld := P5_Fld.keep K68 (ninS ne_xt_b2 (ninS ne_xt_vb_58 nin0))
  replace P6_Fld := P6_Fld.keep K68 (ninS ne_xt_b2 (ninS ne_xt_vb_58 nin0))
  replace P7_Arv := P7_Arv.keep K68 (ninS ne_tt_b2 (ninS ne_tt_vb_58 nin0))
  replace P8_Exa := P8_Exa.keep K68
  replace P9_Fld := P9_Fld.keep K68 (ninS ne_xc_b2 (ninS ne_xc_vb_58 nin0))
  replace P10_Fld := P10_Fld.keep K68 (ninS ne_xc_b2 (ninS ne_xc_vb_58 nin0))
  replace P11_Arv := P11_Arv.keep K68 (ninS ne_tc_b2 (ninS ne_tc_vb_58 nin0))
  replace A4 := A4.keep K68
  replace Sf_va_8 := Safe.keep K68 sfs C.1 Sf_va_8
  replace A21 := A21.keep K68
  replace F22 := F22.keep K68 (ninS ne_c17_b2 (ninS ne_c17_vb_58 nin0))
  replace F23 := F23.keep K68 (ninS ne_c17_b2 (ninS ne_c17_vb_58 nin0))
  replace V24 := V24.keep K68 (ninS ne_t25_b2 (ninS ne_t25_vb_58 nin0))
  replace G43 := G43.keep K68 (ninS ne_va_8_b2 (ninS ne_va_8_vb_58 nin0))
  replace A49 := A49.keep K68
  replace F50 := F50.keep K68 (ninS ne_c45_b2 (ninS ne_c45_vb_58 nin0))
  replace F51 := F51.keep K68 (ninS ne_c45_b2 (ninS ne_c45_vb_58 nin0))
  replace V52 := V52.keep K68 (ninS ne_t53_b2 (ninS ne_t53_vb_58 nin0))
  replace Sf_vb_58 := Safe.keep K68 sfs C.1 Sf_vb_58
  replace K0 := K0.trans K68 (allS (Or.inr sz_b2) (allS (Or.inr sz_vb_58) all0))
  replace C := C.trans (CHr.keep K68 sfs C.1)
  replace hk := Nat.le_trans hk K68.1
  replace sz_h : h0.size ≤ h66.size := Nat.le_trans sz_h K68.1
  show Go p e below _ T (mkF m 68 #[.val (.ref q0)] [(.ref b2)])
  have lt_va_8 := G43.lt
  have lt_vb_58 := G73.lt
  refine gldcV X hx hZ hown (own_w131 hw) (own_wS hw) eT hS hk (own_EW hw) own_mem131 C.1 [(.int 32), (.int 105), (.int 115), (.int 32), (.int 109), (.int 105), (.int 115), (.int 115), (.int 105), (.int 110), (.int 103)] (11 : Int32) (by decide +kernel) (by decide) rfl 44 (by decide) (by decide) 9 178 rfl rfl (by decide) (by decide) 70 (hb hby own_d12_68) rfl ?_
  clear X eT hS hk hZ hown; clear T k0; intro c75 T h74 vm k0 t83 kb84 X eT E76 hS hk hZ hown CR77 Li78 A79 F80 F81 V82 ns85
  replace P0_Old := P0_Old.ext E76
  replace P1_Exa := P1_Exa.ext E76
  replace P2_Fld := P2_Fld.ext E76
  replace P3_Fld := P3_Fld.ext E76
  replace P4_Exa := P4_Exa.ext E76
  replace P5_Fld := P5_Fld.ext E76
  replace P6_Fld := P6_Fld.ext E76
  replace P7_Arv := P7_Arv.ext E76
  replace P8_Exa := P8_Exa.ext E76
  replace P9_Fld := P9_Fld.ext E76
  replace P10_Fld := P10_Fld.ext E76
  replace P11_Arv := P11_Arv.ext E76
  replace A4 := A4.ext E76
  replace Sf_va_8 := CHr.safe CR77 lt_va_8 Sf_va_8
  replace A21 := A21.ext E76
  replace F22 := F22.ext E76
  replace F23 := F23.ext E76
  replace V24 := V24.ext E76
  replace G43 := G43.ext E76
  replace A49 := A49.ext E76
  replace F50 := F50.ext E76
  replace F51 := F51.ext E76
  replace V52 := V52.ext E76
  replace Sf_vb_58 := CHr.safe CR77 lt_vb_58 Sf_vb_58
  replace G70 := G70.ext E76
  replace G71 := G71.ext E76
  replace G72 := G72.ext E76
  replace G73 := G73.ext E76
  replace K0 := K0.ext E76
  replace C := C.trans CR77
  replace sz_h : h0.size ≤ h74.size := Nat.le_trans sz_h E76.1
  have ne_va_8_c75 := (ns85 _ Sf_va_8).1
  have ne_c75_va_8 := Ne.symm ne_va_8_c75
  have ne_va_8_t83 := (ns85 _ Sf_va_8).2
  have ne_t83_va_8 := Ne.symm ne_va_8_t83
  have ne_vb_58_c75 := (ns85 _ Sf_vb_58).1
  have ne_c75_vb_58 := Ne.symm ne_vb_58_c75
  have ne_vb_58_t83 := (ns85 _ Sf_vb_58).2
  have ne_t83_vb_58 := Ne.symm ne_vb_58_t83
  show Go p e below _ T (mkF m 70 #[.val (.ref q0)] [(.ref c75), (.ref b2)])
  refine gvirtual (y := (⟨"java/lang/StringBuilder", "append", "(Ljava/lang/String;)Ljava/lang/StringBuilder;"⟩ : MethodName)) (z := (⟨"java/lang/StringBuilder", "append", "(Ljava/lang/String;)Ljava/lang/StringBuilder;"⟩ : MethodName)) (a := b2) (argsL := [(.ref c75)]) (st := []) X hx hZ hown (own_w84 hw) (own_w85 hw) (notFace_of_selects (args := #[]) (mvT hZ (own_w87 hw))) (own_w87 hw) (own_w86 hw) (by decide) A4 (payP (W := 0) (rmSA21_11_34 l Z a0 hw (b2) (c75) (t83) (vb_58) (kb84) (kw_59) (G1) ((99 : Int32)) ((111 : Int32)) ((108 : Int32)) ((117 : Int32)) ((109 : Int32)) ((110 : Int32)) ((32 : Int32)) (u2) (u3) ((32 : Int32)) ((111 : Int32)) ((102 : Int32)) ((32 : Int32)) ((116 : Int32)) ((97 : Int32)) ((98 : Int32)) ((108 : Int32)) ((101 : Int32)) ((32 : Int32)) (u0) (u1) ((32 : Int32)) ((105 : Int32)) ((115 : Int32)) ((32 : Int32)) ((109 : Int32)) ((105 : Int32)) ((115 : Int32)) ((115 : Int32)) ((105 : Int32)) ((110 : Int32)) ((103 : Int32)) h74 n0 (Nat.le_trans Z0 sz_h) ge_b2 ge_vb_58 P0_Old A4 G70 G71 G72 A79 F80 F81 V82 G73 (O2) (P5) (ne_t83_vb_58)) hZ (own_w88 hw) (own_w67 hw) (by decide) (by decide)) eT (by rw [hml]; rfl) (lenOf own_pd19 rfl) rfl (Nat.le_of_eq rfl) 9 178 rfl rfl (by decide) (by decide) 73 (hb hby own_d12_70) rfl ?_
  clear X eT; clear T; intro v T h86 L2 Lc X eT hL hQ87
  obtain ⟨rfl, Nq, K88, G90, G91, G92, G93⟩ := hQ87
  replace N : Fr n0 L2 := by rw [hL]; exact Fr.app N Nq
  clear Nq hL
  have ne_c75_b2 : c75 ≠ b2 := ne_exa A79 A4 (by decide)
  have ne_t83_b2 : t83 ≠ b2 := Ne.symm (Exa.neArv A4 V82 (own_w66 hw))
  have sfs := (sfS (Safe.exa (EL := own_EL) (vm := vm) hZ.alike A4 (by decide) (by decide)) (sfS Sf_vb_58 sf0))
  replace P0_Old := P0_Old.keep K88 (allS ge_b2 (allS ge_vb_58 all0))
  replace P1_Exa := P1_Exa.keep K88
  replace P2_Fld := P2_Fld.keep K88 (ninS ne_q0_b2 (ninS ne_q0_vb_58 nin0))
  replace P3_Fld := P3_Fld.keep K88 (ninS ne_q0_b2 (ninS ne_q0_vb_58 nin0))
  replace P4_Exa := P4_Exa.keep K88
  replace P5_Fld := P5_Fld.keep K88 (ninS ne_xt_b2 (ninS ne_xt_vb_58 nin0))
  replace P6_Fld := P6_Fld.keep K88 (ninS ne_xt_b2 (ninS ne_xt_vb_58 nin0))
  replace P7_Arv := P7_Arv.keep K88 (ninS ne_tt_b2 (ninS ne_tt_vb_58 nin0))
  replace P8_Exa := P8_Exa.keep K88
  replace P9_Fld := P9_Fld.keep K88 (ninS ne_xc_b2 (ninS ne_xc_vb_58 nin0))
  replace P10_Fld := P10_Fld.keep K88 (ninS ne_xc_b2 (ninS ne_xc_vb_58 nin0))
  replace P11_Arv := P11_Arv.keep K88 (ninS ne_tc_b2 (ninS ne_tc_vb_58 nin0))
  replace A4 := A4.keep K88
  replace Sf_va_8 := Safe.keep K88 sfs C.1 Sf_va_8
  replace A21 := A21.keep K88
  replace F22 := F22.keep K88 (ninS ne_c17_b2 (ninS ne_c17_vb_58 nin0))
  replace F23 := F23.keep K88 (ninS ne_c17_b2 (ninS ne_c17_vb_58 nin0))
  replace V24 := V24.keep K88 (ninS ne_t25_b2 (ninS ne_t25_vb_58 nin0))
  replace G43 := G43.keep K88 (ninS ne_va_8_b2 (ninS ne_va_8_vb_58 nin0))
  replace A49 := A49.keep K88
  replace F50 := F50.keep K88 (ninS ne_c45_b2 (ninS ne_c45_vb_58 nin0))
  replace F51 := F51.keep K88 (ninS ne_c45_b2 (ninS ne_c45_vb_58 nin0))
  replace V52 := V52.keep K88 (ninS ne_t53_b2 (ninS ne_t53_vb_58 nin0))
  replace Sf_vb_58 := Safe.keep K88 sfs C.1 Sf_vb_58
  replace A79 := A79.keep K88
  replace F80 := F80.keep K88 (ninS ne_c75_b2 (ninS ne_c75_vb_58 nin0))
  replace F81 := F81.keep K88 (ninS ne_c75_b2 (ninS ne_c75_vb_58 nin0))
  replace V82 := V82.keep K88 (ninS ne_t83_b2 (ninS ne_t83_vb_58 nin0))
  replace K0 := K0.trans K88 (allS (Or.inr sz_b2) (allS (Or.inr sz_vb_58) all0))
  replace C := C.trans (CHr.keep K88 sfs C.1)
  replace hk := Nat.le_trans hk K88.1
  replace sz_h : h0.size ≤ h86.size := Nat.le_trans sz_h K88.1
  show Go p e below _ T (mkF m 73 #[.val (.ref q0)] [(.ref b2)])
  refine gvirtual (y := (⟨"java/lang/StringBuilder", "toString", "()Ljava/lang/String;"⟩ : MethodName)) (z := (⟨"java/lang/StringBuilder", "toString", "()Ljava/lang/String;"⟩ : MethodName)) (a := b2) (argsL := []) (st := []) X hx hZ hown (own_w155 hw) (own_w156 hw) (notFace_of_selects (args := #[]) (mvT hZ (own_w158 hw))) (own_w158 hw) (own_w157 hw) (by decide) A4 (payP (W := 0) (rmTS32_34 l Z a0 hw (b2) (vb_58) (kw_59) (G1) ((99 : Int32)) ((111 : Int32)) ((108 : Int32)) ((117 : Int32)) ((109 : Int32)) ((110 : Int32)) ((32 : Int32)) (u2) (u3) ((32 : Int32)) ((111 : Int32)) ((102 : Int32)) ((32 : Int32)) ((116 : Int32)) ((97 : Int32)) ((98 : Int32)) ((108 : Int32)) ((101 : Int32)) ((32 : Int32)) (u0) (u1) ((32 : Int32)) ((105 : Int32)) ((115 : Int32)) ((32 : Int32)) ((109 : Int32)) ((105 : Int32)) ((115 : Int32)) ((115 : Int32)) ((105 : Int32)) ((110 : Int32)) ((103 : Int32)) h86 n0 (Nat.le_trans Z0 sz_h) P0_Old A4 G90 G91 G92 G93 (O2) (P5)) hZ (own_w159 hw) (own_w67 hw) (by decide) (by decide)) eT (by rw [hml]; rfl) (lenOf own_pd20 rfl) rfl (Nat.le_of_eq rfl) 11 214 rfl rfl (by decide) (by decide) 76 (hb hby own_d12_73) rfl ?_
  clear X eT; clear T; intro v T h94 L2 Lc X eT hL hQ95
  obtain ⟨x_96, tr_97, kr_98, rfl, Nq, K99, zz_x_96, zz_tr_97, G101, G102, G103, G104⟩ := hQ95
  replace N : Fr n0 L2 := by rw [hL]; exact Fr.app N Nq
  clear Nq hL
  have ne_q0_x_96 : q0 ≠ x_96 := Nat.ne_of_lt (Nat.lt_of_lt_of_le P1_Exa.lt zz_x_96)
  have ne_x_96_q0 : x_96 ≠ q0 := Ne.symm ne_q0_x_96
  have ne_xt_x_96 : xt ≠ x_96 := Nat.ne_of_lt (Nat.lt_of_lt_of_le P4_Exa.lt zz_x_96)
  have ne_x_96_xt : x_96 ≠ xt := Ne.symm ne_xt_x_96
  have ne_tt_x_96 : tt ≠ x_96 := Nat.ne_of_lt (Nat.lt_of_lt_of_le P7_Arv.lt zz_x_96)
  have ne_x_96_tt : x_96 ≠ tt := Ne.symm ne_tt_x_96
  have ne_xc_x_96 : xc ≠ x_96 := Nat.ne_of_lt (Nat.lt_of_lt_of_le P8_Exa.lt zz_x_96)
  have ne_x_96_xc : x_96 ≠ xc := Ne.symm ne_xc_x_96
  have ne_tc_x_96 : tc ≠ x_96 := Nat.ne_of_lt (Nat.lt_of_lt_of_le P11_Arv.lt zz_x_96)
  have ne_x_96_tc : x_96 ≠ tc := Ne.symm ne_tc_x_96
  have ne_b2_x_96 : b2 ≠ x_96 := Nat.ne_of_lt (Nat.lt_of_lt_of_le A4.lt zz_x_96)
  have ne_x_96_b2 : x_96 ≠ b2 := Ne.symm ne_b2_x_96
  have ne_c17_x_96 : c17 ≠ x_96 := Nat.ne_of_lt (Nat.lt_of_lt_of_le A21.lt zz_x_96)
  have ne_x_96_c17 : x_96 ≠ c17 := Ne.symm ne_c17_x_96
  have ne_t25_x_96 : t25 ≠ x_96 := Nat.ne_of_lt (Nat.lt_of_lt_of_le V24.lt zz_x_96)
  have ne_x_96_t25 : x_96 ≠ t25 := Ne.symm ne_t25_x_96
  have ne_va_8_x_96 : va_8 ≠ x_96 := Nat.ne_of_lt (Nat.lt_of_lt_of_le G43.lt zz_x_96)
  have ne_x_96_va_8 : x_96 ≠ va_8 := Ne.symm ne_va_8_x_96
  have ne_c45_x_96 : c45 ≠ x_96 := Nat.ne_of_lt (Nat.lt_of_lt_of_le A49.lt zz_x_96)
  have ne_x_96_c45 : x_96 ≠ c45 := Ne.symm ne_c45_x_96
  have ne_t53_x_96 : t53 ≠ x_96 := Nat.ne_of_lt (Nat.lt_of_lt_of_le V52.lt zz_x_96)
  have ne_x_96_t53 : x_96 ≠ t53 := Ne.symm ne_t53_x_96
  have ne_c75_x_96 : c75 ≠ x_96 := Nat.ne_of_lt (Nat.lt_of_lt_of_le A79.lt zz_x_96)
  have ne_x_96_c75 : x_96 ≠ c75 := Ne.symm ne_c75_x_96
  have ne_t83_x_96 : t83 ≠ x_96 := Nat.ne_of_lt (Nat.lt_of_lt_of_le V82.lt zz_x_96)
  have ne_x_96_t83 : x_96 ≠ t83 := Ne.symm ne_t83_x_96
  have ne_vb_58_x_96 : vb_58 ≠ x_96 := Nat.ne_of_lt (Nat.lt_of_lt_of_le G93.lt zz_x_96)
  have ne_x_96_vb_58 : x_96 ≠ vb_58 := Ne.symm ne_vb_58_x_96
  have sz_x_96 : h0.size ≤ x_96 := Nat.le_trans sz_h zz_x_96
  have ge_x_96 : n0 ≤ x_96 := Nat.le_trans Z0 sz_x_96
  have Sf_tr_97 : Safe Z own_EL vm h86 tr_97 := Safe.new zz_tr_97
  have ne_q0_tr_97 : q0 ≠ tr_97 := Nat.ne_of_lt (Nat.lt_of_lt_of_le P1_Exa.lt zz_tr_97)
  have ne_tr_97_q0 : tr_97 ≠ q0 := Ne.symm ne_q0_tr_97
  have ne_xt_tr_97 : xt ≠ tr_97 := Nat.ne_of_lt (Nat.lt_of_lt_of_le P4_Exa.lt zz_tr_97)
  have ne_tr_97_xt : tr_97 ≠ xt := Ne.symm ne_xt_tr_97
  have ne_tt_tr_97 : tt ≠ tr_97 := Nat.ne_of_lt (Nat.lt_of_lt_of_le P7_Arv.lt zz_tr_97)
  have ne_tr_97_tt : tr_97 ≠ tt := Ne.symm ne_tt_tr_97
  have ne_xc_tr_97 : xc ≠ tr_97 := Nat.ne_of_lt (Nat.lt_of_lt_of_le P8_Exa.lt zz_tr_97)
  have ne_tr_97_xc : tr_97 ≠ xc := Ne.symm ne_xc_tr_97
  have ne_tc_tr_97 : tc ≠ tr_97 := Nat.ne_of_lt (Nat.lt_of_lt_of_le P11_Arv.lt zz_tr_97)
  have ne_tr_97_tc : tr_97 ≠ tc := Ne.symm ne_tc_tr_97
  have ne_b2_tr_97 : b2 ≠ tr_97 := Nat.ne_of_lt (Nat.lt_of_lt_of_le A4.lt zz_tr_97)
  have ne_tr_97_b2 : tr_97 ≠ b2 := Ne.symm ne_b2_tr_97
  have ne_c17_tr_97 : c17 ≠ tr_97 := Nat.ne_of_lt (Nat.lt_of_lt_of_le A21.lt zz_tr_97)
  have ne_tr_97_c17 : tr_97 ≠ c17 := Ne.symm ne_c17_tr_97
  have ne_t25_tr_97 : t25 ≠ tr_97 := Nat.ne_of_lt (Nat.lt_of_lt_of_le V24.lt zz_tr_97)
  have ne_tr_97_t25 : tr_97 ≠ t25 := Ne.symm ne_t25_tr_97
  have ne_va_8_tr_97 : va_8 ≠ tr_97 := Nat.ne_of_lt (Nat.lt_of_lt_of_le G43.lt zz_tr_97)
  have ne_tr_97_va_8 : tr_97 ≠ va_8 := Ne.symm ne_va_8_tr_97
  have ne_c45_tr_97 : c45 ≠ tr_97 := Nat.ne_of_lt (Nat.lt_of_lt_of_le A49.lt zz_tr_97)
  have ne_tr_97_c45 : tr_97 ≠ c45 := Ne.symm ne_c45_tr_97
  have ne_t53_tr_97 : t53 ≠ tr_97 := Nat.ne_of_lt (Nat.lt_of_lt_of_le V52.lt zz_tr_97)
  have ne_tr_97_t53 : tr_97 ≠ t53 := Ne.symm ne_t53_tr_97
  have ne_c75_tr_97 : c75 ≠ tr_97 := Nat.ne_of_lt (Nat.lt_of_lt_of_le A79.lt zz_tr_97)
  have ne_tr_97_c75 : tr_97 ≠ c75 := Ne.symm ne_c75_tr_97
  have ne_t83_tr_97 : t83 ≠ tr_97 := Nat.ne_of_lt (Nat.lt_of_lt_of_le V82.lt zz_tr_97)
  have ne_tr_97_t83 : tr_97 ≠ t83 := Ne.symm ne_t83_tr_97
  have ne_vb_58_tr_97 : vb_58 ≠ tr_97 := Nat.ne_of_lt (Nat.lt_of_lt_of_le G93.lt zz_tr_97)
  have ne_tr_97_vb_58 : tr_97 ≠ vb_58 := Ne.symm ne_vb_58_tr_97
  have sz_tr_97 : h0.size ≤ tr_97 := Nat.le_trans sz_h zz_tr_97
  have ge_tr_97 : n0 ≤ tr_97 := Nat.le_trans Z0 sz_tr_97
  replace P0_Old := P0_Old.keep K99 all0
  replace P1_Exa := P1_Exa.keep K99
  replace P2_Fld := P2_Fld.keep K99 nin0
  replace P3_Fld := P3_Fld.keep K99 nin0
  replace P4_Exa := P4_Exa.keep K99
  replace P5_Fld := P5_Fld.keep K99 nin0
  replace P6_Fld := P6_Fld.keep K99 nin0
  replace P7_Arv := P7_Arv.keep K99 nin0
  replace P8_Exa := P8_Exa.keep K99
  replace P9_Fld := P9_Fld.keep K99 nin0
  replace P10_Fld := P10_Fld.keep K99 nin0
  replace P11_Arv := P11_Arv.keep K99 nin0
  replace A4 := A4.keep K99
  replace Sf_va_8 := Safe.keep K99 sf0 C.1 Sf_va_8
  replace A21 := A21.keep K99
  replace F22 := F22.keep K99 nin0
  replace F23 := F23.keep K99 nin0
  replace V24 := V24.keep K99 nin0
  replace G43 := G43.keep K99 nin0
  replace A49 := A49.keep K99
  replace F50 := F50.keep K99 nin0
  replace F51 := F51.keep K99 nin0
  replace V52 := V52.keep K99 nin0
  replace Sf_vb_58 := Safe.keep K99 sf0 C.1 Sf_vb_58
  replace A79 := A79.keep K99
  replace F80 := F80.keep K99 nin0
  replace F81 := F81.keep K99 nin0
  replace V82 := V82.keep K99 nin0
  replace G90 := G90.keep K99 nin0
  replace G91 := G91.keep K99 nin0
  replace G92 := G92.keep K99 nin0
  replace G93 := G93.keep K99 nin0
  replace Sf_tr_97 := Safe.keep K99 sf0 C.1 Sf_tr_97
  replace K0 := K0.trans K99 all0
  replace C := C.trans (CHr.keep K99 sf0 C.1)
  replace hk := Nat.le_trans hk K99.1
  replace sz_h : h0.size ≤ h94.size := Nat.le_trans sz_h K99.1
  show Go p e below _ T (mkF m 76 #[.val (.ref q0)] [(.ref x_96)])
  exact gRetS X hx hlk hret rfl (Or.inr (Or.inr (Or.inr (Or.inr ⟨rfl, rfl, rfl⟩)))) (hb hby own_d12_76) eT hS hk hZ (own_EW hw) C (by decide) (by decide) ⟨x_96, tr_97, kr_98, rfl, N, K0, sz_x_96, sz_tr_97, G101, G102, G103, G104⟩
set_option maxRecDepth 65536 in
set_option maxHeartbeats 40000000 in
theorem rm0 (l : Launch) (Z : State) (a0 : Array Value) (hw : HW_ a0 Z) (p0 : Int32) (p1 : Int32) (p2 : Int32) (p3 : Int32) (p4 : Int32) (G1 : Int32) (h0 : Heap) (n0 : Nat) (Z0 : n0 ≤ h0.size) (P0_Old : Old Z n0 h0) (O2 : Sta Z Z.heap "java/lang/String" "COMPACT_STRINGS" "Z" (.int G1)) (P5 : ¬ G1 = (0 : Int32)) :
    CtL l x code maxLocals ret tables_1 room_1 Z own_EL #[(.int p0), (.int p1), (.int p2), (.int p3), (.int p4)] h0 (fun v h L => v = some (.int 1) ∧ Fr n0 L ∧ Keep h0 h []) := by
  refine CtL.walk (Ls := #[.val (.int p0), .val (.int p1), .val (.int p2), .val (.int p3), .val (.int p4), .unset, .unset, .unset, .unset, .unset, .unset, .unset, .unset, .unset, .unset, .unset]) (plainFor_of_name own_pn11) (fun m => by first | (simp [entryFrame, mkF, argsToLocals, Value.category, maxLocals]; done) | rfl) ?_
  intro p e s m below meth cc_ T vm k0 hx hby hml hown hnm hret hlk hZ X eT hS hk C
  have N := Fr.nil n0
  have K0 := Keep.refl h0 []
  have sz_h : h0.size ≤ h0.size := Nat.le_refl _
  refine giloadN (v := p0) X hx 1 (hb hby at_0) rfl rfl ?_
  refine gsipush X hx (255 : Int32) 4 (hb hby at_1) rfl rfl ?_
  refine giand X hx 5 (hb hby at_4) rfl ?_
  refine gi2c X hx 6 (hb hby at_5) rfl ?_
  rw [own_i2c8]
  refine gistore X hx #[.val (.int p0), .val (.int p1), .val (.int p2), .val (.int p3), .val (.int p4), .val (.int (p0 &&& (255 : Int32))), .unset, .unset, .unset, .unset, .unset, .unset, .unset, .unset, .unset, .unset] 8 (hb hby at_6) rfl rfl ?_
  refine giloadN (v := p1) X hx 9 (hb hby at_8) rfl rfl ?_
  refine gsipush X hx (255 : Int32) 12 (hb hby at_9) rfl rfl ?_
  refine giand X hx 13 (hb hby at_12) rfl ?_
  refine gi2c X hx 14 (hb hby at_13) rfl ?_
  rw [own_i2c8]
  refine gistore X hx #[.val (.int p0), .val (.int p1), .val (.int p2), .val (.int p3), .val (.int p4), .val (.int (p0 &&& (255 : Int32))), .val (.int (p1 &&& (255 : Int32))), .unset, .unset, .unset, .unset, .unset, .unset, .unset, .unset, .unset] 16 (hb hby at_14) rfl rfl ?_
  refine giloadN (v := p2) X hx 17 (hb hby at_16) rfl rfl ?_
  refine gsipush X hx (255 : Int32) 20 (hb hby at_17) rfl rfl ?_
  refine giand X hx 21 (hb hby at_20) rfl ?_
  refine gi2c X hx 22 (hb hby at_21) rfl ?_
  rw [own_i2c8]
  refine gistore X hx #[.val (.int p0), .val (.int p1), .val (.int p2), .val (.int p3), .val (.int p4), .val (.int (p0 &&& (255 : Int32))), .val (.int (p1 &&& (255 : Int32))), .val (.int (p2 &&& (255 : Int32))), .unset, .unset, .unset, .unset, .unset, .unset, .unset, .unset] 24 (hb hby at_22) rfl rfl ?_
  refine giloadN (v := p3) X hx 25 (hb hby at_24) rfl rfl ?_
  refine gsipush X hx (255 : Int32) 28 (hb hby at_25) rfl rfl ?_
  refine giand X hx 29 (hb hby at_28) rfl ?_
  refine gi2c X hx 30 (hb hby at_29) rfl ?_
  rw [own_i2c8]
  refine gistore X hx #[.val (.int p0), .val (.int p1), .val (.int p2), .val (.int p3), .val (.int p4), .val (.int (p0 &&& (255 : Int32))), .val (.int (p1 &&& (255 : Int32))), .val (.int (p2 &&& (255 : Int32))), .val (.int (p3 &&& (255 : Int32))), .unset, .unset, .unset, .unset, .unset, .unset, .unset] 32 (hb hby at_30) rfl rfl ?_
  refine giload (v := p4) X hx 34 (hb hby at_32) rfl rfl ?_
  refine giconst X hx (1 : Int32) 35 (hb hby at_34) rfl rfl ?_
  refine giand X hx 36 (hb hby at_35) rfl ?_
  rcases Decidable.em ((p4 &&& (1 : Int32)) = (0 : Int32)) with fl36 | fl36
  · refine gifYes X hx 43 (hb hby at_36) ((if0 _ _).trans (teq fl36).1) (by decide) (by decide) ?_
    refine giconst X hx (0 : Int32) 44 (hb hby at_43) rfl rfl ?_
    refine gistore X hx #[.val (.int p0), .val (.int p1), .val (.int p2), .val (.int p3), .val (.int p4), .val (.int (p0 &&& (255 : Int32))), .val (.int (p1 &&& (255 : Int32))), .val (.int (p2 &&& (255 : Int32))), .val (.int (p3 &&& (255 : Int32))), .val (.int 0), .unset, .unset, .unset, .unset, .unset, .unset] 46 (hb hby at_44) rfl rfl ?_
    refine gnewO X hx hZ hown (own_w0 hw) (own_w1 hw) (own_w2 hw) eT 1 4 rfl rfl (by decide) (by decide) 49 (hb hby at_46) rfl ?_
    clear X eT; clear T; intro T h1 b2 X eT ga E3 A4 D5
    have le_a := Nat.le_of_eq ga.symm
    have sz_b2 : h0.size ≤ b2 := Nat.le_trans sz_h le_a
    have ge_b2 : n0 ≤ b2 := Nat.le_trans Z0 sz_b2
    have Sf_b2 := Safe.ext E3 C.1 (Safe.new le_a)
    clear le_a ga
    replace P0_Old := P0_Old.ext E3
    replace K0 := K0.ext E3
    replace C := C.trans (CHr.ext E3 C.1)
    replace hk := Nat.le_trans hk E3.1
    replace sz_h : h0.size ≤ h1.size := Nat.le_trans sz_h E3.1
    have F_coder_b2 : Fld Z h1 b2 "java/lang/String" "coder" "B" (.int 0) := D5 (Or.inr (own_w27 hw)) (ty := .byte) own_pf1
    have F_value_b2 : Fld Z h1 b2 "java/lang/String" "value" "[B" .null := D5 (Or.inr (own_w29 hw)) (ty := (.array .byte)) own_pf0
    clear D5
    refine gdup X hx 50 (hb hby at_49) rfl rfl ?_
    refine giconst X hx (2 : Int32) 51 (hb hby at_50) rfl rfl ?_
    refine gnewP (aty := .char) X hx hZ (own_w3 hw) eT (n := (2 : Int32)) (by decide) 2 (by decide) (by decide) 2 6 rfl rfl (by decide) (by decide) 53 (hb hby at_51) rfl ?_
    clear X eT; clear T; intro T h6 b7 kc10 X eT ga E8 V9
    have le_a := Nat.le_of_eq ga.symm
    have ne_b2_b7 : b2 ≠ b7 := Nat.ne_of_lt (Nat.lt_of_lt_of_le A4.lt le_a)
    have ne_b7_b2 : b7 ≠ b2 := Ne.symm ne_b2_b7
    have sz_b7 : h0.size ≤ b7 := Nat.le_trans sz_h le_a
    have ge_b7 : n0 ≤ b7 := Nat.le_trans Z0 sz_b7
    clear le_a ga
    replace P0_Old := P0_Old.ext E8
    replace A4 := A4.ext E8
    replace Sf_b2 := Safe.ext E8 C.1 Sf_b2
    replace F_coder_b2 := F_coder_b2.ext E8
    replace F_value_b2 := F_value_b2.ext E8
    replace K0 := K0.ext E8
    replace C := C.trans (CHr.ext E8 C.1)
    replace hk := Nat.le_trans hk E8.1
    replace sz_h : h0.size ≤ h6.size := Nat.le_trans sz_h E8.1
    replace V9 : Arv Z h6 b7 kc10 .char (2 : Int32) [(.int 0), (.int 0)] (.int 0) := V9.pad (pad_rep [] _ 2)
    refine gdup X hx 54 (hb hby at_53) rfl rfl ?_
    refine giconst X hx (0 : Int32) 55 (hb hby at_54) rfl rfl ?_
    refine giload (v := (p0 &&& (255 : Int32))) X hx 57 (hb hby at_55) rfl rfl ?_
    refine gcastore X hx hZ eT V9 (by decide) (by decide) 0 rfl (Nat.le_of_ble_eq_true rfl) N ge_b7 58 (hb hby at_57) rfl ?_
    clear X eT N; clear T; intro T h12 L X eT N W11 V13
    have sfw := (Safe.arv (EL := own_EL) (vm := vm) hZ.alike V9 (fun z => by cases z))
    replace P0_Old := P0_Old.wr W11 ge_b7
    replace A4 := A4.wr W11
    replace Sf_b2 := Safe.wr W11 sfw C.1 Sf_b2
    replace F_coder_b2 := F_coder_b2.other W11 (Or.inl ne_b2_b7)
    replace F_value_b2 := F_value_b2.other W11 (Or.inl ne_b2_b7)
    replace K0 := K0.wr W11 (Or.inr sz_b7)
    replace C := C.trans (CHr.wr W11 sfw C.1)
    replace hk : k0 ≤ h12.size := by rw [Wr.size W11]; exact hk
    replace sz_h : h0.size ≤ h12.size := by rw [Wr.size W11]; exact sz_h
    replace V13 : Arv Z h12 b7 kc10 .char (2 : Int32) [(.int (p0 &&& (255 : Int32))), (.int 0)] (.int 0) := by have z := V13; rw [own_nar8] at z; exact z
    refine gdup X hx 59 (hb hby at_58) rfl rfl ?_
    refine giconst X hx (1 : Int32) 60 (hb hby at_59) rfl rfl ?_
    refine giload (v := (p1 &&& (255 : Int32))) X hx 62 (hb hby at_60) rfl rfl ?_
    refine gcastore X hx hZ eT V13 (by decide) (by decide) 1 rfl (Nat.le_of_ble_eq_true rfl) N ge_b7 63 (hb hby at_62) rfl ?_
    clear X eT N; clear T; intro T h15 L X eT N W14 V16
    have sfw := (Safe.arv (EL := own_EL) (vm := vm) hZ.alike V13 (fun z => by cases z))
    replace P0_Old := P0_Old.wr W14 ge_b7
    replace A4 := A4.wr W14
    replace Sf_b2 := Safe.wr W14 sfw C.1 Sf_b2
    replace F_coder_b2 := F_coder_b2.other W14 (Or.inl ne_b2_b7)
    replace F_value_b2 := F_value_b2.other W14 (Or.inl ne_b2_b7)
    replace K0 := K0.wr W14 (Or.inr sz_b7)
    replace C := C.trans (CHr.wr W14 sfw C.1)
    replace hk : k0 ≤ h15.size := by rw [Wr.size W14]; exact hk
    replace sz_h : h0.size ≤ h15.size := by rw [Wr.size W14]; exact sz_h
    replace V16 : Arv Z h15 b7 kc10 .char (2 : Int32) [(.int (p0 &&& (255 : Int32))), (.int (p1 &&& (255 : Int32)))] (.int 0) := by have z := V16; rw [own_nar8] at z; exact z
    refine gspecial (y := (⟨"java/lang/String", "<init>", "([C)V"⟩ : MethodName)) (a := b2) (argsL := [(.ref b7)]) (st := [(.ref b2)]) X hx hZ hown rfl (own_w4 hw) (own_w5 hw) (own_w6 hw) (by decide) (StrChars.Road.backV (W := 1) hZ (own_hws hw) (kI := 4) (own_w1 hw) (cs := ([(p0 &&& (255 : Int32)), (p1 &&& (255 : Int32))] : List Int32)) (bs := ([(p0 &&& (255 : Int32)), (p1 &&& (255 : Int32))] : List Int32).map (fun c => c.toInt8.toInt32)) (n := 2) (n0 := n0) ge_b2 (Nat.le_trans Z0 sz_h) A4 F_value_b2 F_coder_b2 V16 (O2.ext P0_Old.2) P5 rfl rfl (by decide) (by decide) (own_cS (own_rng _) (own_cS (own_rng _) own_c0)) rfl (by decide) (by decide)) eT (by rw [hml]; rfl) (lenOf own_pd21 rfl) rfl (Nat.le_of_eq rfl) 3 8 rfl rfl (by decide) (by decide) 66 (hb hby at_63) rfl ?_
    clear X eT; clear T; intro v T h17 L2 Lc X eT hL hQ18
    obtain ⟨rfl, Nq, K19, E22, F23, t20, kb21, -, zz_t20, ntx26, F24, V25⟩ := hQ18
    replace N : Fr n0 L2 := by rw [hL]; exact Fr.app N Nq
    clear Nq hL
    have ne_b2_t20 : b2 ≠ t20 := Nat.ne_of_lt (Nat.lt_of_lt_of_le A4.lt zz_t20)
    have ne_t20_b2 : t20 ≠ b2 := Ne.symm ne_b2_t20
    have ne_b7_t20 : b7 ≠ t20 := Nat.ne_of_lt (Nat.lt_of_lt_of_le V16.lt zz_t20)
    have ne_t20_b7 : t20 ≠ b7 := Ne.symm ne_b7_t20
    have sz_t20 : h0.size ≤ t20 := Nat.le_trans sz_h zz_t20
    have ge_t20 : n0 ≤ t20 := Nat.le_trans Z0 sz_t20
    have sfs := (sfS Sf_b2 sf0)
    replace P0_Old := P0_Old.keep K19 (allS ge_b2 all0)
    replace A4 := A4.keep K19
    replace Sf_b2 := Safe.keep K19 sfs C.1 Sf_b2
    replace V16 := V16.keep K19 (ninS ne_b7_b2 nin0)
    replace K0 := K0.trans K19 (allS (Or.inr sz_b2) all0)
    replace C := C.trans (CHr.keep K19 sfs C.1)
    replace hk := Nat.le_trans hk K19.1
    replace sz_h : h0.size ≤ h17.size := Nat.le_trans sz_h K19.1
    show Go p e below _ T (mkF m 66 #[.val (.int p0), .val (.int p1), .val (.int p2), .val (.int p3), .val (.int p4), .val (.int (p0 &&& (255 : Int32))), .val (.int (p1 &&& (255 : Int32))), .val (.int (p2 &&& (255 : Int32))), .val (.int (p3 &&& (255 : Int32))), .val (.int 0), .unset, .unset, .unset, .unset, .unset, .unset] [(.ref b2)])
    refine gastore X hx #[.val (.int p0), .val (.int p1), .val (.int p2), .val (.int p3), .val (.int p4), .val (.int (p0 &&& (255 : Int32))), .val (.int (p1 &&& (255 : Int32))), .val (.int (p2 &&& (255 : Int32))), .val (.int (p3 &&& (255 : Int32))), .val (.int 0), .val (.ref b2), .unset, .unset, .unset, .unset, .unset] 68 (hb hby at_66) rfl rfl rfl ?_
    refine giload (v := (0 : Int32)) X hx 70 (hb hby at_68) rfl rfl ?_
    refine gifYes X hx 96 (hb hby at_70) (by decide) (by decide) (by decide) ?_
    refine gaconstNull X hx 97 (hb hby at_96) rfl ?_
    refine gastore X hx #[.val (.int p0), .val (.int p1), .val (.int p2), .val (.int p3), .val (.int p4), .val (.int (p0 &&& (255 : Int32))), .val (.int (p1 &&& (255 : Int32))), .val (.int (p2 &&& (255 : Int32))), .val (.int (p3 &&& (255 : Int32))), .val (.int 0), .val (.ref b2), .val .null, .unset, .unset, .unset, .unset] 99 (hb hby at_97) rfl rfl rfl ?_
    refine gbipush X hx (19 : Int32) 101 (hb hby at_99) rfl rfl ?_
    refine gnewP (aty := .char) X hx hZ (own_w3 hw) eT (n := (19 : Int32)) (by decide) 19 (by decide) (by decide) 4 27 rfl rfl (by decide) (by decide) 103 (hb hby at_101) rfl ?_
    clear X eT; clear T; intro T h27 b28 kc31 X eT ga E29 V30
    have le_a := Nat.le_of_eq ga.symm
    have ne_b2_b28 : b2 ≠ b28 := Nat.ne_of_lt (Nat.lt_of_lt_of_le E22.lt le_a)
    have ne_b28_b2 : b28 ≠ b2 := Ne.symm ne_b2_b28
    have ne_t20_b28 : t20 ≠ b28 := Nat.ne_of_lt (Nat.lt_of_lt_of_le V25.lt le_a)
    have ne_b28_t20 : b28 ≠ t20 := Ne.symm ne_t20_b28
    have sz_b28 : h0.size ≤ b28 := Nat.le_trans sz_h le_a
    have ge_b28 : n0 ≤ b28 := Nat.le_trans Z0 sz_b28
    clear le_a ga
    replace P0_Old := P0_Old.ext E29
    replace E22 := E22.ext E29
    replace Sf_b2 := Safe.ext E29 C.1 Sf_b2
    replace F23 := F23.ext E29
    replace F24 := F24.ext E29
    replace V25 := V25.ext E29
    replace K0 := K0.ext E29
    replace C := C.trans (CHr.ext E29 C.1)
    replace hk := Nat.le_trans hk E29.1
    replace sz_h : h0.size ≤ h27.size := Nat.le_trans sz_h E29.1
    replace V30 : Arv Z h27 b28 kc31 .char (19 : Int32) [(.int 0), (.int 0), (.int 0), (.int 0), (.int 0), (.int 0), (.int 0), (.int 0), (.int 0), (.int 0), (.int 0), (.int 0), (.int 0), (.int 0), (.int 0), (.int 0), (.int 0), (.int 0), (.int 0)] (.int 0) := V30.pad (pad_rep [] _ 19)
    refine gastore X hx #[.val (.int p0), .val (.int p1), .val (.int p2), .val (.int p3), .val (.int p4), .val (.int (p0 &&& (255 : Int32))), .val (.int (p1 &&& (255 : Int32))), .val (.int (p2 &&& (255 : Int32))), .val (.int (p3 &&& (255 : Int32))), .val (.int 0), .val (.ref b2), .val .null, .val (.ref b28), .unset, .unset, .unset] 105 (hb hby at_103) rfl rfl rfl ?_
    refine gaload (v := (.ref b28)) X hx 107 (hb hby at_105) rfl rfl rfl ?_
    refine giconst X hx (0 : Int32) 108 (hb hby at_107) rfl rfl ?_
    refine gstatic (y := (⟨"com/example/sessionsmith/sessionsmith/SchemaProblemToStringPinLaw", "putTableWord", "([CI)V"⟩ : MethodName)) (argsL := [(.ref b28), (.int 0)]) (st := []) X hx hZ hown (own_w30 hw) (own_w31 hw) (own_w32 hw) (own_w33 hw) (by decide) (payP (W := 0) (rmPut_putTableWord_19 l Z a0 hw (b28) (kc31) ((.int 0)) ((.int 0)) ((.int 0)) ((.int 0)) ((.int 0)) ((.int 0)) ((.int 0)) ((.int 0)) ((.int 0)) ((.int 0)) ((.int 0)) ((.int 0)) ((.int 0)) ((.int 0)) ((.int 0)) ((.int 0)) ((.int 0)) ((.int 0)) ((.int 0)) h27 n0 (Nat.le_trans Z0 sz_h) ge_b28 V30) hZ (own_w33 hw) (own_w32 hw) (by decide) (by decide)) eT (by rw [hml]; rfl) (lenOf own_pd22 rfl) rfl (Nat.le_of_eq rfl) 4 27 rfl rfl (by decide) (by decide) 111 (hb hby at_108) rfl ?_
    clear X eT; clear T; intro v T h32 L2 Lc X eT hL hQ33
    obtain ⟨rfl, Nq, K34, G36⟩ := hQ33
    replace N : Fr n0 L2 := by rw [hL]; exact Fr.app N Nq
    clear Nq hL
    have sfs := (sfS (Safe.arv (EL := own_EL) (vm := vm) hZ.alike V30 (fun z => by cases z)) sf0)
    replace P0_Old := P0_Old.keep K34 (allS ge_b28 all0)
    replace E22 := E22.keep K34
    replace Sf_b2 := Safe.keep K34 sfs C.1 Sf_b2
    replace F23 := F23.keep K34 (ninS ne_b2_b28 nin0)
    replace F24 := F24.keep K34 (ninS ne_b2_b28 nin0)
    replace V25 := V25.keep K34 (ninS ne_t20_b28 nin0)
    replace K0 := K0.trans K34 (allS (Or.inr sz_b28) all0)
    replace C := C.trans (CHr.keep K34 sfs C.1)
    replace hk := Nat.le_trans hk K34.1
    replace sz_h : h0.size ≤ h32.size := Nat.le_trans sz_h K34.1
    show Go p e below _ T (mkF m 111 #[.val (.int p0), .val (.int p1), .val (.int p2), .val (.int p3), .val (.int p4), .val (.int (p0 &&& (255 : Int32))), .val (.int (p1 &&& (255 : Int32))), .val (.int (p2 &&& (255 : Int32))), .val (.int (p3 &&& (255 : Int32))), .val (.int 0), .val (.ref b2), .val .null, .val (.ref b28), .unset, .unset, .unset] [])
    refine gaload (v := (.ref b28)) X hx 113 (hb hby at_111) rfl rfl rfl ?_
    refine gbipush X hx (6 : Int32) 115 (hb hby at_113) rfl rfl ?_
    refine giload (v := (p0 &&& (255 : Int32))) X hx 117 (hb hby at_115) rfl rfl ?_
    refine gcastore X hx hZ eT G36 (by decide) (by decide) 6 rfl (Nat.le_of_ble_eq_true rfl) N ge_b28 118 (hb hby at_117) rfl ?_
    clear X eT N; clear T; intro T h38 L X eT N W37 V39
    have sfw := (Safe.arv (EL := own_EL) (vm := vm) hZ.alike G36 (fun z => by cases z))
    replace P0_Old := P0_Old.wr W37 ge_b28
    replace E22 := E22.wr W37
    replace Sf_b2 := Safe.wr W37 sfw C.1 Sf_b2
    replace F23 := F23.other W37 (Or.inl ne_b2_b28)
    replace F24 := F24.other W37 (Or.inl ne_b2_b28)
    replace V25 := V25.other W37 ne_t20_b28
    replace K0 := K0.wr W37 (Or.inr sz_b28)
    replace C := C.trans (CHr.wr W37 sfw C.1)
    replace hk : k0 ≤ h38.size := by rw [Wr.size W37]; exact hk
    replace sz_h : h0.size ≤ h38.size := by rw [Wr.size W37]; exact sz_h
    replace V39 : Arv Z h38 b28 kc31 .char (19 : Int32) [(.int 116), (.int 97), (.int 98), (.int 108), (.int 101), (.int 32), (.int (p0 &&& (255 : Int32))), (.int 0), (.int 0), (.int 0), (.int 0), (.int 0), (.int 0), (.int 0), (.int 0), (.int 0), (.int 0), (.int 0), (.int 0)] (.int 0) := by have z := V39; rw [own_nar8] at z; exact z
    refine gaload (v := (.ref b28)) X hx 120 (hb hby at_118) rfl rfl rfl ?_
    refine gbipush X hx (7 : Int32) 122 (hb hby at_120) rfl rfl ?_
    refine giload (v := (p1 &&& (255 : Int32))) X hx 124 (hb hby at_122) rfl rfl ?_
    refine gcastore X hx hZ eT V39 (by decide) (by decide) 7 rfl (Nat.le_of_ble_eq_true rfl) N ge_b28 125 (hb hby at_124) rfl ?_
    clear X eT N; clear T; intro T h41 L X eT N W40 V42
    have sfw := (Safe.arv (EL := own_EL) (vm := vm) hZ.alike V39 (fun z => by cases z))
    replace P0_Old := P0_Old.wr W40 ge_b28
    replace E22 := E22.wr W40
    replace Sf_b2 := Safe.wr W40 sfw C.1 Sf_b2
    replace F23 := F23.other W40 (Or.inl ne_b2_b28)
    replace F24 := F24.other W40 (Or.inl ne_b2_b28)
    replace V25 := V25.other W40 ne_t20_b28
    replace K0 := K0.wr W40 (Or.inr sz_b28)
    replace C := C.trans (CHr.wr W40 sfw C.1)
    replace hk : k0 ≤ h41.size := by rw [Wr.size W40]; exact hk
    replace sz_h : h0.size ≤ h41.size := by rw [Wr.size W40]; exact sz_h
    replace V42 : Arv Z h41 b28 kc31 .char (19 : Int32) [(.int 116), (.int 97), (.int 98), (.int 108), (.int 101), (.int 32), (.int (p0 &&& (255 : Int32))), (.int (p1 &&& (255 : Int32))), (.int 0), (.int 0), (.int 0), (.int 0), (.int 0), (.int 0), (.int 0), (.int 0), (.int 0), (.int 0), (.int 0)] (.int 0) := by have z := V42; rw [own_nar8] at z; exact z
    refine gaload (v := (.ref b28)) X hx 127 (hb hby at_125) rfl rfl rfl ?_
    refine gbipush X hx (8 : Int32) 129 (hb hby at_127) rfl rfl ?_
    refine gstatic (y := (⟨"com/example/sessionsmith/sessionsmith/SchemaProblemToStringPinLaw", "putIsMissing", "([CI)V"⟩ : MethodName)) (argsL := [(.ref b28), (.int 8)]) (st := []) X hx hZ hown (own_w34 hw) (own_w35 hw) (own_w32 hw) (own_w36 hw) (by decide) (payP (W := 0) (rmPut_putIsMissing_19 l Z a0 hw (b28) (kc31) ((.int 116)) ((.int 97)) ((.int 98)) ((.int 108)) ((.int 101)) ((.int 32)) ((.int (p0 &&& (255 : Int32)))) ((.int (p1 &&& (255 : Int32)))) ((.int 0)) ((.int 0)) ((.int 0)) ((.int 0)) ((.int 0)) ((.int 0)) ((.int 0)) ((.int 0)) ((.int 0)) ((.int 0)) ((.int 0)) h41 n0 (Nat.le_trans Z0 sz_h) ge_b28 V42) hZ (own_w36 hw) (own_w32 hw) (by decide) (by decide)) eT (by rw [hml]; rfl) (lenOf own_pd22 rfl) rfl (Nat.le_of_eq rfl) 4 27 rfl rfl (by decide) (by decide) 132 (hb hby at_129) rfl ?_
    clear X eT; clear T; intro v T h43 L2 Lc X eT hL hQ44
    obtain ⟨rfl, Nq, K45, G47⟩ := hQ44
    replace N : Fr n0 L2 := by rw [hL]; exact Fr.app N Nq
    clear Nq hL
    have sfs := (sfS (Safe.arv (EL := own_EL) (vm := vm) hZ.alike V42 (fun z => by cases z)) sf0)
    replace P0_Old := P0_Old.keep K45 (allS ge_b28 all0)
    replace E22 := E22.keep K45
    replace Sf_b2 := Safe.keep K45 sfs C.1 Sf_b2
    replace F23 := F23.keep K45 (ninS ne_b2_b28 nin0)
    replace F24 := F24.keep K45 (ninS ne_b2_b28 nin0)
    replace V25 := V25.keep K45 (ninS ne_t20_b28 nin0)
    replace K0 := K0.trans K45 (allS (Or.inr sz_b28) all0)
    replace C := C.trans (CHr.keep K45 sfs C.1)
    replace hk := Nat.le_trans hk K45.1
    replace sz_h : h0.size ≤ h43.size := Nat.le_trans sz_h K45.1
    show Go p e below _ T (mkF m 132 #[.val (.int p0), .val (.int p1), .val (.int p2), .val (.int p3), .val (.int p4), .val (.int (p0 &&& (255 : Int32))), .val (.int (p1 &&& (255 : Int32))), .val (.int (p2 &&& (255 : Int32))), .val (.int (p3 &&& (255 : Int32))), .val (.int 0), .val (.ref b2), .val .null, .val (.ref b28), .unset, .unset, .unset] [])
    refine gbipush X hx (32 : Int32) 134 (hb hby at_132) rfl rfl ?_
    refine gnewP (aty := .char) X hx hZ (own_w3 hw) eT (n := (32 : Int32)) (by decide) 32 (by decide) (by decide) 5 59 rfl rfl (by decide) (by decide) 136 (hb hby at_134) rfl ?_
    clear X eT; clear T; intro T h48 b49 kc52 X eT ga E50 V51
    have le_a := Nat.le_of_eq ga.symm
    have ne_b2_b49 : b2 ≠ b49 := Nat.ne_of_lt (Nat.lt_of_lt_of_le E22.lt le_a)
    have ne_b49_b2 : b49 ≠ b2 := Ne.symm ne_b2_b49
    have ne_t20_b49 : t20 ≠ b49 := Nat.ne_of_lt (Nat.lt_of_lt_of_le V25.lt le_a)
    have ne_b49_t20 : b49 ≠ t20 := Ne.symm ne_t20_b49
    have ne_b28_b49 : b28 ≠ b49 := Nat.ne_of_lt (Nat.lt_of_lt_of_le G47.lt le_a)
    have ne_b49_b28 : b49 ≠ b28 := Ne.symm ne_b28_b49
    have sz_b49 : h0.size ≤ b49 := Nat.le_trans sz_h le_a
    have ge_b49 : n0 ≤ b49 := Nat.le_trans Z0 sz_b49
    clear le_a ga
    replace P0_Old := P0_Old.ext E50
    replace E22 := E22.ext E50
    replace Sf_b2 := Safe.ext E50 C.1 Sf_b2
    replace F23 := F23.ext E50
    replace F24 := F24.ext E50
    replace V25 := V25.ext E50
    replace G47 := G47.ext E50
    replace K0 := K0.ext E50
    replace C := C.trans (CHr.ext E50 C.1)
    replace hk := Nat.le_trans hk E50.1
    replace sz_h : h0.size ≤ h48.size := Nat.le_trans sz_h E50.1
    replace V51 : Arv Z h48 b49 kc52 .char (32 : Int32) [(.int 0), (.int 0), (.int 0), (.int 0), (.int 0), (.int 0), (.int 0), (.int 0), (.int 0), (.int 0), (.int 0), (.int 0), (.int 0), (.int 0), (.int 0), (.int 0), (.int 0), (.int 0), (.int 0), (.int 0), (.int 0), (.int 0), (.int 0), (.int 0), (.int 0), (.int 0), (.int 0), (.int 0), (.int 0), (.int 0), (.int 0), (.int 0)] (.int 0) := V51.pad (pad_rep [] _ 32)
    refine gastore X hx #[.val (.int p0), .val (.int p1), .val (.int p2), .val (.int p3), .val (.int p4), .val (.int (p0 &&& (255 : Int32))), .val (.int (p1 &&& (255 : Int32))), .val (.int (p2 &&& (255 : Int32))), .val (.int (p3 &&& (255 : Int32))), .val (.int 0), .val (.ref b2), .val .null, .val (.ref b28), .val (.ref b49), .unset, .unset] 138 (hb hby at_136) rfl rfl rfl ?_
    refine gaload (v := (.ref b49)) X hx 140 (hb hby at_138) rfl rfl rfl ?_
    refine giconst X hx (0 : Int32) 141 (hb hby at_140) rfl rfl ?_
    refine gbipush X hx (99 : Int32) 143 (hb hby at_141) rfl rfl ?_
    refine gcastore X hx hZ eT V51 (by decide) (by decide) 0 rfl (Nat.le_of_ble_eq_true rfl) N ge_b49 144 (hb hby at_143) rfl ?_
    clear X eT N; clear T; intro T h54 L X eT N W53 V55
    have sfw := (Safe.arv (EL := own_EL) (vm := vm) hZ.alike V51 (fun z => by cases z))
    replace P0_Old := P0_Old.wr W53 ge_b49
    replace E22 := E22.wr W53
    replace Sf_b2 := Safe.wr W53 sfw C.1 Sf_b2
    replace F23 := F23.other W53 (Or.inl ne_b2_b49)
    replace F24 := F24.other W53 (Or.inl ne_b2_b49)
    replace V25 := V25.other W53 ne_t20_b49
    replace G47 := G47.other W53 ne_b28_b49
    replace K0 := K0.wr W53 (Or.inr sz_b49)
    replace C := C.trans (CHr.wr W53 sfw C.1)
    replace hk : k0 ≤ h54.size := by rw [Wr.size W53]; exact hk
    replace sz_h : h0.size ≤ h54.size := by rw [Wr.size W53]; exact sz_h
    replace V55 : Arv Z h54 b49 kc52 .char (32 : Int32) [(.int 99), (.int 0), (.int 0), (.int 0), (.int 0), (.int 0), (.int 0), (.int 0), (.int 0), (.int 0), (.int 0), (.int 0), (.int 0), (.int 0), (.int 0), (.int 0), (.int 0), (.int 0), (.int 0), (.int 0), (.int 0), (.int 0), (.int 0), (.int 0), (.int 0), (.int 0), (.int 0), (.int 0), (.int 0), (.int 0), (.int 0), (.int 0)] (.int 0) := V55
    refine gaload (v := (.ref b49)) X hx 146 (hb hby at_144) rfl rfl rfl ?_
    refine giconst X hx (1 : Int32) 147 (hb hby at_146) rfl rfl ?_
    refine gbipush X hx (111 : Int32) 149 (hb hby at_147) rfl rfl ?_
    refine gcastore X hx hZ eT V55 (by decide) (by decide) 1 rfl (Nat.le_of_ble_eq_true rfl) N ge_b49 150 (hb hby at_149) rfl ?_
    clear X eT N; clear T; intro T h57 L X eT N W56 V58
    have sfw := (Safe.arv (EL := own_EL) (vm := vm) hZ.alike V55 (fun z => by cases z))
    replace P0_Old := P0_Old.wr W56 ge_b49
    replace E22 := E22.wr W56
    replace Sf_b2 := Safe.wr W56 sfw C.1 Sf_b2
    replace F23 := F23.other W56 (Or.inl ne_b2_b49)
    replace F24 := F24.other W56 (Or.inl ne_b2_b49)
    replace V25 := V25.other W56 ne_t20_b49
    replace G47 := G47.other W56 ne_b28_b49
    replace K0 := K0.wr W56 (Or.inr sz_b49)
    replace C := C.trans (CHr.wr W56 sfw C.1)
    replace hk : k0 ≤ h57.size := by rw [Wr.size W56]; exact hk
    replace sz_h : h0.size ≤ h57.size := by rw [Wr.size W56]; exact sz_h
    replace V58 : Arv Z h57 b49 kc52 .char (32 : Int32) [(.int 99), (.int 111), (.int 0), (.int 0), (.int 0), (.int 0), (.int 0), (.int 0), (.int 0), (.int 0), (.int 0), (.int 0), (.int 0), (.int 0), (.int 0), (.int 0), (.int 0), (.int 0), (.int 0), (.int 0), (.int 0), (.int 0), (.int 0), (.int 0), (.int 0), (.int 0), (.int 0), (.int 0), (.int 0), (.int 0), (.int 0), (.int 0)] (.int 0) := V58
    refine gaload (v := (.ref b49)) X hx 152 (hb hby at_150) rfl rfl rfl ?_
    refine giconst X hx (2 : Int32) 153 (hb hby at_152) rfl rfl ?_
    refine gbipush X hx (108 : Int32) 155 (hb hby at_153) rfl rfl ?_
    refine gcastore X hx hZ eT V58 (by decide) (by decide) 2 rfl (Nat.le_of_ble_eq_true rfl) N ge_b49 156 (hb hby at_155) rfl ?_
    clear X eT N; clear T; intro T h60 L X eT N W59 V61
    have sfw := (Safe.arv (EL := own_EL) (vm := vm) hZ.alike V58 (fun z => by cases z))
    replace P0_Old := P0_Old.wr W59 ge_b49
    replace E22 := E22.wr W59
    replace Sf_b2 := Safe.wr W59 sfw C.1 Sf_b2
    replace F23 := F23.other W59 (Or.inl ne_b2_b49)
    replace F24 := F24.other W59 (Or.inl ne_b2_b49)
    replace V25 := V25.other W59 ne_t20_b49
    replace G47 := G47.other W59 ne_b28_b49
    replace K0 := K0.wr W59 (Or.inr sz_b49)
    replace C := C.trans (CHr.wr W59 sfw C.1)
    replace hk : k0 ≤ h60.size := by rw [Wr.size W59]; exact hk
    replace sz_h : h0.size ≤ h60.size := by rw [Wr.size W59]; exact sz_h
    replace V61 : Arv Z h60 b49 kc52 .char (32 : Int32) [(.int 99), (.int 111), (.int 108), (.int 0), (.int 0), (.int 0), (.int 0), (.int 0), (.int 0), (.int 0), (.int 0), (.int 0), (.int 0), (.int 0), (.int 0), (.int 0), (.int 0), (.int 0), (.int 0), (.int 0), (.int 0), (.int 0), (.int 0), (.int 0), (.int 0), (.int 0), (.int 0), (.int 0), (.int 0), (.int 0), (.int 0), (.int 0)] (.int 0) := V61
    refine gaload (v := (.ref b49)) X hx 158 (hb hby at_156) rfl rfl rfl ?_
    refine giconst X hx (3 : Int32) 159 (hb hby at_158) rfl rfl ?_
    refine gbipush X hx (117 : Int32) 161 (hb hby at_159) rfl rfl ?_
    refine gcastore X hx hZ eT V61 (by decide) (by decide) 3 rfl (Nat.le_of_ble_eq_true rfl) N ge_b49 162 (hb hby at_161) rfl ?_
    clear X eT N; clear T; intro T h63 L X eT N W62 V64
    have sfw := (Safe.arv (EL := own_EL) (vm := vm) hZ.alike V61 (fun z => by cases z))
    replace P0_Old := P0_Old.wr W62 ge_b49
    replace E22 := E22.wr W62
    replace Sf_b2 := Safe.wr W62 sfw C.1 Sf_b2
    replace F23 := F23.other W62 (Or.inl ne_b2_b49)
    replace F24 := F24.other W62 (Or.inl ne_b2_b49)
    replace V25 := V25.other W62 ne_t20_b49
    replace G47 := G47.other W62 ne_b28_b49
    replace K0 := K0.wr W62 (Or.inr sz_b49)
    replace C := C.trans (CHr.wr W62 sfw C.1)
    replace hk : k0 ≤ h63.size := by rw [Wr.size W62]; exact hk
    replace sz_h : h0.size ≤ h63.size := by rw [Wr.size W62]; exact sz_h
    replace V64 : Arv Z h63 b49 kc52 .char (32 : Int32) [(.int 99), (.int 111), (.int 108), (.int 117), (.int 0), (.int 0), (.int 0), (.int 0), (.int 0), (.int 0), (.int 0), (.int 0), (.int 0), (.int 0), (.int 0), (.int 0), (.int 0), (.int 0), (.int 0), (.int 0), (.int 0), (.int 0), (.int 0), (.int 0), (.int 0), (.int 0), (.int 0), (.int 0), (.int 0), (.int 0), (.int 0), (.int 0)] (.int 0) := V64
    refine gaload (v := (.ref b49)) X hx 164 (hb hby at_162) rfl rfl rfl ?_
    refine giconst X hx (4 : Int32) 165 (hb hby at_164) rfl rfl ?_
    refine gbipush X hx (109 : Int32) 167 (hb hby at_165) rfl rfl ?_
    refine gcastore X hx hZ eT V64 (by decide) (by decide) 4 rfl (Nat.le_of_ble_eq_true rfl) N ge_b49 168 (hb hby at_167) rfl ?_
    clear X eT N; clear T; intro T h66 L X eT N W65 V67
    have sfw := (Safe.arv (EL := own_EL) (vm := vm) hZ.alike V64 (fun z => by cases z))
    replace P0_Old := P0_Old.wr W65 ge_b49
    replace E22 := E22.wr W65
    replace Sf_b2 := Safe.wr W65 sfw C.1 Sf_b2
    replace F23 := F23.other W65 (Or.inl ne_b2_b49)
    replace F24 := F24.other W65 (Or.inl ne_b2_b49)
    replace V25 := V25.other W65 ne_t20_b49
    replace G47 := G47.other W65 ne_b28_b49
    replace K0 := K0.wr W65 (Or.inr sz_b49)
    replace C := C.trans (CHr.wr W65 sfw C.1)
    replace hk : k0 ≤ h66.size := by rw [Wr.size W65]; exact hk
    replace sz_h : h0.size ≤ h66.size := by rw [Wr.size W65]; exact sz_h
    replace V67 : Arv Z h66 b49 kc52 .char (32 : Int32) [(.int 99), (.int 111), (.int 108), (.int 117), (.int 109), (.int 0), (.int 0), (.int 0), (.int 0), (.int 0), (.int 0), (.int 0), (.int 0), (.int 0), (.int 0), (.int 0), (.int 0), (.int 0), (.int 0), (.int 0), (.int 0), (.int 0), (.int 0), (.int 0), (.int 0), (.int 0), (.int 0), (.int 0), (.int 0), (.int 0), (.int 0), (.int 0)] (.int 0) := V67
    refine gaload (v := (.ref b49)) X hx 170 (hb hby at_168) rfl rfl rfl ?_
    refine giconst X hx (5 : Int32) 171 (hb hby at_170) rfl rfl ?_
    refine gbipush X hx (110 : Int32) 173 (hb hby at_171) rfl rfl ?_
    refine gcastore X hx hZ eT V67 (by decide) (by decide) 5 rfl (Nat.le_of_ble_eq_true rfl) N ge_b49 174 (hb hby at_173) rfl ?_
    clear X eT N; clear T; intro T h69 L X eT N W68 V70
    have sfw := (Safe.arv (EL := own_EL) (vm := vm) hZ.alike V67 (fun z => by cases z))
    replace P0_Old := P0_Old.wr W68 ge_b49
    replace E22 := E22.wr W68
    replace Sf_b2 := Safe.wr W68 sfw C.1 Sf_b2
    replace F23 := F23.other W68 (Or.inl ne_b2_b49)
    replace F24 := F24.other W68 (Or.inl ne_b2_b49)
    replace V25 := V25.other W68 ne_t20_b49
    replace G47 := G47.other W68 ne_b28_b49
    replace K0 := K0.wr W68 (Or.inr sz_b49)
    replace C := C.trans (CHr.wr W68 sfw C.1)
    replace hk : k0 ≤ h69.size := by rw [Wr.size W68]; exact hk
    replace sz_h : h0.size ≤ h69.size := by rw [Wr.size W68]; exact sz_h
    replace V70 : Arv Z h69 b49 kc52 .char (32 : Int32) [(.int 99), (.int 111), (.int 108), (.int 117), (.int 109), (.int 110), (.int 0), (.int 0), (.int 0), (.int 0), (.int 0), (.int 0), (.int 0), (.int 0), (.int 0), (.int 0), (.int 0), (.int 0), (.int 0), (.int 0), (.int 0), (.int 0), (.int 0), (.int 0), (.int 0), (.int 0), (.int 0), (.int 0), (.int 0), (.int 0), (.int 0), (.int 0)] (.int 0) := V70
    refine gaload (v := (.ref b49)) X hx 176 (hb hby at_174) rfl rfl rfl ?_
    refine gbipush X hx (6 : Int32) 178 (hb hby at_176) rfl rfl ?_
    refine gbipush X hx (32 : Int32) 180 (hb hby at_178) rfl rfl ?_
    refine gcastore X hx hZ eT V70 (by decide) (by decide) 6 rfl (Nat.le_of_ble_eq_true rfl) N ge_b49 181 (hb hby at_180) rfl ?_
    clear X eT N; clear T; intro T h72 L X eT N W71 V73
    have sfw := (Safe.arv (EL := own_EL) (vm := vm) hZ.alike V70 (fun z => by cases z))
    replace P0_Old := P0_Old.wr W71 ge_b49
    replace E22 := E22.wr W71
    replace Sf_b2 := Safe.wr W71 sfw C.1 Sf_b2
    replace F23 := F23.other W71 (Or.inl ne_b2_b49)
    replace F24 := F24.other W71 (Or.inl ne_b2_b49)
    replace V25 := V25.other W71 ne_t20_b49
    replace G47 := G47.other W71 ne_b28_b49
    replace K0 := K0.wr W71 (Or.inr sz_b49)
    replace C := C.trans (CHr.wr W71 sfw C.1)
    replace hk : k0 ≤ h72.size := by rw [Wr.size W71]; exact hk
    replace sz_h : h0.size ≤ h72.size := by rw [Wr.size W71]; exact sz_h
    replace V73 : Arv Z h72 b49 kc52 .char (32 : Int32) [(.int 99), (.int 111), (.int 108), (.int 117), (.int 109), (.int 110), (.int 32), (.int 0), (.int 0), (.int 0), (.int 0), (.int 0), (.int 0), (.int 0), (.int 0), (.int 0), (.int 0), (.int 0), (.int 0), (.int 0), (.int 0), (.int 0), (.int 0), (.int 0), (.int 0), (.int 0), (.int 0), (.int 0), (.int 0), (.int 0), (.int 0), (.int 0)] (.int 0) := V73
    refine gaload (v := (.ref b49)) X hx 183 (hb hby at_181) rfl rfl rfl ?_
    refine gbipush X hx (7 : Int32) 185 (hb hby at_183) rfl rfl ?_
    refine giload (v := (p2 &&& (255 : Int32))) X hx 187 (hb hby at_185) rfl rfl ?_
    refine gcastore X hx hZ eT V73 (by decide) (by decide) 7 rfl (Nat.le_of_ble_eq_true rfl) N ge_b49 188 (hb hby at_187) rfl ?_
    clear X eT N; clear T; intro T h75 L X eT N W74 V76
    have sfw := (Safe.arv (EL := own_EL) (vm := vm) hZ.alike V73 (fun z => by cases z))
    replace P0_Old := P0_Old.wr W74 ge_b49
    replace E22 := E22.wr W74
    replace Sf_b2 := Safe.wr W74 sfw C.1 Sf_b2
    replace F23 := F23.other W74 (Or.inl ne_b2_b49)
    replace F24 := F24.other W74 (Or.inl ne_b2_b49)
    replace V25 := V25.other W74 ne_t20_b49
    replace G47 := G47.other W74 ne_b28_b49
    replace K0 := K0.wr W74 (Or.inr sz_b49)
    replace C := C.trans (CHr.wr W74 sfw C.1)
    replace hk : k0 ≤ h75.size := by rw [Wr.size W74]; exact hk
    replace sz_h : h0.size ≤ h75.size := by rw [Wr.size W74]; exact sz_h
    replace V76 : Arv Z h75 b49 kc52 .char (32 : Int32) [(.int 99), (.int 111), (.int 108), (.int 117), (.int 109), (.int 110), (.int 32), (.int (p2 &&& (255 : Int32))), (.int 0), (.int 0), (.int 0), (.int 0), (.int 0), (.int 0), (.int 0), (.int 0), (.int 0), (.int 0), (.int 0), (.int 0), (.int 0), (.int 0), (.int 0), (.int 0), (.int 0), (.int 0), (.int 0), (.int 0), (.int 0), (.int 0), (.int 0), (.int 0)] (.int 0) := by have z := V76; rw [own_nar8] at z; exact z
    refine gaload (v := (.ref b49)) X hx 190 (hb hby at_188) rfl rfl rfl ?_
    refine gbipush X hx (8 : Int32) 192 (hb hby at_190) rfl rfl ?_
    refine giload (v := (p3 &&& (255 : Int32))) X hx 194 (hb hby at_192) rfl rfl ?_
    refine gcastore X hx hZ eT V76 (by decide) (by decide) 8 rfl (Nat.le_of_ble_eq_true rfl) N ge_b49 195 (hb hby at_194) rfl ?_
    clear X eT N; clear T; intro T h78 L X eT N W77 V79
    have sfw := (Safe.arv (EL := own_EL) (vm := vm) hZ.alike V76 (fun z => by cases z))
    replace P0_Old := P0_Old.wr W77 ge_b49
    replace E22 := E22.wr W77
    replace Sf_b2 := Safe.wr W77 sfw C.1 Sf_b2
    replace F23 := F23.other W77 (Or.inl ne_b2_b49)
    replace F24 := F24.other W77 (Or.inl ne_b2_b49)
    replace V25 := V25.other W77 ne_t20_b49
    replace G47 := G47.other W77 ne_b28_b49
    replace K0 := K0.wr W77 (Or.inr sz_b49)
    replace C := C.trans (CHr.wr W77 sfw C.1)
    replace hk : k0 ≤ h78.size := by rw [Wr.size W77]; exact hk
    replace sz_h : h0.size ≤ h78.size := by rw [Wr.size W77]; exact sz_h
    replace V79 : Arv Z h78 b49 kc52 .char (32 : Int32) [(.int 99), (.int 111), (.int 108), (.int 117), (.int 109), (.int 110), (.int 32), (.int (p2 &&& (255 : Int32))), (.int (p3 &&& (255 : Int32))), (.int 0), (.int 0), (.int 0), (.int 0), (.int 0), (.int 0), (.int 0), (.int 0), (.int 0), (.int 0), (.int 0), (.int 0), (.int 0), (.int 0), (.int 0), (.int 0), (.int 0), (.int 0), (.int 0), (.int 0), (.int 0), (.int 0), (.int 0)] (.int 0) := by have z := V79; rw [own_nar8] at z; exact z
    refine gaload (v := (.ref b49)) X hx 197 (hb hby at_195) rfl rfl rfl ?_
    refine gbipush X hx (9 : Int32) 199 (hb hby at_197) rfl rfl ?_
    refine gbipush X hx (32 : Int32) 201 (hb hby at_199) rfl rfl ?_
    refine gcastore X hx hZ eT V79 (by decide) (by decide) 9 rfl (Nat.le_of_ble_eq_true rfl) N ge_b49 202 (hb hby at_201) rfl ?_
    clear X eT N; clear T; intro T h81 L X eT N W80 V82
    have sfw := (Safe.arv (EL := own_EL) (vm := vm) hZ.alike V79 (fun z => by cases z))
    replace P0_Old := P0_Old.wr W80 ge_b49
    replace E22 := E22.wr W80
    replace Sf_b2 := Safe.wr W80 sfw C.1 Sf_b2
    replace F23 := F23.other W80 (Or.inl ne_b2_b49)
    replace F24 := F24.other W80 (Or.inl ne_b2_b49)
    replace V25 := V25.other W80 ne_t20_b49
    replace G47 := G47.other W80 ne_b28_b49
    replace K0 := K0.wr W80 (Or.inr sz_b49)
    replace C := C.trans (CHr.wr W80 sfw C.1)
    replace hk : k0 ≤ h81.size := by rw [Wr.size W80]; exact hk
    replace sz_h : h0.size ≤ h81.size := by rw [Wr.size W80]; exact sz_h
    replace V82 : Arv Z h81 b49 kc52 .char (32 : Int32) [(.int 99), (.int 111), (.int 108), (.int 117), (.int 109), (.int 110), (.int 32), (.int (p2 &&& (255 : Int32))), (.int (p3 &&& (255 : Int32))), (.int 32), (.int 0), (.int 0), (.int 0), (.int 0), (.int 0), (.int 0), (.int 0), (.int 0), (.int 0), (.int 0), (.int 0), (.int 0), (.int 0), (.int 0), (.int 0), (.int 0), (.int 0), (.int 0), (.int 0), (.int 0), (.int 0), (.int 0)] (.int 0) := V82
    refine gaload (v := (.ref b49)) X hx 204 (hb hby at_202) rfl rfl rfl ?_
    refine gbipush X hx (10 : Int32) 206 (hb hby at_204) rfl rfl ?_
    refine gbipush X hx (111 : Int32) 208 (hb hby at_206) rfl rfl ?_
    refine gcastore X hx hZ eT V82 (by decide) (by decide) 10 rfl (Nat.le_of_ble_eq_true rfl) N ge_b49 209 (hb hby at_208) rfl ?_
    clear X eT N; clear T; intro T h84 L X eT N W83 V85
    have sfw := (Safe.arv (EL := own_EL) (vm := vm) hZ.alike V82 (fun z => by cases z))
    replace P0_Old := P0_Old.wr W83 ge_b49
    replace E22 := E22.wr W83
    replace Sf_b2 := Safe.wr W83 sfw C.1 Sf_b2
    replace F23 := F23.other W83 (Or.inl ne_b2_b49)
    replace F24 := F24.other W83 (Or.inl ne_b2_b49)
    replace V25 := V25.other W83 ne_t20_b49
    replace G47 := G47.other W83 ne_b28_b49
    replace K0 := K0.wr W83 (Or.inr sz_b49)
    replace C := C.trans (CHr.wr W83 sfw C.1)
    replace hk : k0 ≤ h84.size := by rw [Wr.size W83]; exact hk
    replace sz_h : h0.size ≤ h84.size := by rw [Wr.size W83]; exact sz_h
    replace V85 : Arv Z h84 b49 kc52 .char (32 : Int32) [(.int 99), (.int 111), (.int 108), (.int 117), (.int 109), (.int 110), (.int 32), (.int (p2 &&& (255 : Int32))), (.int (p3 &&& (255 : Int32))), (.int 32), (.int 111), (.int 0), (.int 0), (.int 0), (.int 0), (.int 0), (.int 0), (.int 0), (.int 0), (.int 0), (.int 0), (.int 0), (.int 0), (.int 0), (.int 0), (.int 0), (.int 0), (.int 0), (.int 0), (.int 0), (.int 0), (.int 0)] (.int 0) := V85
    refine gaload (v := (.ref b49)) X hx 211 (hb hby at_209) rfl rfl rfl ?_
    refine gbipush X hx (11 : Int32) 213 (hb hby at_211) rfl rfl ?_
    refine gbipush X hx (102 : Int32) 215 (hb hby at_213) rfl rfl ?_
    refine gcastore X hx hZ eT V85 (by decide) (by decide) 11 rfl (Nat.le_of_ble_eq_true rfl) N ge_b49 216 (hb hby at_215) rfl ?_
    clear X eT N; clear T; intro T h87 L X eT N W86 V88
    have sfw := (Safe.arv (EL := own_EL) (vm := vm) hZ.alike V85 (fun z => by cases z))
    replace P0_Old := P0_Old.wr W86 ge_b49
    replace E22 := E22.wr W86
    replace Sf_b2 := Safe.wr W86 sfw C.1 Sf_b2
    replace F23 := F23.other W86 (Or.inl ne_b2_b49)
    replace F24 := F24.other W86 (Or.inl ne_b2_b49)
    replace V25 := V25.other W86 ne_t20_b49
    replace G47 := G47.other W86 ne_b28_b49
    replace K0 := K0.wr W86 (Or.inr sz_b49)
    replace C := C.trans (CHr.wr W86 sfw C.1)
    replace hk : k0 ≤ h87.size := by rw [Wr.size W86]; exact hk
    replace sz_h : h0.size ≤ h87.size := by rw [Wr.size W86]; exact sz_h
    replace V88 : Arv Z h87 b49 kc52 .char (32 : Int32) [(.int 99), (.int 111), (.int 108), (.int 117), (.int 109), (.int 110), (.int 32), (.int (p2 &&& (255 : Int32))), (.int (p3 &&& (255 : Int32))), (.int 32), (.int 111), (.int 102), (.int 0), (.int 0), (.int 0), (.int 0), (.int 0), (.int 0), (.int 0), (.int 0), (.int 0), (.int 0), (.int 0), (.int 0), (.int 0), (.int 0), (.int 0), (.int 0), (.int 0), (.int 0), (.int 0), (.int 0)] (.int 0) := V88
    refine gaload (v := (.ref b49)) X hx 218 (hb hby at_216) rfl rfl rfl ?_
    refine gbipush X hx (12 : Int32) 220 (hb hby at_218) rfl rfl ?_
    refine gbipush X hx (32 : Int32) 222 (hb hby at_220) rfl rfl ?_
    refine gcastore X hx hZ eT V88 (by decide) (by decide) 12 rfl (Nat.le_of_ble_eq_true rfl) N ge_b49 223 (hb hby at_222) rfl ?_
    clear X eT N; clear T; intro T h90 L X eT N W89 V91
    have sfw := (Safe.arv (EL := own_EL) (vm := vm) hZ.alike V88 (fun z => by cases z))
    replace P0_Old := P0_Old.wr W89 ge_b49
    replace E22 := E22.wr W89
    replace Sf_b2 := Safe.wr W89 sfw C.1 Sf_b2
    replace F23 := F23.other W89 (Or.inl ne_b2_b49)
    replace F24 := F24.other W89 (Or.inl ne_b2_b49)
    replace V25 := V25.other W89 ne_t20_b49
    replace G47 := G47.other W89 ne_b28_b49
    replace K0 := K0.wr W89 (Or.inr sz_b49)
    replace C := C.trans (CHr.wr W89 sfw C.1)
    replace hk : k0 ≤ h90.size := by rw [Wr.size W89]; exact hk
    replace sz_h : h0.size ≤ h90.size := by rw [Wr.size W89]; exact sz_h
    replace V91 : Arv Z h90 b49 kc52 .char (32 : Int32) [(.int 99), (.int 111), (.int 108), (.int 117), (.int 109), (.int 110), (.int 32), (.int (p2 &&& (255 : Int32))), (.int (p3 &&& (255 : Int32))), (.int 32), (.int 111), (.int 102), (.int 32), (.int 0), (.int 0), (.int 0), (.int 0), (.int 0), (.int 0), (.int 0), (.int 0), (.int 0), (.int 0), (.int 0), (.int 0), (.int 0), (.int 0), (.int 0), (.int 0), (.int 0), (.int 0), (.int 0)] (.int 0) := V91
    refine gaload (v := (.ref b49)) X hx 225 (hb hby at_223) rfl rfl rfl ?_
    refine gbipush X hx (13 : Int32) 227 (hb hby at_225) rfl rfl ?_
    refine gstatic (y := (⟨"com/example/sessionsmith/sessionsmith/SchemaProblemToStringPinLaw", "putTableWord", "([CI)V"⟩ : MethodName)) (argsL := [(.ref b49), (.int 13)]) (st := []) X hx hZ hown (own_w30 hw) (own_w31 hw) (own_w32 hw) (own_w33 hw) (by decide) (payP (W := 0) (rmPut_putTableWord_32 l Z a0 hw (b49) (kc52) ((.int 99)) ((.int 111)) ((.int 108)) ((.int 117)) ((.int 109)) ((.int 110)) ((.int 32)) ((.int (p2 &&& (255 : Int32)))) ((.int (p3 &&& (255 : Int32)))) ((.int 32)) ((.int 111)) ((.int 102)) ((.int 32)) ((.int 0)) ((.int 0)) ((.int 0)) ((.int 0)) ((.int 0)) ((.int 0)) ((.int 0)) ((.int 0)) ((.int 0)) ((.int 0)) ((.int 0)) ((.int 0)) ((.int 0)) ((.int 0)) ((.int 0)) ((.int 0)) ((.int 0)) ((.int 0)) ((.int 0)) h90 n0 (Nat.le_trans Z0 sz_h) ge_b49 V91) hZ (own_w33 hw) (own_w32 hw) (by decide) (by decide)) eT (by rw [hml]; rfl) (lenOf own_pd22 rfl) rfl (Nat.le_of_eq rfl) 5 59 rfl rfl (by decide) (by decide) 230 (hb hby at_227) rfl ?_
    clear X eT; clear T; intro v T h92 L2 Lc X eT hL hQ93
    obtain ⟨rfl, Nq, K94, G96⟩ := hQ93
    replace N : Fr n0 L2 := by rw [hL]; exact Fr.app N Nq
    clear Nq hL
    have sfs := (sfS (Safe.arv (EL := own_EL) (vm := vm) hZ.alike V91 (fun z => by cases z)) sf0)
    replace P0_Old := P0_Old.keep K94 (allS ge_b49 all0)
    replace E22 := E22.keep K94
    replace Sf_b2 := Safe.keep K94 sfs C.1 Sf_b2
    replace F23 := F23.keep K94 (ninS ne_b2_b49 nin0)
    replace F24 := F24.keep K94 (ninS ne_b2_b49 nin0)
    replace V25 := V25.keep K94 (ninS ne_t20_b49 nin0)
    replace G47 := G47.keep K94 (ninS ne_b28_b49 nin0)
    replace K0 := K0.trans K94 (allS (Or.inr sz_b49) all0)
    replace C := C.trans (CHr.keep K94 sfs C.1)
    replace hk := Nat.le_trans hk K94.1
    replace sz_h : h0.size ≤ h92.size := Nat.le_trans sz_h K94.1
    show Go p e below _ T (mkF m 230 #[.val (.int p0), .val (.int p1), .val (.int p2), .val (.int p3), .val (.int p4), .val (.int (p0 &&& (255 : Int32))), .val (.int (p1 &&& (255 : Int32))), .val (.int (p2 &&& (255 : Int32))), .val (.int (p3 &&& (255 : Int32))), .val (.int 0), .val (.ref b2), .val .null, .val (.ref b28), .val (.ref b49), .unset, .unset] [])
    refine gaload (v := (.ref b49)) X hx 232 (hb hby at_230) rfl rfl rfl ?_
    refine gbipush X hx (19 : Int32) 234 (hb hby at_232) rfl rfl ?_
    refine giload (v := (p0 &&& (255 : Int32))) X hx 236 (hb hby at_234) rfl rfl ?_
    refine gcastore X hx hZ eT G96 (by decide) (by decide) 19 rfl (Nat.le_of_ble_eq_true rfl) N ge_b49 237 (hb hby at_236) rfl ?_
    clear X eT N; clear T; intro T h98 L X eT N W97 V99
    have sfw := (Safe.arv (EL := own_EL) (vm := vm) hZ.alike G96 (fun z => by cases z))
    replace P0_Old := P0_Old.wr W97 ge_b49
    replace E22 := E22.wr W97
    replace Sf_b2 := Safe.wr W97 sfw C.1 Sf_b2
    replace F23 := F23.other W97 (Or.inl ne_b2_b49)
    replace F24 := F24.other W97 (Or.inl ne_b2_b49)
    replace V25 := V25.other W97 ne_t20_b49
    replace G47 := G47.other W97 ne_b28_b49
    replace K0 := K0.wr W97 (Or.inr sz_b49)
    replace C := C.trans (CHr.wr W97 sfw C.1)
    replace hk : k0 ≤ h98.size := by rw [Wr.size W97]; exact hk
    replace sz_h : h0.size ≤ h98.size := by rw [Wr.size W97]; exact sz_h
    replace V99 : Arv Z h98 b49 kc52 .char (32 : Int32) [(.int 99), (.int 111), (.int 108), (.int 117), (.int 109), (.int 110), (.int 32), (.int (p2 &&& (255 : Int32))), (.int (p3 &&& (255 : Int32))), (.int 32), (.int 111), (.int 102), (.int 32), (.int 116), (.int 97), (.int 98), (.int 108), (.int 101), (.int 32), (.int (p0 &&& (255 : Int32))), (.int 0), (.int 0), (.int 0), (.int 0), (.int 0), (.int 0), (.int 0), (.int 0), (.int 0), (.int 0), (.int 0), (.int 0)] (.int 0) := by have z := V99; rw [own_nar8] at z; exact z
    refine gaload (v := (.ref b49)) X hx 239 (hb hby at_237) rfl rfl rfl ?_
    refine gbipush X hx (20 : Int32) 241 (hb hby at_239) rfl rfl ?_
    refine giload (v := (p1 &&& (255 : Int32))) X hx 243 (hb hby at_241) rfl rfl ?_
    refine gcastore X hx hZ eT V99 (by decide) (by decide) 20 rfl (Nat.le_of_ble_eq_true rfl) N ge_b49 244 (hb hby at_243) rfl ?_
    clear X eT N; clear T; intro T h101 L X eT N W100 V102
    have sfw := (Safe.arv (EL := own_EL) (vm := vm) hZ.alike V99 (fun z => by cases z))
    replace P0_Old := P0_Old.wr W100 ge_b49
    replace E22 := E22.wr W100
    replace Sf_b2 := Safe.wr W100 sfw C.1 Sf_b2
    replace F23 := F23.other W100 (Or.inl ne_b2_b49)
    replace F24 := F24.other W100 (Or.inl ne_b2_b49)
    replace V25 := V25.other W100 ne_t20_b49
    replace G47 := G47.other W100 ne_b28_b49
    replace K0 := K0.wr W100 (Or.inr sz_b49)
    replace C := C.trans (CHr.wr W100 sfw C.1)
    replace hk : k0 ≤ h101.size := by rw [Wr.size W100]; exact hk
    replace sz_h : h0.size ≤ h101.size := by rw [Wr.size W100]; exact sz_h
    replace V102 : Arv Z h101 b49 kc52 .char (32 : Int32) [(.int 99), (.int 111), (.int 108), (.int 117), (.int 109), (.int 110), (.int 32), (.int (p2 &&& (255 : Int32))), (.int (p3 &&& (255 : Int32))), (.int 32), (.int 111), (.int 102), (.int 32), (.int 116), (.int 97), (.int 98), (.int 108), (.int 101), (.int 32), (.int (p0 &&& (255 : Int32))), (.int (p1 &&& (255 : Int32))), (.int 0), (.int 0), (.int 0), (.int 0), (.int 0), (.int 0), (.int 0), (.int 0), (.int 0), (.int 0), (.int 0)] (.int 0) := by have z := V102; rw [own_nar8] at z; exact z
    refine gaload (v := (.ref b49)) X hx 246 (hb hby at_244) rfl rfl rfl ?_
    refine gbipush X hx (21 : Int32) 248 (hb hby at_246) rfl rfl ?_
    refine gstatic (y := (⟨"com/example/sessionsmith/sessionsmith/SchemaProblemToStringPinLaw", "putIsMissing", "([CI)V"⟩ : MethodName)) (argsL := [(.ref b49), (.int 21)]) (st := []) X hx hZ hown (own_w34 hw) (own_w35 hw) (own_w32 hw) (own_w36 hw) (by decide) (payP (W := 0) (rmPut_putIsMissing_32 l Z a0 hw (b49) (kc52) ((.int 99)) ((.int 111)) ((.int 108)) ((.int 117)) ((.int 109)) ((.int 110)) ((.int 32)) ((.int (p2 &&& (255 : Int32)))) ((.int (p3 &&& (255 : Int32)))) ((.int 32)) ((.int 111)) ((.int 102)) ((.int 32)) ((.int 116)) ((.int 97)) ((.int 98)) ((.int 108)) ((.int 101)) ((.int 32)) ((.int (p0 &&& (255 : Int32)))) ((.int (p1 &&& (255 : Int32)))) ((.int 0)) ((.int 0)) ((.int 0)) ((.int 0)) ((.int 0)) ((.int 0)) ((.int 0)) ((.int 0)) ((.int 0)) ((.int 0)) ((.int 0)) h101 n0 (Nat.le_trans Z0 sz_h) ge_b49 V102) hZ (own_w36 hw) (own_w32 hw) (by decide) (by decide)) eT (by rw [hml]; rfl) (lenOf own_pd22 rfl) rfl (Nat.le_of_eq rfl) 5 59 rfl rfl (by decide) (by decide) 251 (hb hby at_248) rfl ?_
    clear X eT; clear T; intro v T h103 L2 Lc X eT hL hQ104
    obtain ⟨rfl, Nq, K105, G107⟩ := hQ104
    replace N : Fr n0 L2 := by rw [hL]; exact Fr.app N Nq
    clear Nq hL
    have sfs := (sfS (Safe.arv (EL := own_EL) (vm := vm) hZ.alike V102 (fun z => by cases z)) sf0)
    replace P0_Old := P0_Old.keep K105 (allS ge_b49 all0)
    replace E22 := E22.keep K105
    replace Sf_b2 := Safe.keep K105 sfs C.1 Sf_b2
    replace F23 := F23.keep K105 (ninS ne_b2_b49 nin0)
    replace F24 := F24.keep K105 (ninS ne_b2_b49 nin0)
    replace V25 := V25.keep K105 (ninS ne_t20_b49 nin0)
    replace G47 := G47.keep K105 (ninS ne_b28_b49 nin0)
    replace K0 := K0.trans K105 (allS (Or.inr sz_b49) all0)
    replace C := C.trans (CHr.keep K105 sfs C.1)
    replace hk := Nat.le_trans hk K105.1
    replace sz_h : h0.size ≤ h103.size := Nat.le_trans sz_h K105.1
    show Go p e below _ T (mkF m 251 #[.val (.int p0), .val (.int p1), .val (.int p2), .val (.int p3), .val (.int p4), .val (.int (p0 &&& (255 : Int32))), .val (.int (p1 &&& (255 : Int32))), .val (.int (p2 &&& (255 : Int32))), .val (.int (p3 &&& (255 : Int32))), .val (.int 0), .val (.ref b2), .val .null, .val (.ref b28), .val (.ref b49), .unset, .unset] [])
    refine giload (v := (0 : Int32)) X hx 253 (hb hby at_251) rfl rfl ?_
    refine gifYes X hx 268 (hb hby at_253) (by decide) (by decide) (by decide) ?_
    refine gnewO X hx hZ hown (own_w0 hw) (own_w1 hw) (own_w2 hw) eT 6 63 rfl rfl (by decide) (by decide) 271 (hb hby at_268) rfl ?_
    clear X eT; clear T; intro T h108 b109 X eT ga E110 A111 D112
    have le_a := Nat.le_of_eq ga.symm
    have ne_b2_b109 : b2 ≠ b109 := Nat.ne_of_lt (Nat.lt_of_lt_of_le E22.lt le_a)
    have ne_b109_b2 : b109 ≠ b2 := Ne.symm ne_b2_b109
    have ne_t20_b109 : t20 ≠ b109 := Nat.ne_of_lt (Nat.lt_of_lt_of_le V25.lt le_a)
    have ne_b109_t20 : b109 ≠ t20 := Ne.symm ne_t20_b109
    have ne_b28_b109 : b28 ≠ b109 := Nat.ne_of_lt (Nat.lt_of_lt_of_le G47.lt le_a)
    have ne_b109_b28 : b109 ≠ b28 := Ne.symm ne_b28_b109
    have ne_b49_b109 : b49 ≠ b109 := Nat.ne_of_lt (Nat.lt_of_lt_of_le G107.lt le_a)
    have ne_b109_b49 : b109 ≠ b49 := Ne.symm ne_b49_b109
    have sz_b109 : h0.size ≤ b109 := Nat.le_trans sz_h le_a
    have ge_b109 : n0 ≤ b109 := Nat.le_trans Z0 sz_b109
    have Sf_b109 := Safe.ext E110 C.1 (Safe.new le_a)
    clear le_a ga
    replace P0_Old := P0_Old.ext E110
    replace E22 := E22.ext E110
    replace Sf_b2 := Safe.ext E110 C.1 Sf_b2
    replace F23 := F23.ext E110
    replace F24 := F24.ext E110
    replace V25 := V25.ext E110
    replace G47 := G47.ext E110
    replace G107 := G107.ext E110
    replace K0 := K0.ext E110
    replace C := C.trans (CHr.ext E110 C.1)
    replace hk := Nat.le_trans hk E110.1
    replace sz_h : h0.size ≤ h108.size := Nat.le_trans sz_h E110.1
    have F_coder_b109 : Fld Z h108 b109 "java/lang/String" "coder" "B" (.int 0) := D112 (Or.inr (own_w27 hw)) (ty := .byte) own_pf1
    have F_value_b109 : Fld Z h108 b109 "java/lang/String" "value" "[B" .null := D112 (Or.inr (own_w29 hw)) (ty := (.array .byte)) own_pf0
    clear D112
    refine gdup X hx 272 (hb hby at_271) rfl rfl ?_
    refine gaload (v := (.ref b28)) X hx 274 (hb hby at_272) rfl rfl rfl ?_
    refine gspecial (y := (⟨"java/lang/String", "<init>", "([C)V"⟩ : MethodName)) (a := b109) (argsL := [(.ref b28)]) (st := [(.ref b109)]) X hx hZ hown rfl (own_w4 hw) (own_w5 hw) (own_w6 hw) (by decide) (payNew (W := 1) (cs := ([(116 : Int32), (97 : Int32), (98 : Int32), (108 : Int32), (101 : Int32), (32 : Int32), (p0 &&& (255 : Int32)), (p1 &&& (255 : Int32)), (32 : Int32), (105 : Int32), (115 : Int32), (32 : Int32), (109 : Int32), (105 : Int32), (115 : Int32), (115 : Int32), (105 : Int32), (110 : Int32), (103 : Int32)] : List Int32)) (n := 19) (n0 := n0) hZ hw ge_b109 (Nat.le_trans Z0 sz_h) A111 F_value_b109 F_coder_b109 G47 rfl (O2.ext P0_Old.2) P5 rfl rfl (by decide) (by decide) (own_cS (by decide) (own_cS (by decide) (own_cS (by decide) (own_cS (by decide) (own_cS (by decide) (own_cS (by decide) (own_cS (own_rng _) (own_cS (own_rng _) (own_cS (by decide) (own_cS (by decide) (own_cS (by decide) (own_cS (by decide) (own_cS (by decide) (own_cS (by decide) (own_cS (by decide) (own_cS (by decide) (own_cS (by decide) (own_cS (by decide) (own_cS (by decide) own_c0))))))))))))))))))) (by decide) (by decide)) eT (by rw [hml]; rfl) (lenOf own_pd21 rfl) rfl (Nat.le_of_eq rfl) 7 82 rfl rfl (by decide) (by decide) 277 (hb hby at_274) rfl ?_
    clear X eT; clear T; intro v T h116 L2 Lc X eT hL hQ117
    obtain ⟨rfl, Nq, K113, t114, zz_t114, Str115⟩ := hQ117
    replace N : Fr n0 L2 := by rw [hL]; exact Fr.app N Nq
    clear Nq hL
    have ne_b2_t114 : b2 ≠ t114 := Nat.ne_of_lt (Nat.lt_of_lt_of_le E22.lt zz_t114)
    have ne_t114_b2 : t114 ≠ b2 := Ne.symm ne_b2_t114
    have ne_t20_t114 : t20 ≠ t114 := Nat.ne_of_lt (Nat.lt_of_lt_of_le V25.lt zz_t114)
    have ne_t114_t20 : t114 ≠ t20 := Ne.symm ne_t20_t114
    have ne_b28_t114 : b28 ≠ t114 := Nat.ne_of_lt (Nat.lt_of_lt_of_le G47.lt zz_t114)
    have ne_t114_b28 : t114 ≠ b28 := Ne.symm ne_b28_t114
    have ne_b109_t114 : b109 ≠ t114 := Nat.ne_of_lt (Nat.lt_of_lt_of_le A111.lt zz_t114)
    have ne_t114_b109 : t114 ≠ b109 := Ne.symm ne_b109_t114
    have sz_t114 : h0.size ≤ t114 := Nat.le_trans sz_h zz_t114
    have ge_t114 : n0 ≤ t114 := Nat.le_trans Z0 sz_t114
    have sfs := (sfS Sf_b109 sf0)
    replace P0_Old := P0_Old.keep K113 (allS ge_b109 all0)
    replace E22 := E22.keep K113
    replace Sf_b2 := Safe.keep K113 sfs C.1 Sf_b2
    replace F23 := F23.keep K113 (ninS ne_b2_b109 nin0)
    replace F24 := F24.keep K113 (ninS ne_b2_b109 nin0)
    replace V25 := V25.keep K113 (ninS ne_t20_b109 nin0)
    replace G47 := G47.keep K113 (ninS ne_b28_b109 nin0)
    replace Sf_b109 := Safe.keep K113 sfs C.1 Sf_b109
    replace K0 := K0.trans K113 (allS (Or.inr sz_b109) all0)
    replace C := C.trans (CHr.keep K113 sfs C.1)
    replace hk := Nat.le_trans hk K113.1
    replace sz_h : h0.size ≤ h116.size := Nat.le_trans sz_h K113.1
    show Go p e below _ T (mkF m 277 #[.val (.int p0), .val (.int p1), .val (.int p2), .val (.int p3), .val (.int p4), .val (.int (p0 &&& (255 : Int32))), .val (.int (p1 &&& (255 : Int32))), .val (.int (p2 &&& (255 : Int32))), .val (.int (p3 &&& (255 : Int32))), .val (.int 0), .val (.ref b2), .val .null, .val (.ref b28), .val (.ref b49), .unset, .unset] [(.ref b109)])
    refine gastore X hx #[.val (.int p0), .val (.int p1), .val (.int p2), .val (.int p3), .val (.int p4), .val (.int (p0 &&& (255 : Int32))), .val (.int (p1 &&& (255 : Int32))), .val (.int (p2 &&& (255 : Int32))), .val (.int (p3 &&& (255 : Int32))), .val (.int 0), .val (.ref b2), .val .null, .val (.ref b28), .val (.ref b49), .val (.ref b109), .unset] 279 (hb hby at_277) rfl rfl rfl ?_
    refine gnewO X hx hZ hown (own_w37 hw) (own_w38 hw) (own_w39 hw) eT 8 84 rfl rfl (by decide) (by decide) 282 (hb hby at_279) rfl ?_
    clear X eT; clear T; intro T h118 b119 X eT ga E120 A121 D122
    have le_a := Nat.le_of_eq ga.symm
    have ne_b2_b119 : b2 ≠ b119 := Nat.ne_of_lt (Nat.lt_of_lt_of_le E22.lt le_a)
    have ne_b119_b2 : b119 ≠ b2 := Ne.symm ne_b2_b119
    have ne_t20_b119 : t20 ≠ b119 := Nat.ne_of_lt (Nat.lt_of_lt_of_le V25.lt le_a)
    have ne_b119_t20 : b119 ≠ t20 := Ne.symm ne_t20_b119
    have ne_b109_b119 : b109 ≠ b119 := Nat.ne_of_lt (Nat.lt_of_lt_of_le Str115.lt le_a)
    have ne_b119_b109 : b119 ≠ b109 := Ne.symm ne_b109_b119
    have ne_t114_b119 : t114 ≠ b119 := Nat.ne_of_lt (Nat.lt_of_lt_of_le Str115.lt2 le_a)
    have ne_b119_t114 : b119 ≠ t114 := Ne.symm ne_t114_b119
    have sz_b119 : h0.size ≤ b119 := Nat.le_trans sz_h le_a
    have ge_b119 : n0 ≤ b119 := Nat.le_trans Z0 sz_b119
    clear le_a ga
    replace P0_Old := P0_Old.ext E120
    replace E22 := E22.ext E120
    replace Sf_b2 := Safe.ext E120 C.1 Sf_b2
    replace F23 := F23.ext E120
    replace F24 := F24.ext E120
    replace V25 := V25.ext E120
    replace Sf_b109 := Safe.ext E120 C.1 Sf_b109
    replace Str115 := Str115.ext E120
    replace K0 := K0.ext E120
    replace C := C.trans (CHr.ext E120 C.1)
    replace hk := Nat.le_trans hk E120.1
    replace sz_h : h0.size ≤ h118.size := Nat.le_trans sz_h E120.1
    have F_table_b119 : Fld Z h118 b119 "com/example/sessionsmith/sessionsmith/SchemaProblem" "table" "Ljava/lang/String;" .null := D122 (Or.inr (own_w57 hw)) (ty := (.object "java/lang/String")) own_pf3
    have F_column_b119 : Fld Z h118 b119 "com/example/sessionsmith/sessionsmith/SchemaProblem" "column" "Ljava/lang/String;" .null := D122 (Or.inr (own_w59 hw)) (ty := (.object "java/lang/String")) own_pf3
    clear D122
    refine gdup X hx 283 (hb hby at_282) rfl rfl ?_
    refine gaload (v := (.ref b2)) X hx 285 (hb hby at_283) rfl rfl rfl ?_
    refine gaload (v := .null) X hx 287 (hb hby at_285) rfl rfl rfl ?_
    refine gspecialS (y := (⟨"com/example/sessionsmith/sessionsmith/SchemaProblem", "<init>", "(Ljava/lang/String;Ljava/lang/String;)V"⟩ : MethodName)) (a := b119) (argsL := [(.ref b2), .null]) (st := [(.ref b119)]) X hx hZ hown rfl (own_w40 hw) (own_w41 hw) (own_w42 hw) (by decide) hS hk (payS (W := 1) (rmSP0 l Z a0 hw (b119) (b2) h118 n0 (Nat.le_trans Z0 sz_h) ge_b119 A121 F_table_b119 F_column_b119) hZ (own_w42 hw) (own_w39 hw) (by decide) (by decide) (own_EW hw) C.1 all0) eT (by rw [hml]; rfl) (lenOf own_pd23 rfl) rfl (Nat.le_of_eq rfl) 10 108 rfl rfl (by decide) (by decide) 290 (hb hby at_287) rfl ?_
    have lt_b2 := E22.lt
    have lt_b109 := Str115.lt
    clear X eT hS hk hZ hown; clear T k0; intro v T h123 L2 Lc vm k0 X eT hL hS hk hZ hown CR126 hQ124
    obtain ⟨rfl, Nq, K125, G127, G128⟩ := hQ124
    replace N : Fr n0 L2 := by rw [hL]; exact Fr.app N Nq
    clear Nq hL
    replace P0_Old := P0_Old.keep K125 (allS ge_b119 all0)
    replace E22 := E22.keep K125
    replace Sf_b2 := CHr.safe CR126 lt_b2 Sf_b2
    replace F23 := F23.keep K125 (ninS ne_b2_b119 nin0)
    replace F24 := F24.keep K125 (ninS ne_b2_b119 nin0)
    replace V25 := V25.keep K125 (ninS ne_t20_b119 nin0)
    replace Sf_b109 := CHr.safe CR126 lt_b109 Sf_b109
    replace Str115 := Str115.keep K125 (ninS ne_b109_b119 nin0) (ninS ne_t114_b119 nin0)
    replace A121 := A121.keep K125
    replace K0 := K0.trans K125 (allS (Or.inr sz_b119) all0)
    replace C := C.trans CR126
    replace sz_h : h0.size ≤ h123.size := Nat.le_trans sz_h K125.1
    show Go p e below _ T (mkF m 290 #[.val (.int p0), .val (.int p1), .val (.int p2), .val (.int p3), .val (.int p4), .val (.int (p0 &&& (255 : Int32))), .val (.int (p1 &&& (255 : Int32))), .val (.int (p2 &&& (255 : Int32))), .val (.int (p3 &&& (255 : Int32))), .val (.int 0), .val (.ref b2), .val .null, .val (.ref b28), .val (.ref b49), .val (.ref b109), .unset] [(.ref b119)])
    refine gvirtualS (y := (⟨"com/example/sessionsmith/sessionsmith/SchemaProblem", "toString", "()Ljava/lang/String;"⟩ : MethodName)) (z := (⟨"com/example/sessionsmith/sessionsmith/SchemaProblem", "toString", "()Ljava/lang/String;"⟩ : MethodName)) (a := b119) (argsL := []) (st := []) X hx hZ hown (own_w60 hw) (own_w61 hw) (notFace_of_selects (args := #[]) (mvT hZ (own_w63 hw))) (own_w63 hw) (own_w62 hw) (by decide) A121 hS hk (payS (W := 0) (rmPS0 l Z a0 hw (b119) (b2) (t20) (kb21) ((p0 &&& (255 : Int32)).toInt8.toInt32) ((p1 &&& (255 : Int32)).toInt8.toInt32) (G1) h123 n0 (Nat.le_trans Z0 sz_h) P0_Old A121 G127 G128 E22 F23 F24 V25 (O2) (P5)) hZ (own_w64 hw) (own_w39 hw) (by decide) (by decide) (own_EW hw) C.1 all0) eT (by rw [hml]; rfl) (lenOf own_pd20 rfl) rfl (Nat.le_of_eq rfl) 19 261 rfl rfl (by decide) (by decide) 293 (hb hby at_290) rfl ?_
    have lt_b2 := E22.lt
    have lt_b109 := Str115.lt
    clear X eT hS hk hZ hown; clear T k0; intro v T h129 L2 Lc vm k0 X eT hL hS hk hZ hown CR135 hQ130
    obtain ⟨xr_131, tr_132, kr_133, rfl, Nq, K134, zz_xr_131, zz_tr_132, G136, G137, G138, G139⟩ := hQ130
    replace N : Fr n0 L2 := by rw [hL]; exact Fr.app N Nq
    clear Nq hL
    have ne_b2_xr_131 : b2 ≠ xr_131 := Nat.ne_of_lt (Nat.lt_of_lt_of_le E22.lt zz_xr_131)
    have ne_xr_131_b2 : xr_131 ≠ b2 := Ne.symm ne_b2_xr_131
    have ne_t20_xr_131 : t20 ≠ xr_131 := Nat.ne_of_lt (Nat.lt_of_lt_of_le V25.lt zz_xr_131)
    have ne_xr_131_t20 : xr_131 ≠ t20 := Ne.symm ne_t20_xr_131
    have ne_b109_xr_131 : b109 ≠ xr_131 := Nat.ne_of_lt (Nat.lt_of_lt_of_le Str115.lt zz_xr_131)
    have ne_xr_131_b109 : xr_131 ≠ b109 := Ne.symm ne_b109_xr_131
    have ne_b119_xr_131 : b119 ≠ xr_131 := Nat.ne_of_lt (Nat.lt_of_lt_of_le A121.lt zz_xr_131)
    have ne_xr_131_b119 : xr_131 ≠ b119 := Ne.symm ne_b119_xr_131
    have ne_t114_xr_131 : t114 ≠ xr_131 := Nat.ne_of_lt (Nat.lt_of_lt_of_le Str115.lt2 zz_xr_131)
    have ne_xr_131_t114 : xr_131 ≠ t114 := Ne.symm ne_t114_xr_131
    have sz_xr_131 : h0.size ≤ xr_131 := Nat.le_trans sz_h zz_xr_131
    have ge_xr_131 : n0 ≤ xr_131 := Nat.le_trans Z0 sz_xr_131
    have ne_b2_tr_132 : b2 ≠ tr_132 := Nat.ne_of_lt (Nat.lt_of_lt_of_le E22.lt zz_tr_132)
    have ne_tr_132_b2 : tr_132 ≠ b2 := Ne.symm ne_b2_tr_132
    have ne_t20_tr_132 : t20 ≠ tr_132 := Nat.ne_of_lt (Nat.lt_of_lt_of_le V25.lt zz_tr_132)
    have ne_tr_132_t20 : tr_132 ≠ t20 := Ne.symm ne_t20_tr_132
    have ne_b109_tr_132 : b109 ≠ tr_132 := Nat.ne_of_lt (Nat.lt_of_lt_of_le Str115.lt zz_tr_132)
    have ne_tr_132_b109 : tr_132 ≠ b109 := Ne.symm ne_b109_tr_132
    have ne_b119_tr_132 : b119 ≠ tr_132 := Nat.ne_of_lt (Nat.lt_of_lt_of_le A121.lt zz_tr_132)
    have ne_tr_132_b119 : tr_132 ≠ b119 := Ne.symm ne_b119_tr_132
    have ne_t114_tr_132 : t114 ≠ tr_132 := Nat.ne_of_lt (Nat.lt_of_lt_of_le Str115.lt2 zz_tr_132)
    have ne_tr_132_t114 : tr_132 ≠ t114 := Ne.symm ne_t114_tr_132
    have sz_tr_132 : h0.size ≤ tr_132 := Nat.le_trans sz_h zz_tr_132
    have ge_tr_132 : n0 ≤ tr_132 := Nat.le_trans Z0 sz_tr_132
    replace P0_Old := P0_Old.keep K134 all0
    replace E22 := E22.keep K134
    replace Sf_b2 := CHr.safe CR135 lt_b2 Sf_b2
    replace F23 := F23.keep K134 nin0
    replace F24 := F24.keep K134 nin0
    replace V25 := V25.keep K134 nin0
    replace Sf_b109 := CHr.safe CR135 lt_b109 Sf_b109
    replace Str115 := Str115.keep K134 nin0 nin0
    replace A121 := A121.keep K134
    replace G127 := G127.keep K134 nin0
    replace G128 := G128.keep K134 nin0
    replace K0 := K0.trans K134 all0
    replace C := C.trans CR135
    replace sz_h : h0.size ≤ h129.size := Nat.le_trans sz_h K134.1
    show Go p e below _ T (mkF m 293 #[.val (.int p0), .val (.int p1), .val (.int p2), .val (.int p3), .val (.int p4), .val (.int (p0 &&& (255 : Int32))), .val (.int (p1 &&& (255 : Int32))), .val (.int (p2 &&& (255 : Int32))), .val (.int (p3 &&& (255 : Int32))), .val (.int 0), .val (.ref b2), .val .null, .val (.ref b28), .val (.ref b49), .val (.ref b109), .unset] [(.ref xr_131)])
    refine gastore X hx #[.val (.int p0), .val (.int p1), .val (.int p2), .val (.int p3), .val (.int p4), .val (.int (p0 &&& (255 : Int32))), .val (.int (p1 &&& (255 : Int32))), .val (.int (p2 &&& (255 : Int32))), .val (.int (p3 &&& (255 : Int32))), .val (.int 0), .val (.ref b2), .val .null, .val (.ref b28), .val (.ref b49), .val (.ref b109), .val (.ref xr_131)] 295 (hb hby at_293) rfl rfl rfl ?_
    refine gaload (v := (.ref xr_131)) X hx 297 (hb hby at_295) rfl rfl rfl ?_
    refine gaload (v := (.ref b109)) X hx 299 (hb hby at_297) rfl rfl rfl ?_
    have Str140 : Str Z h129 xr_131 tr_132 ([(116 : Int32), (97 : Int32), (98 : Int32), (108 : Int32), (101 : Int32), (32 : Int32), (p0 &&& (255 : Int32)), (p1 &&& (255 : Int32)), (32 : Int32), (105 : Int32), (115 : Int32), (32 : Int32), (109 : Int32), (105 : Int32), (115 : Int32), (115 : Int32), (105 : Int32), (110 : Int32), (103 : Int32)] : List Int32) := Str.of G136 G137 G138 G139 rfl rfl (own_cS (by decide) (own_cS (by decide) (own_cS (by decide) (own_cS (by decide) (own_cS (by decide) (own_cS (by decide) (own_cS (own_rng _) (own_cS (own_rng _) (own_cS (by decide) (own_cS (by decide) (own_cS (by decide) (own_cS (by decide) (own_cS (by decide) (own_cS (by decide) (own_cS (by decide) (own_cS (by decide) (own_cS (by decide) (own_cS (by decide) (own_cS (by decide) own_c0))))))))))))))))))) (Nat.le_of_ble_eq_true rfl)
    refine gvirtual (y := (⟨"java/lang/String", "equals", "(Ljava/lang/Object;)Z"⟩ : MethodName)) (z := (⟨"java/lang/String", "equals", "(Ljava/lang/Object;)Z"⟩ : MethodName)) (a := xr_131) (argsL := [(.ref b109)]) (st := []) X hx hZ hown (own_w194 hw) (own_w195 hw) (notFace_of_selects (args := #[]) (mvT hZ (own_w197 hw))) (own_w197 hw) (own_w196 hw) (by decide) Str140.exa (payEq (W := 0) hZ hw Str140 Str115 (O2.ext P0_Old.2) P5 (by decide) (by decide)) eT (by rw [hml]; rfl) (lenOf own_pd24 rfl) rfl (Nat.le_of_eq rfl) 19 261 rfl rfl (by decide) (by decide) 302 (hb hby at_299) rfl ?_
    clear X eT; clear T; intro v T h141 L2 Lc X eT hL hQ142
    obtain ⟨rfl, rfl, hh⟩ := hQ142
    replace hh := hh.symm; subst hh
    replace N : Fr n0 L2 := by rw [hL]; exact Fr.app N (Fr.nil n0)
    clear hL
    show Go p e below _ T (mkF m 302 #[.val (.int p0), .val (.int p1), .val (.int p2), .val (.int p3), .val (.int p4), .val (.int (p0 &&& (255 : Int32))), .val (.int (p1 &&& (255 : Int32))), .val (.int (p2 &&& (255 : Int32))), .val (.int (p3 &&& (255 : Int32))), .val (.int 0), .val (.ref b2), .val .null, .val (.ref b28), .val (.ref b49), .val (.ref b109), .val (.ref xr_131)] [(.int (if ([(116 : Int32), (97 : Int32), (98 : Int32), (108 : Int32), (101 : Int32), (32 : Int32), (p0 &&& (255 : Int32)), (p1 &&& (255 : Int32)), (32 : Int32), (105 : Int32), (115 : Int32), (32 : Int32), (109 : Int32), (105 : Int32), (115 : Int32), (115 : Int32), (105 : Int32), (110 : Int32), (103 : Int32)] : List Int32) = ([(116 : Int32), (97 : Int32), (98 : Int32), (108 : Int32), (101 : Int32), (32 : Int32), (p0 &&& (255 : Int32)), (p1 &&& (255 : Int32)), (32 : Int32), (105 : Int32), (115 : Int32), (32 : Int32), (109 : Int32), (105 : Int32), (115 : Int32), (115 : Int32), (105 : Int32), (110 : Int32), (103 : Int32)] : List Int32) then 1 else 0))])
    rw [if_pos rfl]
    show Go p e below _ T (mkF m 302 #[.val (.int p0), .val (.int p1), .val (.int p2), .val (.int p3), .val (.int p4), .val (.int (p0 &&& (255 : Int32))), .val (.int (p1 &&& (255 : Int32))), .val (.int (p2 &&& (255 : Int32))), .val (.int (p3 &&& (255 : Int32))), .val (.int 0), .val (.ref b2), .val .null, .val (.ref b28), .val (.ref b49), .val (.ref b109), .val (.ref xr_131)] [(.int 1)])
    exact gRetL X hx hlk hret rfl (Or.inl ⟨rfl, by simp, _, rfl⟩) (hb hby at_302) eT hS hk (by decide) (by decide) ⟨rfl, N, K0⟩
  · refine gifNo X hx 39 (hb hby at_36) rfl ((if0 _ _).trans (feq fl36).1) ?_
    refine giconst X hx (1 : Int32) 40 (hb hby at_39) rfl rfl ?_
    refine ggoto X hx 44 (hb hby at_40) (by decide) (by decide) ?_
    refine gistore X hx #[.val (.int p0), .val (.int p1), .val (.int p2), .val (.int p3), .val (.int p4), .val (.int (p0 &&& (255 : Int32))), .val (.int (p1 &&& (255 : Int32))), .val (.int (p2 &&& (255 : Int32))), .val (.int (p3 &&& (255 : Int32))), .val (.int 1), .unset, .unset, .unset, .unset, .unset, .unset] 46 (hb hby at_44) rfl rfl ?_
    refine gnewO X hx hZ hown (own_w0 hw) (own_w1 hw) (own_w2 hw) eT 1 4 rfl rfl (by decide) (by decide) 49 (hb hby at_46) rfl ?_
    clear X eT; clear T; intro T h143 b144 X eT ga E145 A146 D147
    have le_a := Nat.le_of_eq ga.symm
    have sz_b144 : h0.size ≤ b144 := Nat.le_trans sz_h le_a
    have ge_b144 : n0 ≤ b144 := Nat.le_trans Z0 sz_b144
    have Sf_b144 := Safe.ext E145 C.1 (Safe.new le_a)
    clear le_a ga
    replace P0_Old := P0_Old.ext E145
    replace K0 := K0.ext E145
    replace C := C.trans (CHr.ext E145 C.1)
    replace hk := Nat.le_trans hk E145.1
    replace sz_h : h0.size ≤ h143.size := Nat.le_trans sz_h E145.1
    have F_coder_b144 : Fld Z h143 b144 "java/lang/String" "coder" "B" (.int 0) := D147 (Or.inr (own_w27 hw)) (ty := .byte) own_pf1
    have F_value_b144 : Fld Z h143 b144 "java/lang/String" "value" "[B" .null := D147 (Or.inr (own_w29 hw)) (ty := (.array .byte)) own_pf0
    clear D147
    refine gdup X hx 50 (hb hby at_49) rfl rfl ?_
    refine giconst X hx (2 : Int32) 51 (hb hby at_50) rfl rfl ?_
    refine gnewP (aty := .char) X hx hZ (own_w3 hw) eT (n := (2 : Int32)) (by decide) 2 (by decide) (by decide) 2 6 rfl rfl (by decide) (by decide) 53 (hb hby at_51) rfl ?_
    clear X eT; clear T; intro T h148 b149 kc152 X eT ga E150 V151
    have le_a := Nat.le_of_eq ga.symm
    have ne_b144_b149 : b144 ≠ b149 := Nat.ne_of_lt (Nat.lt_of_lt_of_le A146.lt le_a)
    have ne_b149_b144 : b149 ≠ b144 := Ne.symm ne_b144_b149
    have sz_b149 : h0.size ≤ b149 := Nat.le_trans sz_h le_a
    have ge_b149 : n0 ≤ b149 := Nat.le_trans Z0 sz_b149
    clear le_a ga
    replace P0_Old := P0_Old.ext E150
    replace A146 := A146.ext E150
    replace Sf_b144 := Safe.ext E150 C.1 Sf_b144
    replace F_coder_b144 := F_coder_b144.ext E150
    replace F_value_b144 := F_value_b144.ext E150
    replace K0 := K0.ext E150
    replace C := C.trans (CHr.ext E150 C.1)
    replace hk := Nat.le_trans hk E150.1
    replace sz_h : h0.size ≤ h148.size := Nat.le_trans sz_h E150.1
    replace V151 : Arv Z h148 b149 kc152 .char (2 : Int32) [(.int 0), (.int 0)] (.int 0) := V151.pad (pad_rep [] _ 2)
    refine gdup X hx 54 (hb hby at_53) rfl rfl ?_
    refine giconst X hx (0 : Int32) 55 (hb hby at_54) rfl rfl ?_
    refine giload (v := (p0 &&& (255 : Int32))) X hx 57 (hb hby at_55) rfl rfl ?_
    refine gcastore X hx hZ eT V151 (by decide) (by decide) 0 rfl (Nat.le_of_ble_eq_true rfl) N ge_b149 58 (hb hby at_57) rfl ?_
    clear X eT N; clear T; intro T h154 L X eT N W153 V155
    have sfw := (Safe.arv (EL := own_EL) (vm := vm) hZ.alike V151 (fun z => by cases z))
    replace P0_Old := P0_Old.wr W153 ge_b149
    replace A146 := A146.wr W153
    replace Sf_b144 := Safe.wr W153 sfw C.1 Sf_b144
    replace F_coder_b144 := F_coder_b144.other W153 (Or.inl ne_b144_b149)
    replace F_value_b144 := F_value_b144.other W153 (Or.inl ne_b144_b149)
    replace K0 := K0.wr W153 (Or.inr sz_b149)
    replace C := C.trans (CHr.wr W153 sfw C.1)
    replace hk : k0 ≤ h154.size := by rw [Wr.size W153]; exact hk
    replace sz_h : h0.size ≤ h154.size := by rw [Wr.size W153]; exact sz_h
    replace V155 : Arv Z h154 b149 kc152 .char (2 : Int32) [(.int (p0 &&& (255 : Int32))), (.int 0)] (.int 0) := by have z := V155; rw [own_nar8] at z; exact z
    refine gdup X hx 59 (hb hby at_58) rfl rfl ?_
    refine giconst X hx (1 : Int32) 60 (hb hby at_59) rfl rfl ?_
    refine giload (v := (p1 &&& (255 : Int32))) X hx 62 (hb hby at_60) rfl rfl ?_
    refine gcastore X hx hZ eT V155 (by decide) (by decide) 1 rfl (Nat.le_of_ble_eq_true rfl) N ge_b149 63 (hb hby at_62) rfl ?_
    clear X eT N; clear T; intro T h157 L X eT N W156 V158
    have sfw := (Safe.arv (EL := own_EL) (vm := vm) hZ.alike V155 (fun z => by cases z))
    replace P0_Old := P0_Old.wr W156 ge_b149
    replace A146 := A146.wr W156
    replace Sf_b144 := Safe.wr W156 sfw C.1 Sf_b144
    replace F_coder_b144 := F_coder_b144.other W156 (Or.inl ne_b144_b149)
    replace F_value_b144 := F_value_b144.other W156 (Or.inl ne_b144_b149)
    replace K0 := K0.wr W156 (Or.inr sz_b149)
    replace C := C.trans (CHr.wr W156 sfw C.1)
    replace hk : k0 ≤ h157.size := by rw [Wr.size W156]; exact hk
    replace sz_h : h0.size ≤ h157.size := by rw [Wr.size W156]; exact sz_h
    replace V158 : Arv Z h157 b149 kc152 .char (2 : Int32) [(.int (p0 &&& (255 : Int32))), (.int (p1 &&& (255 : Int32)))] (.int 0) := by have z := V158; rw [own_nar8] at z; exact z
    refine gspecial (y := (⟨"java/lang/String", "<init>", "([C)V"⟩ : MethodName)) (a := b144) (argsL := [(.ref b149)]) (st := [(.ref b144)]) X hx hZ hown rfl (own_w4 hw) (own_w5 hw) (own_w6 hw) (by decide) (StrChars.Road.backV (W := 1) hZ (own_hws hw) (kI := 4) (own_w1 hw) (cs := ([(p0 &&& (255 : Int32)), (p1 &&& (255 : Int32))] : List Int32)) (bs := ([(p0 &&& (255 : Int32)), (p1 &&& (255 : Int32))] : List Int32).map (fun c => c.toInt8.toInt32)) (n := 2) (n0 := n0) ge_b144 (Nat.le_trans Z0 sz_h) A146 F_value_b144 F_coder_b144 V158 (O2.ext P0_Old.2) P5 rfl rfl (by decide) (by decide) (own_cS (own_rng _) (own_cS (own_rng _) own_c0)) rfl (by decide) (by decide)) eT (by rw [hml]; rfl) (lenOf own_pd21 rfl) rfl (Nat.le_of_eq rfl) 3 8 rfl rfl (by decide) (by decide) 66 (hb hby at_63) rfl ?_
    clear X eT; clear T; intro v T h159 L2 Lc X eT hL hQ160
    obtain ⟨rfl, Nq, K161, E164, F165, t162, kb163, -, zz_t162, ntx168, F166, V167⟩ := hQ160
    replace N : Fr n0 L2 := by rw [hL]; exact Fr.app N Nq
    clear Nq hL
    have ne_b144_t162 : b144 ≠ t162 := Nat.ne_of_lt (Nat.lt_of_lt_of_le A146.lt zz_t162)
    have ne_t162_b144 : t162 ≠ b144 := Ne.symm ne_b144_t162
    have ne_b149_t162 : b149 ≠ t162 := Nat.ne_of_lt (Nat.lt_of_lt_of_le V158.lt zz_t162)
    have ne_t162_b149 : t162 ≠ b149 := Ne.symm ne_b149_t162
    have sz_t162 : h0.size ≤ t162 := Nat.le_trans sz_h zz_t162
    have ge_t162 : n0 ≤ t162 := Nat.le_trans Z0 sz_t162
    have sfs := (sfS Sf_b144 sf0)
    replace P0_Old := P0_Old.keep K161 (allS ge_b144 all0)
    replace A146 := A146.keep K161
    replace Sf_b144 := Safe.keep K161 sfs C.1 Sf_b144
    replace V158 := V158.keep K161 (ninS ne_b149_b144 nin0)
    replace K0 := K0.trans K161 (allS (Or.inr sz_b144) all0)
    replace C := C.trans (CHr.keep K161 sfs C.1)
    replace hk := Nat.le_trans hk K161.1
    replace sz_h : h0.size ≤ h159.size := Nat.le_trans sz_h K161.1
    show Go p e below _ T (mkF m 66 #[.val (.int p0), .val (.int p1), .val (.int p2), .val (.int p3), .val (.int p4), .val (.int (p0 &&& (255 : Int32))), .val (.int (p1 &&& (255 : Int32))), .val (.int (p2 &&& (255 : Int32))), .val (.int (p3 &&& (255 : Int32))), .val (.int 1), .unset, .unset, .unset, .unset, .unset, .unset] [(.ref b144)])
    refine gastore X hx #[.val (.int p0), .val (.int p1), .val (.int p2), .val (.int p3), .val (.int p4), .val (.int (p0 &&& (255 : Int32))), .val (.int (p1 &&& (255 : Int32))), .val (.int (p2 &&& (255 : Int32))), .val (.int (p3 &&& (255 : Int32))), .val (.int 1), .val (.ref b144), .unset, .unset, .unset, .unset, .unset] 68 (hb hby at_66) rfl rfl rfl ?_
    refine giload (v := (1 : Int32)) X hx 70 (hb hby at_68) rfl rfl ?_
    refine gifNo X hx 73 (hb hby at_70) rfl (by decide) ?_
    refine gnewO X hx hZ hown (own_w0 hw) (own_w1 hw) (own_w2 hw) eT 4 12 rfl rfl (by decide) (by decide) 76 (hb hby at_73) rfl ?_
    clear X eT; clear T; intro T h169 b170 X eT ga E171 A172 D173
    have le_a := Nat.le_of_eq ga.symm
    have ne_b144_b170 : b144 ≠ b170 := Nat.ne_of_lt (Nat.lt_of_lt_of_le E164.lt le_a)
    have ne_b170_b144 : b170 ≠ b144 := Ne.symm ne_b144_b170
    have ne_t162_b170 : t162 ≠ b170 := Nat.ne_of_lt (Nat.lt_of_lt_of_le V167.lt le_a)
    have ne_b170_t162 : b170 ≠ t162 := Ne.symm ne_t162_b170
    have sz_b170 : h0.size ≤ b170 := Nat.le_trans sz_h le_a
    have ge_b170 : n0 ≤ b170 := Nat.le_trans Z0 sz_b170
    have Sf_b170 := Safe.ext E171 C.1 (Safe.new le_a)
    clear le_a ga
    replace P0_Old := P0_Old.ext E171
    replace E164 := E164.ext E171
    replace Sf_b144 := Safe.ext E171 C.1 Sf_b144
    replace F165 := F165.ext E171
    replace F166 := F166.ext E171
    replace V167 := V167.ext E171
    replace K0 := K0.ext E171
    replace C := C.trans (CHr.ext E171 C.1)
    replace hk := Nat.le_trans hk E171.1
    replace sz_h : h0.size ≤ h169.size := Nat.le_trans sz_h E171.1
    have F_coder_b170 : Fld Z h169 b170 "java/lang/String" "coder" "B" (.int 0) := D173 (Or.inr (own_w27 hw)) (ty := .byte) own_pf1
    have F_value_b170 : Fld Z h169 b170 "java/lang/String" "value" "[B" .null := D173 (Or.inr (own_w29 hw)) (ty := (.array .byte)) own_pf0
    clear D173
    refine gdup X hx 77 (hb hby at_76) rfl rfl ?_
    refine giconst X hx (2 : Int32) 78 (hb hby at_77) rfl rfl ?_
    refine gnewP (aty := .char) X hx hZ (own_w3 hw) eT (n := (2 : Int32)) (by decide) 2 (by decide) (by decide) 5 14 rfl rfl (by decide) (by decide) 80 (hb hby at_78) rfl ?_
    clear X eT; clear T; intro T h174 b175 kc178 X eT ga E176 V177
    have le_a := Nat.le_of_eq ga.symm
    have ne_b144_b175 : b144 ≠ b175 := Nat.ne_of_lt (Nat.lt_of_lt_of_le E164.lt le_a)
    have ne_b175_b144 : b175 ≠ b144 := Ne.symm ne_b144_b175
    have ne_t162_b175 : t162 ≠ b175 := Nat.ne_of_lt (Nat.lt_of_lt_of_le V167.lt le_a)
    have ne_b175_t162 : b175 ≠ t162 := Ne.symm ne_t162_b175
    have ne_b170_b175 : b170 ≠ b175 := Nat.ne_of_lt (Nat.lt_of_lt_of_le A172.lt le_a)
    have ne_b175_b170 : b175 ≠ b170 := Ne.symm ne_b170_b175
    have sz_b175 : h0.size ≤ b175 := Nat.le_trans sz_h le_a
    have ge_b175 : n0 ≤ b175 := Nat.le_trans Z0 sz_b175
    clear le_a ga
    replace P0_Old := P0_Old.ext E176
    replace E164 := E164.ext E176
    replace Sf_b144 := Safe.ext E176 C.1 Sf_b144
    replace F165 := F165.ext E176
    replace F166 := F166.ext E176
    replace V167 := V167.ext E176
    replace A172 := A172.ext E176
    replace Sf_b170 := Safe.ext E176 C.1 Sf_b170
    replace F_coder_b170 := F_coder_b170.ext E176
    replace F_value_b170 := F_value_b170.ext E176
    replace K0 := K0.ext E176
    replace C := C.trans (CHr.ext E176 C.1)
    replace hk := Nat.le_trans hk E176.1
    replace sz_h : h0.size ≤ h174.size := Nat.le_trans sz_h E176.1
    replace V177 : Arv Z h174 b175 kc178 .char (2 : Int32) [(.int 0), (.int 0)] (.int 0) := V177.pad (pad_rep [] _ 2)
    refine gdup X hx 81 (hb hby at_80) rfl rfl ?_
    refine giconst X hx (0 : Int32) 82 (hb hby at_81) rfl rfl ?_
    refine giload (v := (p2 &&& (255 : Int32))) X hx 84 (hb hby at_82) rfl rfl ?_
    refine gcastore X hx hZ eT V177 (by decide) (by decide) 0 rfl (Nat.le_of_ble_eq_true rfl) N ge_b175 85 (hb hby at_84) rfl ?_
    clear X eT N; clear T; intro T h180 L X eT N W179 V181
    have sfw := (Safe.arv (EL := own_EL) (vm := vm) hZ.alike V177 (fun z => by cases z))
    replace P0_Old := P0_Old.wr W179 ge_b175
    replace E164 := E164.wr W179
    replace Sf_b144 := Safe.wr W179 sfw C.1 Sf_b144
    replace F165 := F165.other W179 (Or.inl ne_b144_b175)
    replace F166 := F166.other W179 (Or.inl ne_b144_b175)
    replace V167 := V167.other W179 ne_t162_b175
    replace A172 := A172.wr W179
    replace Sf_b170 := Safe.wr W179 sfw C.1 Sf_b170
    replace F_coder_b170 := F_coder_b170.other W179 (Or.inl ne_b170_b175)
    replace F_value_b170 := F_value_b170.other W179 (Or.inl ne_b170_b175)
    replace K0 := K0.wr W179 (Or.inr sz_b175)
    replace C := C.trans (CHr.wr W179 sfw C.1)
    replace hk : k0 ≤ h180.size := by rw [Wr.size W179]; exact hk
    replace sz_h : h0.size ≤ h180.size := by rw [Wr.size W179]; exact sz_h
    replace V181 : Arv Z h180 b175 kc178 .char (2 : Int32) [(.int (p2 &&& (255 : Int32))), (.int 0)] (.int 0) := by have z := V181; rw [own_nar8] at z; exact z
    refine gdup X hx 86 (hb hby at_85) rfl rfl ?_
    refine giconst X hx (1 : Int32) 87 (hb hby at_86) rfl rfl ?_
    refine giload (v := (p3 &&& (255 : Int32))) X hx 89 (hb hby at_87) rfl rfl ?_
    refine gcastore X hx hZ eT V181 (by decide) (by decide) 1 rfl (Nat.le_of_ble_eq_true rfl) N ge_b175 90 (hb hby at_89) rfl ?_
    clear X eT N; clear T; intro T h183 L X eT N W182 V184
    have sfw := (Safe.arv (EL := own_EL) (vm := vm) hZ.alike V181 (fun z => by cases z))
    replace P0_Old := P0_Old.wr W182 ge_b175
    replace E164 := E164.wr W182
    replace Sf_b144 := Safe.wr W182 sfw C.1 Sf_b144
    replace F165 := F165.other W182 (Or.inl ne_b144_b175)
    replace F166 := F166.other W182 (Or.inl ne_b144_b175)
    replace V167 := V167.other W182 ne_t162_b175
    replace A172 := A172.wr W182
    replace Sf_b170 := Safe.wr W182 sfw C.1 Sf_b170
    replace F_coder_b170 := F_coder_b170.other W182 (Or.inl ne_b170_b175)
    replace F_value_b170 := F_value_b170.other W182 (Or.inl ne_b170_b175)
    replace K0 := K0.wr W182 (Or.inr sz_b175)
    replace C := C.trans (CHr.wr W182 sfw C.1)
    replace hk : k0 ≤ h183.size := by rw [Wr.size W182]; exact hk
    replace sz_h : h0.size ≤ h183.size := by rw [Wr.size W182]; exact sz_h
    replace V184 : Arv Z h183 b175 kc178 .char (2 : Int32) [(.int (p2 &&& (255 : Int32))), (.int (p3 &&& (255 : Int32)))] (.int 0) := by have z := V184; rw [own_nar8] at z; exact z
    refine gspecial (y := (⟨"java/lang/String", "<init>", "([C)V"⟩ : MethodName)) (a := b170) (argsL := [(.ref b175)]) (st := [(.ref b170)]) X hx hZ hown rfl (own_w4 hw) (own_w5 hw) (own_w6 hw) (by decide) (StrChars.Road.backV (W := 1) hZ (own_hws hw) (kI := 4) (own_w1 hw) (cs := ([(p2 &&& (255 : Int32)), (p3 &&& (255 : Int32))] : List Int32)) (bs := ([(p2 &&& (255 : Int32)), (p3 &&& (255 : Int32))] : List Int32).map (fun c => c.toInt8.toInt32)) (n := 2) (n0 := n0) ge_b170 (Nat.le_trans Z0 sz_h) A172 F_value_b170 F_coder_b170 V184 (O2.ext P0_Old.2) P5 rfl rfl (by decide) (by decide) (own_cS (own_rng _) (own_cS (own_rng _) own_c0)) rfl (by decide) (by decide)) eT (by rw [hml]; rfl) (lenOf own_pd21 rfl) rfl (Nat.le_of_eq rfl) 6 16 rfl rfl (by decide) (by decide) 93 (hb hby at_90) rfl ?_
    clear X eT; clear T; intro v T h185 L2 Lc X eT hL hQ186
    obtain ⟨rfl, Nq, K187, E190, F191, t188, kb189, -, zz_t188, ntx194, F192, V193⟩ := hQ186
    replace N : Fr n0 L2 := by rw [hL]; exact Fr.app N Nq
    clear Nq hL
    have ne_b144_t188 : b144 ≠ t188 := Nat.ne_of_lt (Nat.lt_of_lt_of_le E164.lt zz_t188)
    have ne_t188_b144 : t188 ≠ b144 := Ne.symm ne_b144_t188
    have ne_t162_t188 : t162 ≠ t188 := Nat.ne_of_lt (Nat.lt_of_lt_of_le V167.lt zz_t188)
    have ne_t188_t162 : t188 ≠ t162 := Ne.symm ne_t162_t188
    have ne_b170_t188 : b170 ≠ t188 := Nat.ne_of_lt (Nat.lt_of_lt_of_le A172.lt zz_t188)
    have ne_t188_b170 : t188 ≠ b170 := Ne.symm ne_b170_t188
    have ne_b175_t188 : b175 ≠ t188 := Nat.ne_of_lt (Nat.lt_of_lt_of_le V184.lt zz_t188)
    have ne_t188_b175 : t188 ≠ b175 := Ne.symm ne_b175_t188
    have sz_t188 : h0.size ≤ t188 := Nat.le_trans sz_h zz_t188
    have ge_t188 : n0 ≤ t188 := Nat.le_trans Z0 sz_t188
    have sfs := (sfS Sf_b170 sf0)
    replace P0_Old := P0_Old.keep K187 (allS ge_b170 all0)
    replace E164 := E164.keep K187
    replace Sf_b144 := Safe.keep K187 sfs C.1 Sf_b144
    replace F165 := F165.keep K187 (ninS ne_b144_b170 nin0)
    replace F166 := F166.keep K187 (ninS ne_b144_b170 nin0)
    replace V167 := V167.keep K187 (ninS ne_t162_b170 nin0)
    replace A172 := A172.keep K187
    replace Sf_b170 := Safe.keep K187 sfs C.1 Sf_b170
    replace V184 := V184.keep K187 (ninS ne_b175_b170 nin0)
    replace K0 := K0.trans K187 (allS (Or.inr sz_b170) all0)
    replace C := C.trans (CHr.keep K187 sfs C.1)
    replace hk := Nat.le_trans hk K187.1
    replace sz_h : h0.size ≤ h185.size := Nat.le_trans sz_h K187.1
    show Go p e below _ T (mkF m 93 #[.val (.int p0), .val (.int p1), .val (.int p2), .val (.int p3), .val (.int p4), .val (.int (p0 &&& (255 : Int32))), .val (.int (p1 &&& (255 : Int32))), .val (.int (p2 &&& (255 : Int32))), .val (.int (p3 &&& (255 : Int32))), .val (.int 1), .val (.ref b144), .unset, .unset, .unset, .unset, .unset] [(.ref b170)])
    refine ggoto X hx 97 (hb hby at_93) (by decide) (by decide) ?_
    refine gastore X hx #[.val (.int p0), .val (.int p1), .val (.int p2), .val (.int p3), .val (.int p4), .val (.int (p0 &&& (255 : Int32))), .val (.int (p1 &&& (255 : Int32))), .val (.int (p2 &&& (255 : Int32))), .val (.int (p3 &&& (255 : Int32))), .val (.int 1), .val (.ref b144), .val (.ref b170), .unset, .unset, .unset, .unset] 99 (hb hby at_97) rfl rfl rfl ?_
    refine gbipush X hx (19 : Int32) 101 (hb hby at_99) rfl rfl ?_
    refine gnewP (aty := .char) X hx hZ (own_w3 hw) eT (n := (19 : Int32)) (by decide) 19 (by decide) (by decide) 7 35 rfl rfl (by decide) (by decide) 103 (hb hby at_101) rfl ?_
    clear X eT; clear T; intro T h195 b196 kc199 X eT ga E197 V198
    have le_a := Nat.le_of_eq ga.symm
    have ne_b144_b196 : b144 ≠ b196 := Nat.ne_of_lt (Nat.lt_of_lt_of_le E164.lt le_a)
    have ne_b196_b144 : b196 ≠ b144 := Ne.symm ne_b144_b196
    have ne_t162_b196 : t162 ≠ b196 := Nat.ne_of_lt (Nat.lt_of_lt_of_le V167.lt le_a)
    have ne_b196_t162 : b196 ≠ t162 := Ne.symm ne_t162_b196
    have ne_b170_b196 : b170 ≠ b196 := Nat.ne_of_lt (Nat.lt_of_lt_of_le E190.lt le_a)
    have ne_b196_b170 : b196 ≠ b170 := Ne.symm ne_b170_b196
    have ne_t188_b196 : t188 ≠ b196 := Nat.ne_of_lt (Nat.lt_of_lt_of_le V193.lt le_a)
    have ne_b196_t188 : b196 ≠ t188 := Ne.symm ne_t188_b196
    have sz_b196 : h0.size ≤ b196 := Nat.le_trans sz_h le_a
    have ge_b196 : n0 ≤ b196 := Nat.le_trans Z0 sz_b196
    clear le_a ga
    replace P0_Old := P0_Old.ext E197
    replace E164 := E164.ext E197
    replace Sf_b144 := Safe.ext E197 C.1 Sf_b144
    replace F165 := F165.ext E197
    replace F166 := F166.ext E197
    replace V167 := V167.ext E197
    replace E190 := E190.ext E197
    replace Sf_b170 := Safe.ext E197 C.1 Sf_b170
    replace F191 := F191.ext E197
    replace F192 := F192.ext E197
    replace V193 := V193.ext E197
    replace K0 := K0.ext E197
    replace C := C.trans (CHr.ext E197 C.1)
    replace hk := Nat.le_trans hk E197.1
    replace sz_h : h0.size ≤ h195.size := Nat.le_trans sz_h E197.1
    replace V198 : Arv Z h195 b196 kc199 .char (19 : Int32) [(.int 0), (.int 0), (.int 0), (.int 0), (.int 0), (.int 0), (.int 0), (.int 0), (.int 0), (.int 0), (.int 0), (.int 0), (.int 0), (.int 0), (.int 0), (.int 0), (.int 0), (.int 0), (.int 0)] (.int 0) := V198.pad (pad_rep [] _ 19)
    refine gastore X hx #[.val (.int p0), .val (.int p1), .val (.int p2), .val (.int p3), .val (.int p4), .val (.int (p0 &&& (255 : Int32))), .val (.int (p1 &&& (255 : Int32))), .val (.int (p2 &&& (255 : Int32))), .val (.int (p3 &&& (255 : Int32))), .val (.int 1), .val (.ref b144), .val (.ref b170), .val (.ref b196), .unset, .unset, .unset] 105 (hb hby at_103) rfl rfl rfl ?_
    refine gaload (v := (.ref b196)) X hx 107 (hb hby at_105) rfl rfl rfl ?_
    refine giconst X hx (0 : Int32) 108 (hb hby at_107) rfl rfl ?_
    refine gstatic (y := (⟨"com/example/sessionsmith/sessionsmith/SchemaProblemToStringPinLaw", "putTableWord", "([CI)V"⟩ : MethodName)) (argsL := [(.ref b196), (.int 0)]) (st := []) X hx hZ hown (own_w30 hw) (own_w31 hw) (own_w32 hw) (own_w33 hw) (by decide) (payP (W := 0) (rmPut_putTableWord_19 l Z a0 hw (b196) (kc199) ((.int 0)) ((.int 0)) ((.int 0)) ((.int 0)) ((.int 0)) ((.int 0)) ((.int 0)) ((.int 0)) ((.int 0)) ((.int 0)) ((.int 0)) ((.int 0)) ((.int 0)) ((.int 0)) ((.int 0)) ((.int 0)) ((.int 0)) ((.int 0)) ((.int 0)) h195 n0 (Nat.le_trans Z0 sz_h) ge_b196 V198) hZ (own_w33 hw) (own_w32 hw) (by decide) (by decide)) eT (by rw [hml]; rfl) (lenOf own_pd22 rfl) rfl (Nat.le_of_eq rfl) 7 35 rfl rfl (by decide) (by decide) 111 (hb hby at_108) rfl ?_
    clear X eT; clear T; intro v T h200 L2 Lc X eT hL hQ201
    obtain ⟨rfl, Nq, K202, G204⟩ := hQ201
    replace N : Fr n0 L2 := by rw [hL]; exact Fr.app N Nq
    clear Nq hL
    have sfs := (sfS (Safe.arv (EL := own_EL) (vm := vm) hZ.alike V198 (fun z => by cases z)) sf0)
    replace P0_Old := P0_Old.keep K202 (allS ge_b196 all0)
    replace E164 := E164.keep K202
    replace Sf_b144 := Safe.keep K202 sfs C.1 Sf_b144
    replace F165 := F165.keep K202 (ninS ne_b144_b196 nin0)
    replace F166 := F166.keep K202 (ninS ne_b144_b196 nin0)
    replace V167 := V167.keep K202 (ninS ne_t162_b196 nin0)
    replace E190 := E190.keep K202
    replace Sf_b170 := Safe.keep K202 sfs C.1 Sf_b170
    replace F191 := F191.keep K202 (ninS ne_b170_b196 nin0)
    replace F192 := F192.keep K202 (ninS ne_b170_b196 nin0)
    replace V193 := V193.keep K202 (ninS ne_t188_b196 nin0)
    replace K0 := K0.trans K202 (allS (Or.inr sz_b196) all0)
    replace C := C.trans (CHr.keep K202 sfs C.1)
    replace hk := Nat.le_trans hk K202.1
    replace sz_h : h0.size ≤ h200.size := Nat.le_trans sz_h K202.1
    show Go p e below _ T (mkF m 111 #[.val (.int p0), .val (.int p1), .val (.int p2), .val (.int p3), .val (.int p4), .val (.int (p0 &&& (255 : Int32))), .val (.int (p1 &&& (255 : Int32))), .val (.int (p2 &&& (255 : Int32))), .val (.int (p3 &&& (255 : Int32))), .val (.int 1), .val (.ref b144), .val (.ref b170), .val (.ref b196), .unset, .unset, .unset] [])
    refine gaload (v := (.ref b196)) X hx 113 (hb hby at_111) rfl rfl rfl ?_
    refine gbipush X hx (6 : Int32) 115 (hb hby at_113) rfl rfl ?_
    refine giload (v := (p0 &&& (255 : Int32))) X hx 117 (hb hby at_115) rfl rfl ?_
    refine gcastore X hx hZ eT G204 (by decide) (by decide) 6 rfl (Nat.le_of_ble_eq_true rfl) N ge_b196 118 (hb hby at_117) rfl ?_
    clear X eT N; clear T; intro T h206 L X eT N W205 V207
    have sfw := (Safe.arv (EL := own_EL) (vm := vm) hZ.alike G204 (fun z => by cases z))
    replace P0_Old := P0_Old.wr W205 ge_b196
    replace E164 := E164.wr W205
    replace Sf_b144 := Safe.wr W205 sfw C.1 Sf_b144
    replace F165 := F165.other W205 (Or.inl ne_b144_b196)
    replace F166 := F166.other W205 (Or.inl ne_b144_b196)
    replace V167 := V167.other W205 ne_t162_b196
    replace E190 := E190.wr W205
    replace Sf_b170 := Safe.wr W205 sfw C.1 Sf_b170
    replace F191 := F191.other W205 (Or.inl ne_b170_b196)
    replace F192 := F192.other W205 (Or.inl ne_b170_b196)
    replace V193 := V193.other W205 ne_t188_b196
    replace K0 := K0.wr W205 (Or.inr sz_b196)
    replace C := C.trans (CHr.wr W205 sfw C.1)
    replace hk : k0 ≤ h206.size := by rw [Wr.size W205]; exact hk
    replace sz_h : h0.size ≤ h206.size := by rw [Wr.size W205]; exact sz_h
    replace V207 : Arv Z h206 b196 kc199 .char (19 : Int32) [(.int 116), (.int 97), (.int 98), (.int 108), (.int 101), (.int 32), (.int (p0 &&& (255 : Int32))), (.int 0), (.int 0), (.int 0), (.int 0), (.int 0), (.int 0), (.int 0), (.int 0), (.int 0), (.int 0), (.int 0), (.int 0)] (.int 0) := by have z := V207; rw [own_nar8] at z; exact z
    refine gaload (v := (.ref b196)) X hx 120 (hb hby at_118) rfl rfl rfl ?_
    refine gbipush X hx (7 : Int32) 122 (hb hby at_120) rfl rfl ?_
    refine giload (v := (p1 &&& (255 : Int32))) X hx 124 (hb hby at_122) rfl rfl ?_
    refine gcastore X hx hZ eT V207 (by decide) (by decide) 7 rfl (Nat.le_of_ble_eq_true rfl) N ge_b196 125 (hb hby at_124) rfl ?_
    clear X eT N; clear T; intro T h209 L X eT N W208 V210
    have sfw := (Safe.arv (EL := own_EL) (vm := vm) hZ.alike V207 (fun z => by cases z))
    replace P0_Old := P0_Old.wr W208 ge_b196
    replace E164 := E164.wr W208
    replace Sf_b144 := Safe.wr W208 sfw C.1 Sf_b144
    replace F165 := F165.other W208 (Or.inl ne_b144_b196)
    replace F166 := F166.other W208 (Or.inl ne_b144_b196)
    replace V167 := V167.other W208 ne_t162_b196
    replace E190 := E190.wr W208
    replace Sf_b170 := Safe.wr W208 sfw C.1 Sf_b170
    replace F191 := F191.other W208 (Or.inl ne_b170_b196)
    replace F192 := F192.other W208 (Or.inl ne_b170_b196)
    replace V193 := V193.other W208 ne_t188_b196
    replace K0 := K0.wr W208 (Or.inr sz_b196)
    replace C := C.trans (CHr.wr W208 sfw C.1)
    replace hk : k0 ≤ h209.size := by rw [Wr.size W208]; exact hk
    replace sz_h : h0.size ≤ h209.size := by rw [Wr.size W208]; exact sz_h
    replace V210 : Arv Z h209 b196 kc199 .char (19 : Int32) [(.int 116), (.int 97), (.int 98), (.int 108), (.int 101), (.int 32), (.int (p0 &&& (255 : Int32))), (.int (p1 &&& (255 : Int32))), (.int 0), (.int 0), (.int 0), (.int 0), (.int 0), (.int 0), (.int 0), (.int 0), (.int 0), (.int 0), (.int 0)] (.int 0) := by have z := V210; rw [own_nar8] at z; exact z
    refine gaload (v := (.ref b196)) X hx 127 (hb hby at_125) rfl rfl rfl ?_
    refine gbipush X hx (8 : Int32) 129 (hb hby at_127) rfl rfl ?_
    refine gstatic (y := (⟨"com/example/sessionsmith/sessionsmith/SchemaProblemToStringPinLaw", "putIsMissing", "([CI)V"⟩ : MethodName)) (argsL := [(.ref b196), (.int 8)]) (st := []) X hx hZ hown (own_w34 hw) (own_w35 hw) (own_w32 hw) (own_w36 hw) (by decide) (payP (W := 0) (rmPut_putIsMissing_19 l Z a0 hw (b196) (kc199) ((.int 116)) ((.int 97)) ((.int 98)) ((.int 108)) ((.int 101)) ((.int 32)) ((.int (p0 &&& (255 : Int32)))) ((.int (p1 &&& (255 : Int32)))) ((.int 0)) ((.int 0)) ((.int 0)) ((.int 0)) ((.int 0)) ((.int 0)) ((.int 0)) ((.int 0)) ((.int 0)) ((.int 0)) ((.int 0)) h209 n0 (Nat.le_trans Z0 sz_h) ge_b196 V210) hZ (own_w36 hw) (own_w32 hw) (by decide) (by decide)) eT (by rw [hml]; rfl) (lenOf own_pd22 rfl) rfl (Nat.le_of_eq rfl) 7 35 rfl rfl (by decide) (by decide) 132 (hb hby at_129) rfl ?_
    clear X eT; clear T; intro v T h211 L2 Lc X eT hL hQ212
    obtain ⟨rfl, Nq, K213, G215⟩ := hQ212
    replace N : Fr n0 L2 := by rw [hL]; exact Fr.app N Nq
    clear Nq hL
    have sfs := (sfS (Safe.arv (EL := own_EL) (vm := vm) hZ.alike V210 (fun z => by cases z)) sf0)
    replace P0_Old := P0_Old.keep K213 (allS ge_b196 all0)
    replace E164 := E164.keep K213
    replace Sf_b144 := Safe.keep K213 sfs C.1 Sf_b144
    replace F165 := F165.keep K213 (ninS ne_b144_b196 nin0)
    replace F166 := F166.keep K213 (ninS ne_b144_b196 nin0)
    replace V167 := V167.keep K213 (ninS ne_t162_b196 nin0)
    replace E190 := E190.keep K213
    replace Sf_b170 := Safe.keep K213 sfs C.1 Sf_b170
    replace F191 := F191.keep K213 (ninS ne_b170_b196 nin0)
    replace F192 := F192.keep K213 (ninS ne_b170_b196 nin0)
    replace V193 := V193.keep K213 (ninS ne_t188_b196 nin0)
    replace K0 := K0.trans K213 (allS (Or.inr sz_b196) all0)
    replace C := C.trans (CHr.keep K213 sfs C.1)
    replace hk := Nat.le_trans hk K213.1
    replace sz_h : h0.size ≤ h211.size := Nat.le_trans sz_h K213.1
    show Go p e below _ T (mkF m 132 #[.val (.int p0), .val (.int p1), .val (.int p2), .val (.int p3), .val (.int p4), .val (.int (p0 &&& (255 : Int32))), .val (.int (p1 &&& (255 : Int32))), .val (.int (p2 &&& (255 : Int32))), .val (.int (p3 &&& (255 : Int32))), .val (.int 1), .val (.ref b144), .val (.ref b170), .val (.ref b196), .unset, .unset, .unset] [])
    refine gbipush X hx (32 : Int32) 134 (hb hby at_132) rfl rfl ?_
    refine gnewP (aty := .char) X hx hZ (own_w3 hw) eT (n := (32 : Int32)) (by decide) 32 (by decide) (by decide) 8 67 rfl rfl (by decide) (by decide) 136 (hb hby at_134) rfl ?_
    clear X eT; clear T; intro T h216 b217 kc220 X eT ga E218 V219
    have le_a := Nat.le_of_eq ga.symm
    have ne_b144_b217 : b144 ≠ b217 := Nat.ne_of_lt (Nat.lt_of_lt_of_le E164.lt le_a)
    have ne_b217_b144 : b217 ≠ b144 := Ne.symm ne_b144_b217
    have ne_t162_b217 : t162 ≠ b217 := Nat.ne_of_lt (Nat.lt_of_lt_of_le V167.lt le_a)
    have ne_b217_t162 : b217 ≠ t162 := Ne.symm ne_t162_b217
    have ne_b170_b217 : b170 ≠ b217 := Nat.ne_of_lt (Nat.lt_of_lt_of_le E190.lt le_a)
    have ne_b217_b170 : b217 ≠ b170 := Ne.symm ne_b170_b217
    have ne_t188_b217 : t188 ≠ b217 := Nat.ne_of_lt (Nat.lt_of_lt_of_le V193.lt le_a)
    have ne_b217_t188 : b217 ≠ t188 := Ne.symm ne_t188_b217
    have ne_b196_b217 : b196 ≠ b217 := Nat.ne_of_lt (Nat.lt_of_lt_of_le G215.lt le_a)
    have ne_b217_b196 : b217 ≠ b196 := Ne.symm ne_b196_b217
    have sz_b217 : h0.size ≤ b217 := Nat.le_trans sz_h le_a
    have ge_b217 : n0 ≤ b217 := Nat.le_trans Z0 sz_b217
    clear le_a ga
    replace P0_Old := P0_Old.ext E218
    replace E164 := E164.ext E218
    replace Sf_b144 := Safe.ext E218 C.1 Sf_b144
    replace F165 := F165.ext E218
    replace F166 := F166.ext E218
    replace V167 := V167.ext E218
    replace E190 := E190.ext E218
    replace Sf_b170 := Safe.ext E218 C.1 Sf_b170
    replace F191 := F191.ext E218
    replace F192 := F192.ext E218
    replace V193 := V193.ext E218
    replace G215 := G215.ext E218
    replace K0 := K0.ext E218
    replace C := C.trans (CHr.ext E218 C.1)
    replace hk := Nat.le_trans hk E218.1
    replace sz_h : h0.size ≤ h216.size := Nat.le_trans sz_h E218.1
    replace V219 : Arv Z h216 b217 kc220 .char (32 : Int32) [(.int 0), (.int 0), (.int 0), (.int 0), (.int 0), (.int 0), (.int 0), (.int 0), (.int 0), (.int 0), (.int 0), (.int 0), (.int 0), (.int 0), (.int 0), (.int 0), (.int 0), (.int 0), (.int 0), (.int 0), (.int 0), (.int 0), (.int 0), (.int 0), (.int 0), (.int 0), (.int 0), (.int 0), (.int 0), (.int 0), (.int 0), (.int 0)] (.int 0) := V219.pad (pad_rep [] _ 32)
    refine gastore X hx #[.val (.int p0), .val (.int p1), .val (.int p2), .val (.int p3), .val (.int p4), .val (.int (p0 &&& (255 : Int32))), .val (.int (p1 &&& (255 : Int32))), .val (.int (p2 &&& (255 : Int32))), .val (.int (p3 &&& (255 : Int32))), .val (.int 1), .val (.ref b144), .val (.ref b170), .val (.ref b196), .val (.ref b217), .unset, .unset] 138 (hb hby at_136) rfl rfl rfl ?_
    refine gaload (v := (.ref b217)) X hx 140 (hb hby at_138) rfl rfl rfl ?_
    refine giconst X hx (0 : Int32) 141 (hb hby at_140) rfl rfl ?_
    refine gbipush X hx (99 : Int32) 143 (hb hby at_141) rfl rfl ?_
    refine gcastore X hx hZ eT V219 (by decide) (by decide) 0 rfl (Nat.le_of_ble_eq_true rfl) N ge_b217 144 (hb hby at_143) rfl ?_
    clear X eT N; clear T; intro T h222 L X eT N W221 V223
    have sfw := (Safe.arv (EL := own_EL) (vm := vm) hZ.alike V219 (fun z => by cases z))
    replace P0_Old := P0_Old.wr W221 ge_b217
    replace E164 := E164.wr W221
    replace Sf_b144 := Safe.wr W221 sfw C.1 Sf_b144
    replace F165 := F165.other W221 (Or.inl ne_b144_b217)
    replace F166 := F166.other W221 (Or.inl ne_b144_b217)
    replace V167 := V167.other W221 ne_t162_b217
    replace E190 := E190.wr W221
    replace Sf_b170 := Safe.wr W221 sfw C.1 Sf_b170
    replace F191 := F191.other W221 (Or.inl ne_b170_b217)
    replace F192 := F192.other W221 (Or.inl ne_b170_b217)
    replace V193 := V193.other W221 ne_t188_b217
    replace G215 := G215.other W221 ne_b196_b217
    replace K0 := K0.wr W221 (Or.inr sz_b217)
    replace C := C.trans (CHr.wr W221 sfw C.1)
    replace hk : k0 ≤ h222.size := by rw [Wr.size W221]; exact hk
    replace sz_h : h0.size ≤ h222.size := by rw [Wr.size W221]; exact sz_h
    replace V223 : Arv Z h222 b217 kc220 .char (32 : Int32) [(.int 99), (.int 0), (.int 0), (.int 0), (.int 0), (.int 0), (.int 0), (.int 0), (.int 0), (.int 0), (.int 0), (.int 0), (.int 0), (.int 0), (.int 0), (.int 0), (.int 0), (.int 0), (.int 0), (.int 0), (.int 0), (.int 0), (.int 0), (.int 0), (.int 0), (.int 0), (.int 0), (.int 0), (.int 0), (.int 0), (.int 0), (.int 0)] (.int 0) := V223
    refine gaload (v := (.ref b217)) X hx 146 (hb hby at_144) rfl rfl rfl ?_
    refine giconst X hx (1 : Int32) 147 (hb hby at_146) rfl rfl ?_
    refine gbipush X hx (111 : Int32) 149 (hb hby at_147) rfl rfl ?_
    refine gcastore X hx hZ eT V223 (by decide) (by decide) 1 rfl (Nat.le_of_ble_eq_true rfl) N ge_b217 150 (hb hby at_149) rfl ?_
    clear X eT N; clear T; intro T h225 L X eT N W224 V226
    have sfw := (Safe.arv (EL := own_EL) (vm := vm) hZ.alike V223 (fun z => by cases z))
    replace P0_Old := P0_Old.wr W224 ge_b217
    replace E164 := E164.wr W224
    replace Sf_b144 := Safe.wr W224 sfw C.1 Sf_b144
    replace F165 := F165.other W224 (Or.inl ne_b144_b217)
    replace F166 := F166.other W224 (Or.inl ne_b144_b217)
    replace V167 := V167.other W224 ne_t162_b217
    replace E190 := E190.wr W224
    replace Sf_b170 := Safe.wr W224 sfw C.1 Sf_b170
    replace F191 := F191.other W224 (Or.inl ne_b170_b217)
    replace F192 := F192.other W224 (Or.inl ne_b170_b217)
    replace V193 := V193.other W224 ne_t188_b217
    replace G215 := G215.other W224 ne_b196_b217
    replace K0 := K0.wr W224 (Or.inr sz_b217)
    replace C := C.trans (CHr.wr W224 sfw C.1)
    replace hk : k0 ≤ h225.size := by rw [Wr.size W224]; exact hk
    replace sz_h : h0.size ≤ h225.size := by rw [Wr.size W224]; exact sz_h
    replace V226 : Arv Z h225 b217 kc220 .char (32 : Int32) [(.int 99), (.int 111), (.int 0), (.int 0), (.int 0), (.int 0), (.int 0), (.int 0), (.int 0), (.int 0), (.int 0), (.int 0), (.int 0), (.int 0), (.int 0), (.int 0), (.int 0), (.int 0), (.int 0), (.int 0), (.int 0), (.int 0), (.int 0), (.int 0), (.int 0), (.int 0), (.int 0), (.int 0), (.int 0), (.int 0), (.int 0), (.int 0)] (.int 0) := V226
    refine gaload (v := (.ref b217)) X hx 152 (hb hby at_150) rfl rfl rfl ?_
    refine giconst X hx (2 : Int32) 153 (hb hby at_152) rfl rfl ?_
    refine gbipush X hx (108 : Int32) 155 (hb hby at_153) rfl rfl ?_
    refine gcastore X hx hZ eT V226 (by decide) (by decide) 2 rfl (Nat.le_of_ble_eq_true rfl) N ge_b217 156 (hb hby at_155) rfl ?_
    clear X eT N; clear T; intro T h228 L X eT N W227 V229
    have sfw := (Safe.arv (EL := own_EL) (vm := vm) hZ.alike V226 (fun z => by cases z))
    replace P0_Old := P0_Old.wr W227 ge_b217
    replace E164 := E164.wr W227
    replace Sf_b144 := Safe.wr W227 sfw C.1 Sf_b144
    replace F165 := F165.other W227 (Or.inl ne_b144_b217)
    replace F166 := F166.other W227 (Or.inl ne_b144_b217)
    replace V167 := V167.other W227 ne_t162_b217
    replace E190 := E190.wr W227
    replace Sf_b170 := Safe.wr W227 sfw C.1 Sf_b170
    replace F191 := F191.other W227 (Or.inl ne_b170_b217)
    replace F192 := F192.other W227 (Or.inl ne_b170_b217)
    replace V193 := V193.other W227 ne_t188_b217
    replace G215 := G215.other W227 ne_b196_b217
    replace K0 := K0.wr W227 (Or.inr sz_b217)
    replace C := C.trans (CHr.wr W227 sfw C.1)
    replace hk : k0 ≤ h228.size := by rw [Wr.size W227]; exact hk
    replace sz_h : h0.size ≤ h228.size := by rw [Wr.size W227]; exact sz_h
    replace V229 : Arv Z h228 b217 kc220 .char (32 : Int32) [(.int 99), (.int 111), (.int 108), (.int 0), (.int 0), (.int 0), (.int 0), (.int 0), (.int 0), (.int 0), (.int 0), (.int 0), (.int 0), (.int 0), (.int 0), (.int 0), (.int 0), (.int 0), (.int 0), (.int 0), (.int 0), (.int 0), (.int 0), (.int 0), (.int 0), (.int 0), (.int 0), (.int 0), (.int 0), (.int 0), (.int 0), (.int 0)] (.int 0) := V229
    refine gaload (v := (.ref b217)) X hx 158 (hb hby at_156) rfl rfl rfl ?_
    refine giconst X hx (3 : Int32) 159 (hb hby at_158) rfl rfl ?_
    refine gbipush X hx (117 : Int32) 161 (hb hby at_159) rfl rfl ?_
    refine gcastore X hx hZ eT V229 (by decide) (by decide) 3 rfl (Nat.le_of_ble_eq_true rfl) N ge_b217 162 (hb hby at_161) rfl ?_
    clear X eT N; clear T; intro T h231 L X eT N W230 V232
    have sfw := (Safe.arv (EL := own_EL) (vm := vm) hZ.alike V229 (fun z => by cases z))
    replace P0_Old := P0_Old.wr W230 ge_b217
    replace E164 := E164.wr W230
    replace Sf_b144 := Safe.wr W230 sfw C.1 Sf_b144
    replace F165 := F165.other W230 (Or.inl ne_b144_b217)
    replace F166 := F166.other W230 (Or.inl ne_b144_b217)
    replace V167 := V167.other W230 ne_t162_b217
    replace E190 := E190.wr W230
    replace Sf_b170 := Safe.wr W230 sfw C.1 Sf_b170
    replace F191 := F191.other W230 (Or.inl ne_b170_b217)
    replace F192 := F192.other W230 (Or.inl ne_b170_b217)
    replace V193 := V193.other W230 ne_t188_b217
    replace G215 := G215.other W230 ne_b196_b217
    replace K0 := K0.wr W230 (Or.inr sz_b217)
    replace C := C.trans (CHr.wr W230 sfw C.1)
    replace hk : k0 ≤ h231.size := by rw [Wr.size W230]; exact hk
    replace sz_h : h0.size ≤ h231.size := by rw [Wr.size W230]; exact sz_h
    replace V232 : Arv Z h231 b217 kc220 .char (32 : Int32) [(.int 99), (.int 111), (.int 108), (.int 117), (.int 0), (.int 0), (.int 0), (.int 0), (.int 0), (.int 0), (.int 0), (.int 0), (.int 0), (.int 0), (.int 0), (.int 0), (.int 0), (.int 0), (.int 0), (.int 0), (.int 0), (.int 0), (.int 0), (.int 0), (.int 0), (.int 0), (.int 0), (.int 0), (.int 0), (.int 0), (.int 0), (.int 0)] (.int 0) := V232
    refine gaload (v := (.ref b217)) X hx 164 (hb hby at_162) rfl rfl rfl ?_
    refine giconst X hx (4 : Int32) 165 (hb hby at_164) rfl rfl ?_
    refine gbipush X hx (109 : Int32) 167 (hb hby at_165) rfl rfl ?_
    refine gcastore X hx hZ eT V232 (by decide) (by decide) 4 rfl (Nat.le_of_ble_eq_true rfl) N ge_b217 168 (hb hby at_167) rfl ?_
    clear X eT N; clear T; intro T h234 L X eT N W233 V235
    have sfw := (Safe.arv (EL := own_EL) (vm := vm) hZ.alike V232 (fun z => by cases z))
    replace P0_Old := P0_Old.wr W233 ge_b217
    replace E164 := E164.wr W233
    replace Sf_b144 := Safe.wr W233 sfw C.1 Sf_b144
    replace F165 := F165.other W233 (Or.inl ne_b144_b217)
    replace F166 := F166.other W233 (Or.inl ne_b144_b217)
    replace V167 := V167.other W233 ne_t162_b217
    replace E190 := E190.wr W233
    replace Sf_b170 := Safe.wr W233 sfw C.1 Sf_b170
    replace F191 := F191.other W233 (Or.inl ne_b170_b217)
    replace F192 := F192.other W233 (Or.inl ne_b170_b217)
    replace V193 := V193.other W233 ne_t188_b217
    replace G215 := G215.other W233 ne_b196_b217
    replace K0 := K0.wr W233 (Or.inr sz_b217)
    replace C := C.trans (CHr.wr W233 sfw C.1)
    replace hk : k0 ≤ h234.size := by rw [Wr.size W233]; exact hk
    replace sz_h : h0.size ≤ h234.size := by rw [Wr.size W233]; exact sz_h
    replace V235 : Arv Z h234 b217 kc220 .char (32 : Int32) [(.int 99), (.int 111), (.int 108), (.int 117), (.int 109), (.int 0), (.int 0), (.int 0), (.int 0), (.int 0), (.int 0), (.int 0), (.int 0), (.int 0), (.int 0), (.int 0), (.int 0), (.int 0), (.int 0), (.int 0), (.int 0), (.int 0), (.int 0), (.int 0), (.int 0), (.int 0), (.int 0), (.int 0), (.int 0), (.int 0), (.int 0), (.int 0)] (.int 0) := V235
    refine gaload (v := (.ref b217)) X hx 170 (hb hby at_168) rfl rfl rfl ?_
    refine giconst X hx (5 : Int32) 171 (hb hby at_170) rfl rfl ?_
    refine gbipush X hx (110 : Int32) 173 (hb hby at_171) rfl rfl ?_
    refine gcastore X hx hZ eT V235 (by decide) (by decide) 5 rfl (Nat.le_of_ble_eq_true rfl) N ge_b217 174 (hb hby at_173) rfl ?_
    clear X eT N; clear T; intro T h237 L X eT N W236 V238
    have sfw := (Safe.arv (EL := own_EL) (vm := vm) hZ.alike V235 (fun z => by cases z))
    replace P0_Old := P0_Old.wr W236 ge_b217
    replace E164 := E164.wr W236
    replace Sf_b144 := Safe.wr W236 sfw C.1 Sf_b144
    replace F165 := F165.other W236 (Or.inl ne_b144_b217)
    replace F166 := F166.other W236 (Or.inl ne_b144_b217)
    replace V167 := V167.other W236 ne_t162_b217
    replace E190 := E190.wr W236
    replace Sf_b170 := Safe.wr W236 sfw C.1 Sf_b170
    replace F191 := F191.other W236 (Or.inl ne_b170_b217)
    replace F192 := F192.other W236 (Or.inl ne_b170_b217)
    replace V193 := V193.other W236 ne_t188_b217
    replace G215 := G215.other W236 ne_b196_b217
    replace K0 := K0.wr W236 (Or.inr sz_b217)
    replace C := C.trans (CHr.wr W236 sfw C.1)
    replace hk : k0 ≤ h237.size := by rw [Wr.size W236]; exact hk
    replace sz_h : h0.size ≤ h237.size := by rw [Wr.size W236]; exact sz_h
    replace V238 : Arv Z h237 b217 kc220 .char (32 : Int32) [(.int 99), (.int 111), (.int 108), (.int 117), (.int 109), (.int 110), (.int 0), (.int 0), (.int 0), (.int 0), (.int 0), (.int 0), (.int 0), (.int 0), (.int 0), (.int 0), (.int 0), (.int 0), (.int 0), (.int 0), (.int 0), (.int 0), (.int 0), (.int 0), (.int 0), (.int 0), (.int 0), (.int 0), (.int 0), (.int 0), (.int 0), (.int 0)] (.int 0) := V238
    refine gaload (v := (.ref b217)) X hx 176 (hb hby at_174) rfl rfl rfl ?_
    refine gbipush X hx (6 : Int32) 178 (hb hby at_176) rfl rfl ?_
    refine gbipush X hx (32 : Int32) 180 (hb hby at_178) rfl rfl ?_
    refine gcastore X hx hZ eT V238 (by decide) (by decide) 6 rfl (Nat.le_of_ble_eq_true rfl) N ge_b217 181 (hb hby at_180) rfl ?_
    clear X eT N; clear T; intro T h240 L X eT N W239 V241
    have sfw := (Safe.arv (EL := own_EL) (vm := vm) hZ.alike V238 (fun z => by cases z))
    replace P0_Old := P0_Old.wr W239 ge_b217
    replace E164 := E164.wr W239
    replace Sf_b144 := Safe.wr W239 sfw C.1 Sf_b144
    replace F165 := F165.other W239 (Or.inl ne_b144_b217)
    replace F166 := F166.other W239 (Or.inl ne_b144_b217)
    replace V167 := V167.other W239 ne_t162_b217
    replace E190 := E190.wr W239
    replace Sf_b170 := Safe.wr W239 sfw C.1 Sf_b170
    replace F191 := F191.other W239 (Or.inl ne_b170_b217)
    replace F192 := F192.other W239 (Or.inl ne_b170_b217)
    replace V193 := V193.other W239 ne_t188_b217
    replace G215 := G215.other W239 ne_b196_b217
    replace K0 := K0.wr W239 (Or.inr sz_b217)
    replace C := C.trans (CHr.wr W239 sfw C.1)
    replace hk : k0 ≤ h240.size := by rw [Wr.size W239]; exact hk
    replace sz_h : h0.size ≤ h240.size := by rw [Wr.size W239]; exact sz_h
    replace V241 : Arv Z h240 b217 kc220 .char (32 : Int32) [(.int 99), (.int 111), (.int 108), (.int 117), (.int 109), (.int 110), (.int 32), (.int 0), (.int 0), (.int 0), (.int 0), (.int 0), (.int 0), (.int 0), (.int 0), (.int 0), (.int 0), (.int 0), (.int 0), (.int 0), (.int 0), (.int 0), (.int 0), (.int 0), (.int 0), (.int 0), (.int 0), (.int 0), (.int 0), (.int 0), (.int 0), (.int 0)] (.int 0) := V241
    refine gaload (v := (.ref b217)) X hx 183 (hb hby at_181) rfl rfl rfl ?_
    refine gbipush X hx (7 : Int32) 185 (hb hby at_183) rfl rfl ?_
    refine giload (v := (p2 &&& (255 : Int32))) X hx 187 (hb hby at_185) rfl rfl ?_
    refine gcastore X hx hZ eT V241 (by decide) (by decide) 7 rfl (Nat.le_of_ble_eq_true rfl) N ge_b217 188 (hb hby at_187) rfl ?_
    clear X eT N; clear T; intro T h243 L X eT N W242 V244
    have sfw := (Safe.arv (EL := own_EL) (vm := vm) hZ.alike V241 (fun z => by cases z))
    replace P0_Old := P0_Old.wr W242 ge_b217
    replace E164 := E164.wr W242
    replace Sf_b144 := Safe.wr W242 sfw C.1 Sf_b144
    replace F165 := F165.other W242 (Or.inl ne_b144_b217)
    replace F166 := F166.other W242 (Or.inl ne_b144_b217)
    replace V167 := V167.other W242 ne_t162_b217
    replace E190 := E190.wr W242
    replace Sf_b170 := Safe.wr W242 sfw C.1 Sf_b170
    replace F191 := F191.other W242 (Or.inl ne_b170_b217)
    replace F192 := F192.other W242 (Or.inl ne_b170_b217)
    replace V193 := V193.other W242 ne_t188_b217
    replace G215 := G215.other W242 ne_b196_b217
    replace K0 := K0.wr W242 (Or.inr sz_b217)
    replace C := C.trans (CHr.wr W242 sfw C.1)
    replace hk : k0 ≤ h243.size := by rw [Wr.size W242]; exact hk
    replace sz_h : h0.size ≤ h243.size := by rw [Wr.size W242]; exact sz_h
    replace V244 : Arv Z h243 b217 kc220 .char (32 : Int32) [(.int 99), (.int 111), (.int 108), (.int 117), (.int 109), (.int 110), (.int 32), (.int (p2 &&& (255 : Int32))), (.int 0), (.int 0), (.int 0), (.int 0), (.int 0), (.int 0), (.int 0), (.int 0), (.int 0), (.int 0), (.int 0), (.int 0), (.int 0), (.int 0), (.int 0), (.int 0), (.int 0), (.int 0), (.int 0), (.int 0), (.int 0), (.int 0), (.int 0), (.int 0)] (.int 0) := by have z := V244; rw [own_nar8] at z; exact z
    refine gaload (v := (.ref b217)) X hx 190 (hb hby at_188) rfl rfl rfl ?_
    refine gbipush X hx (8 : Int32) 192 (hb hby at_190) rfl rfl ?_
    refine giload (v := (p3 &&& (255 : Int32))) X hx 194 (hb hby at_192) rfl rfl ?_
    refine gcastore X hx hZ eT V244 (by decide) (by decide) 8 rfl (Nat.le_of_ble_eq_true rfl) N ge_b217 195 (hb hby at_194) rfl ?_
    clear X eT N; clear T; intro T h246 L X eT N W245 V247
    have sfw := (Safe.arv (EL := own_EL) (vm := vm) hZ.alike V244 (fun z => by cases z))
    replace P0_Old := P0_Old.wr W245 ge_b217
    replace E164 := E164.wr W245
    replace Sf_b144 := Safe.wr W245 sfw C.1 Sf_b144
    replace F165 := F165.other W245 (Or.inl ne_b144_b217)
    replace F166 := F166.other W245 (Or.inl ne_b144_b217)
    replace V167 := V167.other W245 ne_t162_b217
    replace E190 := E190.wr W245
    replace Sf_b170 := Safe.wr W245 sfw C.1 Sf_b170
    replace F191 := F191.other W245 (Or.inl ne_b170_b217)
    replace F192 := F192.other W245 (Or.inl ne_b170_b217)
    replace V193 := V193.other W245 ne_t188_b217
    replace G215 := G215.other W245 ne_b196_b217
    replace K0 := K0.wr W245 (Or.inr sz_b217)
    replace C := C.trans (CHr.wr W245 sfw C.1)
    replace hk : k0 ≤ h246.size := by rw [Wr.size W245]; exact hk
    replace sz_h : h0.size ≤ h246.size := by rw [Wr.size W245]; exact sz_h
    replace V247 : Arv Z h246 b217 kc220 .char (32 : Int32) [(.int 99), (.int 111), (.int 108), (.int 117), (.int 109), (.int 110), (.int 32), (.int (p2 &&& (255 : Int32))), (.int (p3 &&& (255 : Int32))), (.int 0), (.int 0), (.int 0), (.int 0), (.int 0), (.int 0), (.int 0), (.int 0), (.int 0), (.int 0), (.int 0), (.int 0), (.int 0), (.int 0), (.int 0), (.int 0), (.int 0), (.int 0), (.int 0), (.int 0), (.int 0), (.int 0), (.int 0)] (.int 0) := by have z := V247; rw [own_nar8] at z; exact z
    refine gaload (v := (.ref b217)) X hx 197 (hb hby at_195) rfl rfl rfl ?_
    refine gbipush X hx (9 : Int32) 199 (hb hby at_197) rfl rfl ?_
    refine gbipush X hx (32 : Int32) 201 (hb hby at_199) rfl rfl ?_
    refine gcastore X hx hZ eT V247 (by decide) (by decide) 9 rfl (Nat.le_of_ble_eq_true rfl) N ge_b217 202 (hb hby at_201) rfl ?_
    clear X eT N; clear T; intro T h249 L X eT N W248 V250
    have sfw := (Safe.arv (EL := own_EL) (vm := vm) hZ.alike V247 (fun z => by cases z))
    replace P0_Old := P0_Old.wr W248 ge_b217
    replace E164 := E164.wr W248
    replace Sf_b144 := Safe.wr W248 sfw C.1 Sf_b144
    replace F165 := F165.other W248 (Or.inl ne_b144_b217)
    replace F166 := F166.other W248 (Or.inl ne_b144_b217)
    replace V167 := V167.other W248 ne_t162_b217
    replace E190 := E190.wr W248
    replace Sf_b170 := Safe.wr W248 sfw C.1 Sf_b170
    replace F191 := F191.other W248 (Or.inl ne_b170_b217)
    replace F192 := F192.other W248 (Or.inl ne_b170_b217)
    replace V193 := V193.other W248 ne_t188_b217
    replace G215 := G215.other W248 ne_b196_b217
    replace K0 := K0.wr W248 (Or.inr sz_b217)
    replace C := C.trans (CHr.wr W248 sfw C.1)
    replace hk : k0 ≤ h249.size := by rw [Wr.size W248]; exact hk
    replace sz_h : h0.size ≤ h249.size := by rw [Wr.size W248]; exact sz_h
    replace V250 : Arv Z h249 b217 kc220 .char (32 : Int32) [(.int 99), (.int 111), (.int 108), (.int 117), (.int 109), (.int 110), (.int 32), (.int (p2 &&& (255 : Int32))), (.int (p3 &&& (255 : Int32))), (.int 32), (.int 0), (.int 0), (.int 0), (.int 0), (.int 0), (.int 0), (.int 0), (.int 0), (.int 0), (.int 0), (.int 0), (.int 0), (.int 0), (.int 0), (.int 0), (.int 0), (.int 0), (.int 0), (.int 0), (.int 0), (.int 0), (.int 0)] (.int 0) := V250
    refine gaload (v := (.ref b217)) X hx 204 (hb hby at_202) rfl rfl rfl ?_
    refine gbipush X hx (10 : Int32) 206 (hb hby at_204) rfl rfl ?_
    refine gbipush X hx (111 : Int32) 208 (hb hby at_206) rfl rfl ?_
    refine gcastore X hx hZ eT V250 (by decide) (by decide) 10 rfl (Nat.le_of_ble_eq_true rfl) N ge_b217 209 (hb hby at_208) rfl ?_
    clear X eT N; clear T; intro T h252 L X eT N W251 V253
    have sfw := (Safe.arv (EL := own_EL) (vm := vm) hZ.alike V250 (fun z => by cases z))
    replace P0_Old := P0_Old.wr W251 ge_b217
    replace E164 := E164.wr W251
    replace Sf_b144 := Safe.wr W251 sfw C.1 Sf_b144
    replace F165 := F165.other W251 (Or.inl ne_b144_b217)
    replace F166 := F166.other W251 (Or.inl ne_b144_b217)
    replace V167 := V167.other W251 ne_t162_b217
    replace E190 := E190.wr W251
    replace Sf_b170 := Safe.wr W251 sfw C.1 Sf_b170
    replace F191 := F191.other W251 (Or.inl ne_b170_b217)
    replace F192 := F192.other W251 (Or.inl ne_b170_b217)
    replace V193 := V193.other W251 ne_t188_b217
    replace G215 := G215.other W251 ne_b196_b217
    replace K0 := K0.wr W251 (Or.inr sz_b217)
    replace C := C.trans (CHr.wr W251 sfw C.1)
    replace hk : k0 ≤ h252.size := by rw [Wr.size W251]; exact hk
    replace sz_h : h0.size ≤ h252.size := by rw [Wr.size W251]; exact sz_h
    replace V253 : Arv Z h252 b217 kc220 .char (32 : Int32) [(.int 99), (.int 111), (.int 108), (.int 117), (.int 109), (.int 110), (.int 32), (.int (p2 &&& (255 : Int32))), (.int (p3 &&& (255 : Int32))), (.int 32), (.int 111), (.int 0), (.int 0), (.int 0), (.int 0), (.int 0), (.int 0), (.int 0), (.int 0), (.int 0), (.int 0), (.int 0), (.int 0), (.int 0), (.int 0), (.int 0), (.int 0), (.int 0), (.int 0), (.int 0), (.int 0), (.int 0)] (.int 0) := V253
    refine gaload (v := (.ref b217)) X hx 211 (hb hby at_209) rfl rfl rfl ?_
    refine gbipush X hx (11 : Int32) 213 (hb hby at_211) rfl rfl ?_
    refine gbipush X hx (102 : Int32) 215 (hb hby at_213) rfl rfl ?_
    refine gcastore X hx hZ eT V253 (by decide) (by decide) 11 rfl (Nat.le_of_ble_eq_true rfl) N ge_b217 216 (hb hby at_215) rfl ?_
    clear X eT N; clear T; intro T h255 L X eT N W254 V256
    have sfw := (Safe.arv (EL := own_EL) (vm := vm) hZ.alike V253 (fun z => by cases z))
    replace P0_Old := P0_Old.wr W254 ge_b217
    replace E164 := E164.wr W254
    replace Sf_b144 := Safe.wr W254 sfw C.1 Sf_b144
    replace F165 := F165.other W254 (Or.inl ne_b144_b217)
    replace F166 := F166.other W254 (Or.inl ne_b144_b217)
    replace V167 := V167.other W254 ne_t162_b217
    replace E190 := E190.wr W254
    replace Sf_b170 := Safe.wr W254 sfw C.1 Sf_b170
    replace F191 := F191.other W254 (Or.inl ne_b170_b217)
    replace F192 := F192.other W254 (Or.inl ne_b170_b217)
    replace V193 := V193.other W254 ne_t188_b217
    replace G215 := G215.other W254 ne_b196_b217
    replace K0 := K0.wr W254 (Or.inr sz_b217)
    replace C := C.trans (CHr.wr W254 sfw C.1)
    replace hk : k0 ≤ h255.size := by rw [Wr.size W254]; exact hk
    replace sz_h : h0.size ≤ h255.size := by rw [Wr.size W254]; exact sz_h
    replace V256 : Arv Z h255 b217 kc220 .char (32 : Int32) [(.int 99), (.int 111), (.int 108), (.int 117), (.int 109), (.int 110), (.int 32), (.int (p2 &&& (255 : Int32))), (.int (p3 &&& (255 : Int32))), (.int 32), (.int 111), (.int 102), (.int 0), (.int 0), (.int 0), (.int 0), (.int 0), (.int 0), (.int 0), (.int 0), (.int 0), (.int 0), (.int 0), (.int 0), (.int 0), (.int 0), (.int 0), (.int 0), (.int 0), (.int 0), (.int 0), (.int 0)] (.int 0) := V256
    refine gaload (v := (.ref b217)) X hx 218 (hb hby at_216) rfl rfl rfl ?_
    refine gbipush X hx (12 : Int32) 220 (hb hby at_218) rfl rfl ?_
    refine gbipush X hx (32 : Int32) 222 (hb hby at_220) rfl rfl ?_
    refine gcastore X hx hZ eT V256 (by decide) (by decide) 12 rfl (Nat.le_of_ble_eq_true rfl) N ge_b217 223 (hb hby at_222) rfl ?_
    clear X eT N; clear T; intro T h258 L X eT N W257 V259
    have sfw := (Safe.arv (EL := own_EL) (vm := vm) hZ.alike V256 (fun z => by cases z))
    replace P0_Old := P0_Old.wr W257 ge_b217
    replace E164 := E164.wr W257
    replace Sf_b144 := Safe.wr W257 sfw C.1 Sf_b144
    replace F165 := F165.other W257 (Or.inl ne_b144_b217)
    replace F166 := F166.other W257 (Or.inl ne_b144_b217)
    replace V167 := V167.other W257 ne_t162_b217
    replace E190 := E190.wr W257
    replace Sf_b170 := Safe.wr W257 sfw C.1 Sf_b170
    replace F191 := F191.other W257 (Or.inl ne_b170_b217)
    replace F192 := F192.other W257 (Or.inl ne_b170_b217)
    replace V193 := V193.other W257 ne_t188_b217
    replace G215 := G215.other W257 ne_b196_b217
    replace K0 := K0.wr W257 (Or.inr sz_b217)
    replace C := C.trans (CHr.wr W257 sfw C.1)
    replace hk : k0 ≤ h258.size := by rw [Wr.size W257]; exact hk
    replace sz_h : h0.size ≤ h258.size := by rw [Wr.size W257]; exact sz_h
    replace V259 : Arv Z h258 b217 kc220 .char (32 : Int32) [(.int 99), (.int 111), (.int 108), (.int 117), (.int 109), (.int 110), (.int 32), (.int (p2 &&& (255 : Int32))), (.int (p3 &&& (255 : Int32))), (.int 32), (.int 111), (.int 102), (.int 32), (.int 0), (.int 0), (.int 0), (.int 0), (.int 0), (.int 0), (.int 0), (.int 0), (.int 0), (.int 0), (.int 0), (.int 0), (.int 0), (.int 0), (.int 0), (.int 0), (.int 0), (.int 0), (.int 0)] (.int 0) := V259
    refine gaload (v := (.ref b217)) X hx 225 (hb hby at_223) rfl rfl rfl ?_
    refine gbipush X hx (13 : Int32) 227 (hb hby at_225) rfl rfl ?_
    refine gstatic (y := (⟨"com/example/sessionsmith/sessionsmith/SchemaProblemToStringPinLaw", "putTableWord", "([CI)V"⟩ : MethodName)) (argsL := [(.ref b217), (.int 13)]) (st := []) X hx hZ hown (own_w30 hw) (own_w31 hw) (own_w32 hw) (own_w33 hw) (by decide) (payP (W := 0) (rmPut_putTableWord_32 l Z a0 hw (b217) (kc220) ((.int 99)) ((.int 111)) ((.int 108)) ((.int 117)) ((.int 109)) ((.int 110)) ((.int 32)) ((.int (p2 &&& (255 : Int32)))) ((.int (p3 &&& (255 : Int32)))) ((.int 32)) ((.int 111)) ((.int 102)) ((.int 32)) ((.int 0)) ((.int 0)) ((.int 0)) ((.int 0)) ((.int 0)) ((.int 0)) ((.int 0)) ((.int 0)) ((.int 0)) ((.int 0)) ((.int 0)) ((.int 0)) ((.int 0)) ((.int 0)) ((.int 0)) ((.int 0)) ((.int 0)) ((.int 0)) ((.int 0)) h258 n0 (Nat.le_trans Z0 sz_h) ge_b217 V259) hZ (own_w33 hw) (own_w32 hw) (by decide) (by decide)) eT (by rw [hml]; rfl) (lenOf own_pd22 rfl) rfl (Nat.le_of_eq rfl) 8 67 rfl rfl (by decide) (by decide) 230 (hb hby at_227) rfl ?_
    clear X eT; clear T; intro v T h260 L2 Lc X eT hL hQ261
    obtain ⟨rfl, Nq, K262, G264⟩ := hQ261
    replace N : Fr n0 L2 := by rw [hL]; exact Fr.app N Nq
    clear Nq hL
    have sfs := (sfS (Safe.arv (EL := own_EL) (vm := vm) hZ.alike V259 (fun z => by cases z)) sf0)
    replace P0_Old := P0_Old.keep K262 (allS ge_b217 all0)
    replace E164 := E164.keep K262
    replace Sf_b144 := Safe.keep K262 sfs C.1 Sf_b144
    replace F165 := F165.keep K262 (ninS ne_b144_b217 nin0)
    replace F166 := F166.keep K262 (ninS ne_b144_b217 nin0)
    replace V167 := V167.keep K262 (ninS ne_t162_b217 nin0)
    replace E190 := E190.keep K262
    replace Sf_b170 := Safe.keep K262 sfs C.1 Sf_b170
    replace F191 := F191.keep K262 (ninS ne_b170_b217 nin0)
    replace F192 := F192.keep K262 (ninS ne_b170_b217 nin0)
    replace V193 := V193.keep K262 (ninS ne_t188_b217 nin0)
    replace G215 := G215.keep K262 (ninS ne_b196_b217 nin0)
    replace K0 := K0.trans K262 (allS (Or.inr sz_b217) all0)
    replace C := C.trans (CHr.keep K262 sfs C.1)
    replace hk := Nat.le_trans hk K262.1
    replace sz_h : h0.size ≤ h260.size := Nat.le_trans sz_h K262.1
    show Go p e below _ T (mkF m 230 #[.val (.int p0), .val (.int p1), .val (.int p2), .val (.int p3), .val (.int p4), .val (.int (p0 &&& (255 : Int32))), .val (.int (p1 &&& (255 : Int32))), .val (.int (p2 &&& (255 : Int32))), .val (.int (p3 &&& (255 : Int32))), .val (.int 1), .val (.ref b144), .val (.ref b170), .val (.ref b196), .val (.ref b217), .unset, .unset] [])
    refine gaload (v := (.ref b217)) X hx 232 (hb hby at_230) rfl rfl rfl ?_
    refine gbipush X hx (19 : Int32) 234 (hb hby at_232) rfl rfl ?_
    refine giload (v := (p0 &&& (255 : Int32))) X hx 236 (hb hby at_234) rfl rfl ?_
    refine gcastore X hx hZ eT G264 (by decide) (by decide) 19 rfl (Nat.le_of_ble_eq_true rfl) N ge_b217 237 (hb hby at_236) rfl ?_
    clear X eT N; clear T; intro T h266 L X eT N W265 V267
    have sfw := (Safe.arv (EL := own_EL) (vm := vm) hZ.alike G264 (fun z => by cases z))
    replace P0_Old := P0_Old.wr W265 ge_b217
    replace E164 := E164.wr W265
    replace Sf_b144 := Safe.wr W265 sfw C.1 Sf_b144
    replace F165 := F165.other W265 (Or.inl ne_b144_b217)
    replace F166 := F166.other W265 (Or.inl ne_b144_b217)
    replace V167 := V167.other W265 ne_t162_b217
    replace E190 := E190.wr W265
    replace Sf_b170 := Safe.wr W265 sfw C.1 Sf_b170
    replace F191 := F191.other W265 (Or.inl ne_b170_b217)
    replace F192 := F192.other W265 (Or.inl ne_b170_b217)
    replace V193 := V193.other W265 ne_t188_b217
    replace G215 := G215.other W265 ne_b196_b217
    replace K0 := K0.wr W265 (Or.inr sz_b217)
    replace C := C.trans (CHr.wr W265 sfw C.1)
    replace hk : k0 ≤ h266.size := by rw [Wr.size W265]; exact hk
    replace sz_h : h0.size ≤ h266.size := by rw [Wr.size W265]; exact sz_h
    replace V267 : Arv Z h266 b217 kc220 .char (32 : Int32) [(.int 99), (.int 111), (.int 108), (.int 117), (.int 109), (.int 110), (.int 32), (.int (p2 &&& (255 : Int32))), (.int (p3 &&& (255 : Int32))), (.int 32), (.int 111), (.int 102), (.int 32), (.int 116), (.int 97), (.int 98), (.int 108), (.int 101), (.int 32), (.int (p0 &&& (255 : Int32))), (.int 0), (.int 0), (.int 0), (.int 0), (.int 0), (.int 0), (.int 0), (.int 0), (.int 0), (.int 0), (.int 0), (.int 0)] (.int 0) := by have z := V267; rw [own_nar8] at z; exact z
    refine gaload (v := (.ref b217)) X hx 239 (hb hby at_237) rfl rfl rfl ?_
    refine gbipush X hx (20 : Int32) 241 (hb hby at_239) rfl rfl ?_
    refine giload (v := (p1 &&& (255 : Int32))) X hx 243 (hb hby at_241) rfl rfl ?_
    refine gcastore X hx hZ eT V267 (by decide) (by decide) 20 rfl (Nat.le_of_ble_eq_true rfl) N ge_b217 244 (hb hby at_243) rfl ?_
    clear X eT N; clear T; intro T h269 L X eT N W268 V270
    have sfw := (Safe.arv (EL := own_EL) (vm := vm) hZ.alike V267 (fun z => by cases z))
    replace P0_Old := P0_Old.wr W268 ge_b217
    replace E164 := E164.wr W268
    replace Sf_b144 := Safe.wr W268 sfw C.1 Sf_b144
    replace F165 := F165.other W268 (Or.inl ne_b144_b217)
    replace F166 := F166.other W268 (Or.inl ne_b144_b217)
    replace V167 := V167.other W268 ne_t162_b217
    replace E190 := E190.wr W268
    replace Sf_b170 := Safe.wr W268 sfw C.1 Sf_b170
    replace F191 := F191.other W268 (Or.inl ne_b170_b217)
    replace F192 := F192.other W268 (Or.inl ne_b170_b217)
    replace V193 := V193.other W268 ne_t188_b217
    replace G215 := G215.other W268 ne_b196_b217
    replace K0 := K0.wr W268 (Or.inr sz_b217)
    replace C := C.trans (CHr.wr W268 sfw C.1)
    replace hk : k0 ≤ h269.size := by rw [Wr.size W268]; exact hk
    replace sz_h : h0.size ≤ h269.size := by rw [Wr.size W268]; exact sz_h
    replace V270 : Arv Z h269 b217 kc220 .char (32 : Int32) [(.int 99), (.int 111), (.int 108), (.int 117), (.int 109), (.int 110), (.int 32), (.int (p2 &&& (255 : Int32))), (.int (p3 &&& (255 : Int32))), (.int 32), (.int 111), (.int 102), (.int 32), (.int 116), (.int 97), (.int 98), (.int 108), (.int 101), (.int 32), (.int (p0 &&& (255 : Int32))), (.int (p1 &&& (255 : Int32))), (.int 0), (.int 0), (.int 0), (.int 0), (.int 0), (.int 0), (.int 0), (.int 0), (.int 0), (.int 0), (.int 0)] (.int 0) := by have z := V270; rw [own_nar8] at z; exact z
    refine gaload (v := (.ref b217)) X hx 246 (hb hby at_244) rfl rfl rfl ?_
    refine gbipush X hx (21 : Int32) 248 (hb hby at_246) rfl rfl ?_
    refine gstatic (y := (⟨"com/example/sessionsmith/sessionsmith/SchemaProblemToStringPinLaw", "putIsMissing", "([CI)V"⟩ : MethodName)) (argsL := [(.ref b217), (.int 21)]) (st := []) X hx hZ hown (own_w34 hw) (own_w35 hw) (own_w32 hw) (own_w36 hw) (by decide) (payP (W := 0) (rmPut_putIsMissing_32 l Z a0 hw (b217) (kc220) ((.int 99)) ((.int 111)) ((.int 108)) ((.int 117)) ((.int 109)) ((.int 110)) ((.int 32)) ((.int (p2 &&& (255 : Int32)))) ((.int (p3 &&& (255 : Int32)))) ((.int 32)) ((.int 111)) ((.int 102)) ((.int 32)) ((.int 116)) ((.int 97)) ((.int 98)) ((.int 108)) ((.int 101)) ((.int 32)) ((.int (p0 &&& (255 : Int32)))) ((.int (p1 &&& (255 : Int32)))) ((.int 0)) ((.int 0)) ((.int 0)) ((.int 0)) ((.int 0)) ((.int 0)) ((.int 0)) ((.int 0)) ((.int 0)) ((.int 0)) ((.int 0)) h269 n0 (Nat.le_trans Z0 sz_h) ge_b217 V270) hZ (own_w36 hw) (own_w32 hw) (by decide) (by decide)) eT (by rw [hml]; rfl) (lenOf own_pd22 rfl) rfl (Nat.le_of_eq rfl) 8 67 rfl rfl (by decide) (by decide) 251 (hb hby at_248) rfl ?_
    clear X eT; clear T; intro v T h271 L2 Lc X eT hL hQ272
    obtain ⟨rfl, Nq, K273, G275⟩ := hQ272
    replace N : Fr n0 L2 := by rw [hL]; exact Fr.app N Nq
    clear Nq hL
    have sfs := (sfS (Safe.arv (EL := own_EL) (vm := vm) hZ.alike V270 (fun z => by cases z)) sf0)
    replace P0_Old := P0_Old.keep K273 (allS ge_b217 all0)
    replace E164 := E164.keep K273
    replace Sf_b144 := Safe.keep K273 sfs C.1 Sf_b144
    replace F165 := F165.keep K273 (ninS ne_b144_b217 nin0)
    replace F166 := F166.keep K273 (ninS ne_b144_b217 nin0)
    replace V167 := V167.keep K273 (ninS ne_t162_b217 nin0)
    replace E190 := E190.keep K273
    replace Sf_b170 := Safe.keep K273 sfs C.1 Sf_b170
    replace F191 := F191.keep K273 (ninS ne_b170_b217 nin0)
    replace F192 := F192.keep K273 (ninS ne_b170_b217 nin0)
    replace V193 := V193.keep K273 (ninS ne_t188_b217 nin0)
    replace G215 := G215.keep K273 (ninS ne_b196_b217 nin0)
    replace K0 := K0.trans K273 (allS (Or.inr sz_b217) all0)
    replace C := C.trans (CHr.keep K273 sfs C.1)
    replace hk := Nat.le_trans hk K273.1
    replace sz_h : h0.size ≤ h271.size := Nat.le_trans sz_h K273.1
    show Go p e below _ T (mkF m 251 #[.val (.int p0), .val (.int p1), .val (.int p2), .val (.int p3), .val (.int p4), .val (.int (p0 &&& (255 : Int32))), .val (.int (p1 &&& (255 : Int32))), .val (.int (p2 &&& (255 : Int32))), .val (.int (p3 &&& (255 : Int32))), .val (.int 1), .val (.ref b144), .val (.ref b170), .val (.ref b196), .val (.ref b217), .unset, .unset] [])
    refine giload (v := (1 : Int32)) X hx 253 (hb hby at_251) rfl rfl ?_
    refine gifNo X hx 256 (hb hby at_253) rfl (by decide) ?_
    refine gnewO X hx hZ hown (own_w0 hw) (own_w1 hw) (own_w2 hw) eT 9 71 rfl rfl (by decide) (by decide) 259 (hb hby at_256) rfl ?_
    clear X eT; clear T; intro T h276 b277 X eT ga E278 A279 D280
    have le_a := Nat.le_of_eq ga.symm
    have ne_b144_b277 : b144 ≠ b277 := Nat.ne_of_lt (Nat.lt_of_lt_of_le E164.lt le_a)
    have ne_b277_b144 : b277 ≠ b144 := Ne.symm ne_b144_b277
    have ne_t162_b277 : t162 ≠ b277 := Nat.ne_of_lt (Nat.lt_of_lt_of_le V167.lt le_a)
    have ne_b277_t162 : b277 ≠ t162 := Ne.symm ne_t162_b277
    have ne_b170_b277 : b170 ≠ b277 := Nat.ne_of_lt (Nat.lt_of_lt_of_le E190.lt le_a)
    have ne_b277_b170 : b277 ≠ b170 := Ne.symm ne_b170_b277
    have ne_t188_b277 : t188 ≠ b277 := Nat.ne_of_lt (Nat.lt_of_lt_of_le V193.lt le_a)
    have ne_b277_t188 : b277 ≠ t188 := Ne.symm ne_t188_b277
    have ne_b196_b277 : b196 ≠ b277 := Nat.ne_of_lt (Nat.lt_of_lt_of_le G215.lt le_a)
    have ne_b277_b196 : b277 ≠ b196 := Ne.symm ne_b196_b277
    have ne_b217_b277 : b217 ≠ b277 := Nat.ne_of_lt (Nat.lt_of_lt_of_le G275.lt le_a)
    have ne_b277_b217 : b277 ≠ b217 := Ne.symm ne_b217_b277
    have sz_b277 : h0.size ≤ b277 := Nat.le_trans sz_h le_a
    have ge_b277 : n0 ≤ b277 := Nat.le_trans Z0 sz_b277
    have Sf_b277 := Safe.ext E278 C.1 (Safe.new le_a)
    clear le_a ga
    replace P0_Old := P0_Old.ext E278
    replace E164 := E164.ext E278
    replace Sf_b144 := Safe.ext E278 C.1 Sf_b144
    replace F165 := F165.ext E278
    replace F166 := F166.ext E278
    replace V167 := V167.ext E278
    replace E190 := E190.ext E278
    replace Sf_b170 := Safe.ext E278 C.1 Sf_b170
    replace F191 := F191.ext E278
    replace F192 := F192.ext E278
    replace V193 := V193.ext E278
    replace G215 := G215.ext E278
    replace G275 := G275.ext E278
    replace K0 := K0.ext E278
    replace C := C.trans (CHr.ext E278 C.1)
    replace hk := Nat.le_trans hk E278.1
    replace sz_h : h0.size ≤ h276.size := Nat.le_trans sz_h E278.1
    have F_coder_b277 : Fld Z h276 b277 "java/lang/String" "coder" "B" (.int 0) := D280 (Or.inr (own_w27 hw)) (ty := .byte) own_pf1
    have F_value_b277 : Fld Z h276 b277 "java/lang/String" "value" "[B" .null := D280 (Or.inr (own_w29 hw)) (ty := (.array .byte)) own_pf0
    clear D280
    refine gdup X hx 260 (hb hby at_259) rfl rfl ?_
    refine gaload (v := (.ref b217)) X hx 262 (hb hby at_260) rfl rfl rfl ?_
    refine gspecial (y := (⟨"java/lang/String", "<init>", "([C)V"⟩ : MethodName)) (a := b277) (argsL := [(.ref b217)]) (st := [(.ref b277)]) X hx hZ hown rfl (own_w4 hw) (own_w5 hw) (own_w6 hw) (by decide) (payNew (W := 1) (cs := ([(99 : Int32), (111 : Int32), (108 : Int32), (117 : Int32), (109 : Int32), (110 : Int32), (32 : Int32), (p2 &&& (255 : Int32)), (p3 &&& (255 : Int32)), (32 : Int32), (111 : Int32), (102 : Int32), (32 : Int32), (116 : Int32), (97 : Int32), (98 : Int32), (108 : Int32), (101 : Int32), (32 : Int32), (p0 &&& (255 : Int32)), (p1 &&& (255 : Int32)), (32 : Int32), (105 : Int32), (115 : Int32), (32 : Int32), (109 : Int32), (105 : Int32), (115 : Int32), (115 : Int32), (105 : Int32), (110 : Int32), (103 : Int32)] : List Int32)) (n := 32) (n0 := n0) hZ hw ge_b277 (Nat.le_trans Z0 sz_h) A279 F_value_b277 F_coder_b277 G275 rfl (O2.ext P0_Old.2) P5 rfl rfl (by decide) (by decide) (own_cS (by decide) (own_cS (by decide) (own_cS (by decide) (own_cS (by decide) (own_cS (by decide) (own_cS (by decide) (own_cS (by decide) (own_cS (own_rng _) (own_cS (own_rng _) (own_cS (by decide) (own_cS (by decide) (own_cS (by decide) (own_cS (by decide) (own_cS (by decide) (own_cS (by decide) (own_cS (by decide) (own_cS (by decide) (own_cS (by decide) (own_cS (by decide) (own_cS (own_rng _) (own_cS (own_rng _) (own_cS (by decide) (own_cS (by decide) (own_cS (by decide) (own_cS (by decide) (own_cS (by decide) (own_cS (by decide) (own_cS (by decide) (own_cS (by decide) (own_cS (by decide) (own_cS (by decide) (own_cS (by decide) own_c0)))))))))))))))))))))))))))))))) (by decide) (by decide)) eT (by rw [hml]; rfl) (lenOf own_pd21 rfl) rfl (Nat.le_of_eq rfl) 10 103 rfl rfl (by decide) (by decide) 265 (hb hby at_262) rfl ?_
    clear X eT; clear T; intro v T h284 L2 Lc X eT hL hQ285
    obtain ⟨rfl, Nq, K281, t282, zz_t282, Str283⟩ := hQ285
    replace N : Fr n0 L2 := by rw [hL]; exact Fr.app N Nq
    clear Nq hL
    have ne_b144_t282 : b144 ≠ t282 := Nat.ne_of_lt (Nat.lt_of_lt_of_le E164.lt zz_t282)
    have ne_t282_b144 : t282 ≠ b144 := Ne.symm ne_b144_t282
    have ne_t162_t282 : t162 ≠ t282 := Nat.ne_of_lt (Nat.lt_of_lt_of_le V167.lt zz_t282)
    have ne_t282_t162 : t282 ≠ t162 := Ne.symm ne_t162_t282
    have ne_b170_t282 : b170 ≠ t282 := Nat.ne_of_lt (Nat.lt_of_lt_of_le E190.lt zz_t282)
    have ne_t282_b170 : t282 ≠ b170 := Ne.symm ne_b170_t282
    have ne_t188_t282 : t188 ≠ t282 := Nat.ne_of_lt (Nat.lt_of_lt_of_le V193.lt zz_t282)
    have ne_t282_t188 : t282 ≠ t188 := Ne.symm ne_t188_t282
    have ne_b217_t282 : b217 ≠ t282 := Nat.ne_of_lt (Nat.lt_of_lt_of_le G275.lt zz_t282)
    have ne_t282_b217 : t282 ≠ b217 := Ne.symm ne_b217_t282
    have ne_b277_t282 : b277 ≠ t282 := Nat.ne_of_lt (Nat.lt_of_lt_of_le A279.lt zz_t282)
    have ne_t282_b277 : t282 ≠ b277 := Ne.symm ne_b277_t282
    have sz_t282 : h0.size ≤ t282 := Nat.le_trans sz_h zz_t282
    have ge_t282 : n0 ≤ t282 := Nat.le_trans Z0 sz_t282
    have sfs := (sfS Sf_b277 sf0)
    replace P0_Old := P0_Old.keep K281 (allS ge_b277 all0)
    replace E164 := E164.keep K281
    replace Sf_b144 := Safe.keep K281 sfs C.1 Sf_b144
    replace F165 := F165.keep K281 (ninS ne_b144_b277 nin0)
    replace F166 := F166.keep K281 (ninS ne_b144_b277 nin0)
    replace V167 := V167.keep K281 (ninS ne_t162_b277 nin0)
    replace E190 := E190.keep K281
    replace Sf_b170 := Safe.keep K281 sfs C.1 Sf_b170
    replace F191 := F191.keep K281 (ninS ne_b170_b277 nin0)
    replace F192 := F192.keep K281 (ninS ne_b170_b277 nin0)
    replace V193 := V193.keep K281 (ninS ne_t188_b277 nin0)
    replace G275 := G275.keep K281 (ninS ne_b217_b277 nin0)
    replace Sf_b277 := Safe.keep K281 sfs C.1 Sf_b277
    replace K0 := K0.trans K281 (allS (Or.inr sz_b277) all0)
    replace C := C.trans (CHr.keep K281 sfs C.1)
    replace hk := Nat.le_trans hk K281.1
    replace sz_h : h0.size ≤ h284.size := Nat.le_trans sz_h K281.1
    show Go p e below _ T (mkF m 265 #[.val (.int p0), .val (.int p1), .val (.int p2), .val (.int p3), .val (.int p4), .val (.int (p0 &&& (255 : Int32))), .val (.int (p1 &&& (255 : Int32))), .val (.int (p2 &&& (255 : Int32))), .val (.int (p3 &&& (255 : Int32))), .val (.int 1), .val (.ref b144), .val (.ref b170), .val (.ref b196), .val (.ref b217), .unset, .unset] [(.ref b277)])
    refine ggoto X hx 277 (hb hby at_265) (by decide) (by decide) ?_
    refine gastore X hx #[.val (.int p0), .val (.int p1), .val (.int p2), .val (.int p3), .val (.int p4), .val (.int (p0 &&& (255 : Int32))), .val (.int (p1 &&& (255 : Int32))), .val (.int (p2 &&& (255 : Int32))), .val (.int (p3 &&& (255 : Int32))), .val (.int 1), .val (.ref b144), .val (.ref b170), .val (.ref b196), .val (.ref b217), .val (.ref b277), .unset] 279 (hb hby at_277) rfl rfl rfl ?_
    refine gnewO X hx hZ hown (own_w37 hw) (own_w38 hw) (own_w39 hw) eT 11 105 rfl rfl (by decide) (by decide) 282 (hb hby at_279) rfl ?_
    clear X eT; clear T; intro T h286 b287 X eT ga E288 A289 D290
    have le_a := Nat.le_of_eq ga.symm
    have ne_b144_b287 : b144 ≠ b287 := Nat.ne_of_lt (Nat.lt_of_lt_of_le E164.lt le_a)
    have ne_b287_b144 : b287 ≠ b144 := Ne.symm ne_b144_b287
    have ne_t162_b287 : t162 ≠ b287 := Nat.ne_of_lt (Nat.lt_of_lt_of_le V167.lt le_a)
    have ne_b287_t162 : b287 ≠ t162 := Ne.symm ne_t162_b287
    have ne_b170_b287 : b170 ≠ b287 := Nat.ne_of_lt (Nat.lt_of_lt_of_le E190.lt le_a)
    have ne_b287_b170 : b287 ≠ b170 := Ne.symm ne_b170_b287
    have ne_t188_b287 : t188 ≠ b287 := Nat.ne_of_lt (Nat.lt_of_lt_of_le V193.lt le_a)
    have ne_b287_t188 : b287 ≠ t188 := Ne.symm ne_t188_b287
    have ne_b277_b287 : b277 ≠ b287 := Nat.ne_of_lt (Nat.lt_of_lt_of_le Str283.lt le_a)
    have ne_b287_b277 : b287 ≠ b277 := Ne.symm ne_b277_b287
    have ne_t282_b287 : t282 ≠ b287 := Nat.ne_of_lt (Nat.lt_of_lt_of_le Str283.lt2 le_a)
    have ne_b287_t282 : b287 ≠ t282 := Ne.symm ne_t282_b287
    have sz_b287 : h0.size ≤ b287 := Nat.le_trans sz_h le_a
    have ge_b287 : n0 ≤ b287 := Nat.le_trans Z0 sz_b287
    clear le_a ga
    replace P0_Old := P0_Old.ext E288
    replace E164 := E164.ext E288
    replace Sf_b144 := Safe.ext E288 C.1 Sf_b144
    replace F165 := F165.ext E288
    replace F166 := F166.ext E288
    replace V167 := V167.ext E288
    replace E190 := E190.ext E288
    replace Sf_b170 := Safe.ext E288 C.1 Sf_b170
    replace F191 := F191.ext E288
    replace F192 := F192.ext E288
    replace V193 := V193.ext E288
    replace Sf_b277 := Safe.ext E288 C.1 Sf_b277
    replace Str283 := Str283.ext E288
    replace K0 := K0.ext E288
    replace C := C.trans (CHr.ext E288 C.1)
    replace hk := Nat.le_trans hk E288.1
    replace sz_h : h0.size ≤ h286.size := Nat.le_trans sz_h E288.1
    have F_table_b287 : Fld Z h286 b287 "com/example/sessionsmith/sessionsmith/SchemaProblem" "table" "Ljava/lang/String;" .null := D290 (Or.inr (own_w57 hw)) (ty := (.object "java/lang/String")) own_pf3
    have F_column_b287 : Fld Z h286 b287 "com/example/sessionsmith/sessionsmith/SchemaProblem" "column" "Ljava/lang/String;" .null := D290 (Or.inr (own_w59 hw)) (ty := (.object "java/lang/String")) own_pf3
    clear D290
    refine gdup X hx 283 (hb hby at_282) rfl rfl ?_
    refine gaload (v := (.ref b144)) X hx 285 (hb hby at_283) rfl rfl rfl ?_
    refine gaload (v := (.ref b170)) X hx 287 (hb hby at_285) rfl rfl rfl ?_
    refine gspecialS (y := (⟨"com/example/sessionsmith/sessionsmith/SchemaProblem", "<init>", "(Ljava/lang/String;Ljava/lang/String;)V"⟩ : MethodName)) (a := b287) (argsL := [(.ref b144), (.ref b170)]) (st := [(.ref b287)]) X hx hZ hown rfl (own_w40 hw) (own_w41 hw) (own_w42 hw) (by decide) hS hk (payS (W := 1) (rmSP1 l Z a0 hw (b287) (b144) (b170) h286 n0 (Nat.le_trans Z0 sz_h) ge_b287 A289 F_table_b287 F_column_b287) hZ (own_w42 hw) (own_w39 hw) (by decide) (by decide) (own_EW hw) C.1 all0) eT (by rw [hml]; rfl) (lenOf own_pd23 rfl) rfl (Nat.le_of_eq rfl) 13 129 rfl rfl (by decide) (by decide) 290 (hb hby at_287) rfl ?_
    have lt_b144 := E164.lt
    have lt_b170 := E190.lt
    have lt_b277 := Str283.lt
    clear X eT hS hk hZ hown; clear T k0; intro v T h291 L2 Lc vm k0 X eT hL hS hk hZ hown CR294 hQ292
    obtain ⟨rfl, Nq, K293, G295, G296⟩ := hQ292
    replace N : Fr n0 L2 := by rw [hL]; exact Fr.app N Nq
    clear Nq hL
    replace P0_Old := P0_Old.keep K293 (allS ge_b287 all0)
    replace E164 := E164.keep K293
    replace Sf_b144 := CHr.safe CR294 lt_b144 Sf_b144
    replace F165 := F165.keep K293 (ninS ne_b144_b287 nin0)
    replace F166 := F166.keep K293 (ninS ne_b144_b287 nin0)
    replace V167 := V167.keep K293 (ninS ne_t162_b287 nin0)
    replace E190 := E190.keep K293
    replace Sf_b170 := CHr.safe CR294 lt_b170 Sf_b170
    replace F191 := F191.keep K293 (ninS ne_b170_b287 nin0)
    replace F192 := F192.keep K293 (ninS ne_b170_b287 nin0)
    replace V193 := V193.keep K293 (ninS ne_t188_b287 nin0)
    replace Sf_b277 := CHr.safe CR294 lt_b277 Sf_b277
    replace Str283 := Str283.keep K293 (ninS ne_b277_b287 nin0) (ninS ne_t282_b287 nin0)
    replace A289 := A289.keep K293
    replace K0 := K0.trans K293 (allS (Or.inr sz_b287) all0)
    replace C := C.trans CR294
    replace sz_h : h0.size ≤ h291.size := Nat.le_trans sz_h K293.1
    show Go p e below _ T (mkF m 290 #[.val (.int p0), .val (.int p1), .val (.int p2), .val (.int p3), .val (.int p4), .val (.int (p0 &&& (255 : Int32))), .val (.int (p1 &&& (255 : Int32))), .val (.int (p2 &&& (255 : Int32))), .val (.int (p3 &&& (255 : Int32))), .val (.int 1), .val (.ref b144), .val (.ref b170), .val (.ref b196), .val (.ref b217), .val (.ref b277), .unset] [(.ref b287)])
    refine gvirtualS (y := (⟨"com/example/sessionsmith/sessionsmith/SchemaProblem", "toString", "()Ljava/lang/String;"⟩ : MethodName)) (z := (⟨"com/example/sessionsmith/sessionsmith/SchemaProblem", "toString", "()Ljava/lang/String;"⟩ : MethodName)) (a := b287) (argsL := []) (st := []) X hx hZ hown (own_w60 hw) (own_w61 hw) (notFace_of_selects (args := #[]) (mvT hZ (own_w63 hw))) (own_w63 hw) (own_w62 hw) (by decide) A289 hS hk (payS (W := 0) (rmPS1 l Z a0 hw (b287) (b144) (t162) (kb163) ((p0 &&& (255 : Int32)).toInt8.toInt32) ((p1 &&& (255 : Int32)).toInt8.toInt32) (b170) (t188) (kb189) ((p2 &&& (255 : Int32)).toInt8.toInt32) ((p3 &&& (255 : Int32)).toInt8.toInt32) (G1) h291 n0 (Nat.le_trans Z0 sz_h) P0_Old A289 G295 G296 E164 F165 F166 V167 E190 F191 F192 V193 (O2) (P5)) hZ (own_w64 hw) (own_w39 hw) (by decide) (by decide) (own_EW hw) C.1 all0) eT (by rw [hml]; rfl) (lenOf own_pd20 rfl) rfl (Nat.le_of_eq rfl) 24 343 rfl rfl (by decide) (by decide) 293 (hb hby at_290) rfl ?_
    have lt_b144 := E164.lt
    have lt_b170 := E190.lt
    have lt_b277 := Str283.lt
    clear X eT hS hk hZ hown; clear T k0; intro v T h297 L2 Lc vm k0 X eT hL hS hk hZ hown CR303 hQ298
    obtain ⟨xr_299, tr_300, kr_301, rfl, Nq, K302, zz_xr_299, zz_tr_300, G304, G305, G306, G307⟩ := hQ298
    replace N : Fr n0 L2 := by rw [hL]; exact Fr.app N Nq
    clear Nq hL
    have ne_b144_xr_299 : b144 ≠ xr_299 := Nat.ne_of_lt (Nat.lt_of_lt_of_le E164.lt zz_xr_299)
    have ne_xr_299_b144 : xr_299 ≠ b144 := Ne.symm ne_b144_xr_299
    have ne_t162_xr_299 : t162 ≠ xr_299 := Nat.ne_of_lt (Nat.lt_of_lt_of_le V167.lt zz_xr_299)
    have ne_xr_299_t162 : xr_299 ≠ t162 := Ne.symm ne_t162_xr_299
    have ne_b170_xr_299 : b170 ≠ xr_299 := Nat.ne_of_lt (Nat.lt_of_lt_of_le E190.lt zz_xr_299)
    have ne_xr_299_b170 : xr_299 ≠ b170 := Ne.symm ne_b170_xr_299
    have ne_t188_xr_299 : t188 ≠ xr_299 := Nat.ne_of_lt (Nat.lt_of_lt_of_le V193.lt zz_xr_299)
    have ne_xr_299_t188 : xr_299 ≠ t188 := Ne.symm ne_t188_xr_299
    have ne_b277_xr_299 : b277 ≠ xr_299 := Nat.ne_of_lt (Nat.lt_of_lt_of_le Str283.lt zz_xr_299)
    have ne_xr_299_b277 : xr_299 ≠ b277 := Ne.symm ne_b277_xr_299
    have ne_b287_xr_299 : b287 ≠ xr_299 := Nat.ne_of_lt (Nat.lt_of_lt_of_le A289.lt zz_xr_299)
    have ne_xr_299_b287 : xr_299 ≠ b287 := Ne.symm ne_b287_xr_299
    have ne_t282_xr_299 : t282 ≠ xr_299 := Nat.ne_of_lt (Nat.lt_of_lt_of_le Str283.lt2 zz_xr_299)
    have ne_xr_299_t282 : xr_299 ≠ t282 := Ne.symm ne_t282_xr_299
    have sz_xr_299 : h0.size ≤ xr_299 := Nat.le_trans sz_h zz_xr_299
    have ge_xr_299 : n0 ≤ xr_299 := Nat.le_trans Z0 sz_xr_299
    have ne_b144_tr_300 : b144 ≠ tr_300 := Nat.ne_of_lt (Nat.lt_of_lt_of_le E164.lt zz_tr_300)
    have ne_tr_300_b144 : tr_300 ≠ b144 := Ne.symm ne_b144_tr_300
    have ne_t162_tr_300 : t162 ≠ tr_300 := Nat.ne_of_lt (Nat.lt_of_lt_of_le V167.lt zz_tr_300)
    have ne_tr_300_t162 : tr_300 ≠ t162 := Ne.symm ne_t162_tr_300
    have ne_b170_tr_300 : b170 ≠ tr_300 := Nat.ne_of_lt (Nat.lt_of_lt_of_le E190.lt zz_tr_300)
    have ne_tr_300_b170 : tr_300 ≠ b170 := Ne.symm ne_b170_tr_300
    have ne_t188_tr_300 : t188 ≠ tr_300 := Nat.ne_of_lt (Nat.lt_of_lt_of_le V193.lt zz_tr_300)
    have ne_tr_300_t188 : tr_300 ≠ t188 := Ne.symm ne_t188_tr_300
    have ne_b277_tr_300 : b277 ≠ tr_300 := Nat.ne_of_lt (Nat.lt_of_lt_of_le Str283.lt zz_tr_300)
    have ne_tr_300_b277 : tr_300 ≠ b277 := Ne.symm ne_b277_tr_300
    have ne_b287_tr_300 : b287 ≠ tr_300 := Nat.ne_of_lt (Nat.lt_of_lt_of_le A289.lt zz_tr_300)
    have ne_tr_300_b287 : tr_300 ≠ b287 := Ne.symm ne_b287_tr_300
    have ne_t282_tr_300 : t282 ≠ tr_300 := Nat.ne_of_lt (Nat.lt_of_lt_of_le Str283.lt2 zz_tr_300)
    have ne_tr_300_t282 : tr_300 ≠ t282 := Ne.symm ne_t282_tr_300
    have sz_tr_300 : h0.size ≤ tr_300 := Nat.le_trans sz_h zz_tr_300
    have ge_tr_300 : n0 ≤ tr_300 := Nat.le_trans Z0 sz_tr_300
    replace P0_Old := P0_Old.keep K302 all0
    replace E164 := E164.keep K302
    replace Sf_b144 := CHr.safe CR303 lt_b144 Sf_b144
    replace F165 := F165.keep K302 nin0
    replace F166 := F166.keep K302 nin0
    replace V167 := V167.keep K302 nin0
    replace E190 := E190.keep K302
    replace Sf_b170 := CHr.safe CR303 lt_b170 Sf_b170
    replace F191 := F191.keep K302 nin0
    replace F192 := F192.keep K302 nin0
    replace V193 := V193.keep K302 nin0
    replace Sf_b277 := CHr.safe CR303 lt_b277 Sf_b277
    replace Str283 := Str283.keep K302 nin0 nin0
    replace A289 := A289.keep K302
    replace G295 := G295.keep K302 nin0
    replace G296 := G296.keep K302 nin0
    replace K0 := K0.trans K302 all0
    replace C := C.trans CR303
    replace sz_h : h0.size ≤ h297.size := Nat.le_trans sz_h K302.1
    show Go p e below _ T (mkF m 293 #[.val (.int p0), .val (.int p1), .val (.int p2), .val (.int p3), .val (.int p4), .val (.int (p0 &&& (255 : Int32))), .val (.int (p1 &&& (255 : Int32))), .val (.int (p2 &&& (255 : Int32))), .val (.int (p3 &&& (255 : Int32))), .val (.int 1), .val (.ref b144), .val (.ref b170), .val (.ref b196), .val (.ref b217), .val (.ref b277), .unset] [(.ref xr_299)])
    refine gastore X hx #[.val (.int p0), .val (.int p1), .val (.int p2), .val (.int p3), .val (.int p4), .val (.int (p0 &&& (255 : Int32))), .val (.int (p1 &&& (255 : Int32))), .val (.int (p2 &&& (255 : Int32))), .val (.int (p3 &&& (255 : Int32))), .val (.int 1), .val (.ref b144), .val (.ref b170), .val (.ref b196), .val (.ref b217), .val (.ref b277), .val (.ref xr_299)] 295 (hb hby at_293) rfl rfl rfl ?_
    refine gaload (v := (.ref xr_299)) X hx 297 (hb hby at_295) rfl rfl rfl ?_
    refine gaload (v := (.ref b277)) X hx 299 (hb hby at_297) rfl rfl rfl ?_
    have Str308 : Str Z h297 xr_299 tr_300 ([(99 : Int32), (111 : Int32), (108 : Int32), (117 : Int32), (109 : Int32), (110 : Int32), (32 : Int32), (p2 &&& (255 : Int32)), (p3 &&& (255 : Int32)), (32 : Int32), (111 : Int32), (102 : Int32), (32 : Int32), (116 : Int32), (97 : Int32), (98 : Int32), (108 : Int32), (101 : Int32), (32 : Int32), (p0 &&& (255 : Int32)), (p1 &&& (255 : Int32)), (32 : Int32), (105 : Int32), (115 : Int32), (32 : Int32), (109 : Int32), (105 : Int32), (115 : Int32), (115 : Int32), (105 : Int32), (110 : Int32), (103 : Int32)] : List Int32) := Str.of G304 G305 G306 G307 rfl rfl (own_cS (by decide) (own_cS (by decide) (own_cS (by decide) (own_cS (by decide) (own_cS (by decide) (own_cS (by decide) (own_cS (by decide) (own_cS (own_rng _) (own_cS (own_rng _) (own_cS (by decide) (own_cS (by decide) (own_cS (by decide) (own_cS (by decide) (own_cS (by decide) (own_cS (by decide) (own_cS (by decide) (own_cS (by decide) (own_cS (by decide) (own_cS (by decide) (own_cS (own_rng _) (own_cS (own_rng _) (own_cS (by decide) (own_cS (by decide) (own_cS (by decide) (own_cS (by decide) (own_cS (by decide) (own_cS (by decide) (own_cS (by decide) (own_cS (by decide) (own_cS (by decide) (own_cS (by decide) (own_cS (by decide) own_c0)))))))))))))))))))))))))))))))) (Nat.le_of_ble_eq_true rfl)
    refine gvirtual (y := (⟨"java/lang/String", "equals", "(Ljava/lang/Object;)Z"⟩ : MethodName)) (z := (⟨"java/lang/String", "equals", "(Ljava/lang/Object;)Z"⟩ : MethodName)) (a := xr_299) (argsL := [(.ref b277)]) (st := []) X hx hZ hown (own_w194 hw) (own_w195 hw) (notFace_of_selects (args := #[]) (mvT hZ (own_w197 hw))) (own_w197 hw) (own_w196 hw) (by decide) Str308.exa (payEq (W := 0) hZ hw Str308 Str283 (O2.ext P0_Old.2) P5 (by decide) (by decide)) eT (by rw [hml]; rfl) (lenOf own_pd24 rfl) rfl (Nat.le_of_eq rfl) 24 343 rfl rfl (by decide) (by decide) 302 (hb hby at_299) rfl ?_
    clear X eT; clear T; intro v T h309 L2 Lc X eT hL hQ310
    obtain ⟨rfl, rfl, hh⟩ := hQ310
    replace hh := hh.symm; subst hh
    replace N : Fr n0 L2 := by rw [hL]; exact Fr.app N (Fr.nil n0)
    clear hL
    show Go p e below _ T (mkF m 302 #[.val (.int p0), .val (.int p1), .val (.int p2), .val (.int p3), .val (.int p4), .val (.int (p0 &&& (255 : Int32))), .val (.int (p1 &&& (255 : Int32))), .val (.int (p2 &&& (255 : Int32))), .val (.int (p3 &&& (255 : Int32))), .val (.int 1), .val (.ref b144), .val (.ref b170), .val (.ref b196), .val (.ref b217), .val (.ref b277), .val (.ref xr_299)] [(.int (if ([(99 : Int32), (111 : Int32), (108 : Int32), (117 : Int32), (109 : Int32), (110 : Int32), (32 : Int32), (p2 &&& (255 : Int32)), (p3 &&& (255 : Int32)), (32 : Int32), (111 : Int32), (102 : Int32), (32 : Int32), (116 : Int32), (97 : Int32), (98 : Int32), (108 : Int32), (101 : Int32), (32 : Int32), (p0 &&& (255 : Int32)), (p1 &&& (255 : Int32)), (32 : Int32), (105 : Int32), (115 : Int32), (32 : Int32), (109 : Int32), (105 : Int32), (115 : Int32), (115 : Int32), (105 : Int32), (110 : Int32), (103 : Int32)] : List Int32) = ([(99 : Int32), (111 : Int32), (108 : Int32), (117 : Int32), (109 : Int32), (110 : Int32), (32 : Int32), (p2 &&& (255 : Int32)), (p3 &&& (255 : Int32)), (32 : Int32), (111 : Int32), (102 : Int32), (32 : Int32), (116 : Int32), (97 : Int32), (98 : Int32), (108 : Int32), (101 : Int32), (32 : Int32), (p0 &&& (255 : Int32)), (p1 &&& (255 : Int32)), (32 : Int32), (105 : Int32), (115 : Int32), (32 : Int32), (109 : Int32), (105 : Int32), (115 : Int32), (115 : Int32), (105 : Int32), (110 : Int32), (103 : Int32)] : List Int32) then 1 else 0))])
    rw [if_pos rfl]
    show Go p e below _ T (mkF m 302 #[.val (.int p0), .val (.int p1), .val (.int p2), .val (.int p3), .val (.int p4), .val (.int (p0 &&& (255 : Int32))), .val (.int (p1 &&& (255 : Int32))), .val (.int (p2 &&& (255 : Int32))), .val (.int (p3 &&& (255 : Int32))), .val (.int 1), .val (.ref b144), .val (.ref b170), .val (.ref b196), .val (.ref b217), .val (.ref b277), .val (.ref xr_299)] [(.int 1)])
    exact gRetL X hx hlk hret rfl (Or.inl ⟨rfl, by simp, _, rfl⟩) (hb hby at_302) eT hS hk (by decide) (by decide) ⟨rfl, N, K0⟩
set_option maxRecDepth 65536 in
set_option maxHeartbeats 40000000 in
theorem comes_1 {Post : Tables → Env → Array Value → State → Outcome → State → Prop} (hpost : ∀ tb e args s v u, (limb_1_1.after args s (.returned v) u = true ∧ limb_1_2.after args s (.returned v) u = true ∧ True) → FramedW s (.returned v) u (Jvm.fieldLocs frame_1_writes args s ++ Jvm.arrayLocs frame_1_arrays args s ++ Jvm.staticLocs frame_1_statics s) 56 5632 → Post tb e args s (.returned v) u) :
    ArmFor flags0 classFile x code maxLocals ret World_1 tables_1 room_1 Calls_1 rest_1 Pre_1 Post := by
  intro l hfl _ _ p e ha hc hk s m args below hf hA hF happ hP
  obtain ⟨hcalls, hrest, hpre⟩ := hP
  obtain ⟨-, -, -, hnamed, -, -, -, hat⟩ := (Spec.applies_iff hf).mp happ
  obtain ⟨hg, hn⟩ := and_e (Cond.before_iff.mp (show (Jvm.Cond.and given_1 narrow_1).before args s = true from hpre))
  obtain ⟨h1, g0⟩ := and_e hg
  obtain ⟨k0, g1⟩ := and_e g0
  obtain ⟨k1, g2⟩ := and_e g1
  obtain ⟨k2, g3⟩ := and_e g2
  obtain ⟨k3, g4⟩ := and_e g3
  obtain ⟨w0, w1, w2, w3, w4, rfl⟩ : ∃ w0 w1 w2 w3 w4 : Value, args = #[w0, w1, w2, w3, w4] := by
    have hs : args.size = 5 := by simpa [Cond.value, given_1] using h1
    obtain ⟨L⟩ := args
    match L, hs with
    | [w0, w1, w2, w3, w4], _ => exact ⟨w0, w1, w2, w3, w4, rfl⟩
  have hw := fun d (hd : d ∈ tables_1) => atoms_spec (ws := Jvm.Cond.code x code maxLocals ret :: tables_1) hat d (List.mem_cons_of_mem _ hd)
  obtain ⟨hsets, hown0⟩ := atoms_of _ (rest_1_c_eq ▸ (show rest_1_c.before _ s = true from hrest))
  obtain ⟨i0, e0⟩ := is_v k0
  obtain rfl : w0 = (.int i0) := Option.some.inj e0
  obtain ⟨i1, e1⟩ := is_v k1
  obtain rfl : w1 = (.int i1) := Option.some.inj e1
  obtain ⟨i2, e2⟩ := is_v k2
  obtain rfl : w2 = (.int i2) := Option.some.inj e2
  obtain ⟨i3, e3⟩ := is_v k3
  obtain rfl : w3 = (.int i3) := Option.some.inj e3
  obtain ⟨i4, e4⟩ := is_v g4
  obtain rfl : w4 = (.int i4) := Option.some.inj e4
  have n3 := not_v (Cond.before_iff.mp (hsets _ (List.mem_of_getElem? (i := 2) rfl)))
  obtain ⟨j7, f6⟩ := is_v (Cond.before_iff.mp (hsets _ (List.mem_of_getElem? (i := 1) rfl)))
  have S8 : Sta s s.heap "java/lang/String" "COMPACT_STRINGS" "Z" (.int j7) := Sta.start f6 (Or.inl (hsets _ (List.mem_of_getElem? (i := 0) rfl)))
  have c13 : ¬ (j7 = (0 : Int32)) := gotF (Cond.eq_ints f6 (Term.int_eval (0))) n3
  obtain ⟨n, o, h1, h2, h3, _, L, rfl, ⟨rfl, N, -⟩, hq⟩ := rm0 l s _ hw i0 i1 i2 i3 i4 j7 s.heap s.heap.size (Nat.le_refl _) (Old.start s) S8 c13 p e ha hc hk s m _ below hf ((Spec.applies_iff_loose hf).mp happ).1 ⟨rfl, State.Warmed39.refl s, rfl, CHv.start (own_EW hw) (fun p hp => hcalls.1 p hp) (hsets _ (List.mem_of_getElem? (i := 2) rfl)) (own_w19 hw) (own_w1 hw)⟩ trivial
  refine ⟨n, _, h1, h2, h3, hpost _ _ _ _ _ _ ⟨Cond.after_iff.mpr rfl, Cond.after_iff.mpr (eq_i res_at (Term.int_eval (1)) rfl), trivial⟩ ⟨hq.1, hq.2.1, hq.2.2.1, (hq.2.2.2.sift fun y hy => Or.inr (N y hy)).mono (by decide) (by decide)⟩⟩
theorem main_1_1 : Claimed_1_1 := comes_1 fun _ _ _ _ _ _ h hF => ⟨h.1, hF⟩
theorem main_1_2 : Claimed_1_2 := comes_1 fun _ _ _ _ _ _ h hF => ⟨h.2.1, hF⟩
end Jvm.Pilot.@@N@@
namespace Jvm.Pilot.@@N@@
open Jvm Jvm.ClassFile Sem Op Lib Jvm.Free Jvm.Stand Jvm.Pilot.@@N@@.Jvm.D
/-! MADE BY PROGRAM (witnessworld.py) out of the Statement's table words and the real class files: 28 classes; the members and pool entries that the words name. The judged class is class 1, her method 3. -/
namespace start1
open Jvm.ClassFile
def u (s : String) : CpInfo := .utf8 (stringToUtf16 s)
/-- a pool by its gaps: so many unusable entries, then the entry; so many at the end -/
def gap : Nat → List CpInfo → List CpInfo
  | 0, r => r
  | n + 1, r => .unusable :: gap n r
def poolList (es : List (Nat × CpInfo)) (last : Nat) : List CpInfo := es.foldr (fun e r => gap e.1 (e.2 :: r)) (gap last [])
def pool (es : List (Nat × CpInfo)) (last : Nat) : Array CpInfo := ⟨poolList es last⟩
def fileOf (pool : Array CpInfo) (this : Nat) (attrs : Array Attribute := #[]) (ms : Array MethodInfo := #[]) (fl : Nat := 33) (sup : Nat := 0) (ifs : Array Nat := #[]) (fds : Array FieldInfo := #[]) : ClassFile where
  minorVersion := 0
  majorVersion := 65
  constantPool := pool
  accessFlags := fl
  thisClass := this
  superClass := sup
  interfaces := ifs
  fields := fds
  methods := ms
  attributes := attrs
def plain (name : String) (sup : Option ClassId) : Class where
  name := name
  kind := .ordinary
  loader := none
  accessFlags := 33
  super := sup
  interfaces := #[]
  cf := none
  fields := #[]
  methods := #[]
  instanceTypes := #[]
  staticTypes := #[]
  resolved := #[]
  callSites := []
  init := .initialized
  statics := none
  mirror := none

def pool0 : Array CpInfo := pool [(5, u "<init>"), (0, u "()V"), (1, .class_ 10), (1, u "java/lang/Object")] 113

def k0c0 : Code := { maxStack := 0, maxLocals := 1, code := object_method_1_code, exceptionTable := #[], attributes := #[] }
def k0m0 : Method := { name := "<init>", desc := "()V", sig := { parameters := [], returnType := none }, accessFlags := 1, code := some k0c0 }
/-- java/lang/Object -/
def k0 : Class := { plain "java/lang/Object" none with
  accessFlags := 33
  interfaces := #[]
  cf := some (fileOf pool0 8 #[] #[{ accessFlags := 1, nameIndex := 5, descriptorIndex := 6, attributes := #[] }] 33 0 #[] #[])
  fields := #[]
  methods := #[k0m0]
  instanceTypes := #[]
  staticTypes := #[]
  resolved := Array.replicate 124 none
  statics := none }

def pool1 : Array CpInfo := pool [(2, .class_ 4), (1, u "java/lang/Object"), (0, u "<init>"), (0, u "()V"), (0, .class_ 8), (0, u "java/lang/String"), (0, .methodref 7 10), (0, .nameAndType 5 11), (0, u "([C)V"), (0, .methodref 13 14), (0, .class_ 15), (0, .nameAndType 16 17), (0, u "com/example/sessionsmith/sessionsmith/SchemaProblemToStringPinLaw"), (0, u "putTableWord"), (0, u "([CI)V"), (0, .methodref 13 19), (0, .nameAndType 20 17), (0, u "putIsMissing"), (0, .class_ 22), (0, u "com/example/sessionsmith/sessionsmith/SchemaProblem"), (0, .methodref 21 24), (0, .nameAndType 5 25), (0, u "(Ljava/lang/String;Ljava/lang/String;)V"), (0, .methodref 21 27), (0, .nameAndType 28 29), (0, u "toString"), (0, u "()Ljava/lang/String;"), (0, .methodref 7 31), (0, .nameAndType 32 33), (0, u "equals"), (0, u "(Ljava/lang/Object;)Z"), (2, u "law"), (0, u "(IIIII)Z")] 5

def k1m0 : Method := { name := "<init>", desc := "()V", sig := { parameters := [], returnType := none }, accessFlags := 1, code := none }
def k1c1 : Code := { maxStack := 3, maxLocals := 2, code := method_2_code, exceptionTable := #[], attributes := #[] }
def k1m1 : Method := { name := "putIsMissing", desc := "([CI)V", sig := { parameters := [(.array .char), .int], returnType := none }, accessFlags := 10, code := some k1c1 }
def k1c2 : Code := { maxStack := 3, maxLocals := 2, code := method_3_code, exceptionTable := #[], attributes := #[] }
def k1m2 : Method := { name := "putTableWord", desc := "([CI)V", sig := { parameters := [(.array .char), .int], returnType := none }, accessFlags := 10, code := some k1c2 }
def k1c3 : Code := { maxStack := 6, maxLocals := 16, code := code, exceptionTable := #[], attributes := #[] }
def k1m3 : Method := { name := "law", desc := "(IIIII)Z", sig := { parameters := [.int, .int, .int, .int, .int], returnType := some .boolean }, accessFlags := 9, code := some k1c3 }
/-- com/example/sessionsmith/sessionsmith/SchemaProblemToStringPinLaw -/
def k1 : Class := { plain "com/example/sessionsmith/sessionsmith/SchemaProblemToStringPinLaw" (some 0) with
  accessFlags := 49
  interfaces := #[]
  cf := some (fileOf pool1 13 #[] #[{ accessFlags := 1, nameIndex := 5, descriptorIndex := 6, attributes := #[] }, { accessFlags := 10, nameIndex := 20, descriptorIndex := 17, attributes := #[] }, { accessFlags := 10, nameIndex := 16, descriptorIndex := 17, attributes := #[] }, { accessFlags := 9, nameIndex := 36, descriptorIndex := 37, attributes := #[] }] 49 2 #[] #[])
  fields := #[]
  methods := #[k1m0, k1m1, k1m2, k1m3]
  instanceTypes := #[]
  staticTypes := #[]
  resolved := Array.replicate 43 none
  statics := none }

def pool2 : Array CpInfo := pool [(1, .class_ 2), (0, u "java/io/Serializable"), (0, .class_ 4), (0, u "java/lang/Object")] 2

/-- java/io/Serializable -/
def k2 : Class := { plain "java/io/Serializable" (some 0) with
  accessFlags := 1537
  interfaces := #[]
  cf := some (fileOf pool2 1 #[] #[] 1537 3 #[] #[])
  fields := #[]
  methods := #[]
  instanceTypes := #[]
  staticTypes := #[]
  resolved := Array.replicate 7 none
  statics := none }

def pool3 : Array CpInfo := pool [(1, .class_ 2), (0, u "java/lang/Comparable"), (0, .class_ 4), (0, u "java/lang/Object")] 7

/-- java/lang/Comparable -/
def k3 : Class := { plain "java/lang/Comparable" (some 0) with
  accessFlags := 1537
  interfaces := #[]
  cf := some (fileOf pool3 1 #[] #[] 1537 3 #[] #[])
  fields := #[]
  methods := #[]
  instanceTypes := #[]
  staticTypes := #[]
  resolved := Array.replicate 12 none
  statics := none }

def pool4 : Array CpInfo := pool [(2, .class_ 4), (1, u "java/lang/CharSequence"), (42, .class_ 48), (0, u "java/lang/CharSequence$1CodePointIterator"), (10, .class_ 60), (0, u "java/lang/CharSequence$1CharIterator"), (5, .class_ 67), (0, u "java/lang/Object")] 63

/-- java/lang/CharSequence -/
def k4 : Class := { plain "java/lang/CharSequence" (some 0) with
  accessFlags := 1537
  interfaces := #[]
  cf := some (fileOf pool4 2 #[.nestMembers #[47, 59]] #[] 1537 66 #[] #[])
  fields := #[]
  methods := #[]
  instanceTypes := #[]
  staticTypes := #[]
  resolved := Array.replicate 131 none
  statics := none }

def pool5 : Array CpInfo := pool [(1, .class_ 2), (0, u "java/lang/constant/Constable"), (0, .class_ 4), (0, u "java/lang/Object")] 6

/-- java/lang/constant/Constable -/
def k5 : Class := { plain "java/lang/constant/Constable" (some 0) with
  accessFlags := 1537
  interfaces := #[]
  cf := some (fileOf pool5 1 #[] #[] 1537 3 #[] #[])
  fields := #[]
  methods := #[]
  instanceTypes := #[]
  staticTypes := #[]
  resolved := Array.replicate 11 none
  statics := none }

def pool6 : Array CpInfo := pool [(1, .class_ 2), (0, u "java/lang/constant/ConstantDesc"), (0, .class_ 4), (0, u "java/lang/Object")] 32

/-- java/lang/constant/ConstantDesc -/
def k6 : Class := { plain "java/lang/constant/ConstantDesc" (some 0) with
  accessFlags := 1537
  interfaces := #[]
  cf := some (fileOf pool6 1 #[] #[] 1537 3 #[] #[])
  fields := #[]
  methods := #[]
  instanceTypes := #[]
  staticTypes := #[]
  resolved := Array.replicate 37 none
  statics := none }

def pool7 : Array CpInfo := pool [(1, .methodref 2 3), (0, .class_ 4), (0, .nameAndType 5 6), (0, u "java/lang/Object"), (0, u "<init>"), (0, u "()V"), (2, .fieldref 10 11), (0, .class_ 12), (0, .nameAndType 13 14), (0, u "java/lang/String"), (0, u "value"), (0, u "[B"), (0, .fieldref 10 16), (0, .nameAndType 17 18), (0, u "coder"), (0, u "B"), (2, u "hash"), (0, u "I"), (2, u "hashIsZero"), (0, u "Z"), (0, .methodref 10 28), (0, .nameAndType 5 29), (0, u "([CIILjava/lang/Void;)V"), (8, .fieldref 10 39), (0, .nameAndType 40 26), (0, u "COMPACT_STRINGS"), (1, .class_ 44), (1, u "java/lang/StringUTF16"), (0, u "compress"), (1, .methodref 42 48), (0, .nameAndType 49 50), (0, u "coderFromArrayLen"), (0, u "([BI)B"), (3, .methodref 55 56), (0, .class_ 57), (0, .nameAndType 58 59), (0, u "java/util/Arrays"), (0, u "copyOfRange"), (0, u "([BII)[B"), (47, .class_ 109), (1, u "java/lang/StringLatin1"), (32, u "()Z"), (34, .methodref 42 178), (0, .nameAndType 45 179), (0, u "([CII)[B"), (13, .class_ 195), (1, u "java/lang/System"), (16, .methodref 193 213), (0, .nameAndType 214 215), (0, u "arraycopy"), (0, u "(Ljava/lang/Object;ILjava/lang/Object;II)V"), (118, u "()I"), (0, .methodref 10 336), (0, .nameAndType 17 337), (0, u "()B"), (2, u "()[B"), (148, .methodref 10 490), (0, .nameAndType 5 491), (0, u "(Ljava/lang/AbstractStringBuilder;Ljava/lang/Void;)V"), (1, .nameAndType 494 142), (0, u "isLatin1"), (11, .nameAndType 507 334), (0, u "length"), (24, u "getBytes"), (8, .methodref 107 542), (0, .nameAndType 543 544), (0, u "equals"), (0, u "([B[B)Z"), (4, .methodref 550 506), (0, .class_ 551), (0, u "java/lang/AbstractStringBuilder"), (0, .methodref 550 553), (0, .nameAndType 554 340), (0, u "getValue"), (18, u "(Ljava/lang/Object;)Z"), (1, .class_ 576), (0, u "java/lang/CharSequence"), (22, u "CASE_INSENSITIVE_ORDER"), (0, u "Ljava/util/Comparator;"), (220, u "([BIB)V"), (188, u "([C)V"), (36, .methodref 550 493), (53, u "serialPersistentFields"), (0, u "[Ljava/io/ObjectStreamField;"), (0, .class_ 1104), (0, u "java/lang/String$CaseInsensitiveComparator"), (1, .class_ 1107), (0, u "java/io/Serializable"), (0, .class_ 1109), (0, u "java/lang/Comparable"), (0, .class_ 1111), (0, u "java/lang/constant/Constable"), (0, .class_ 1113), (0, u "java/lang/constant/ConstantDesc"), (2, u "serialVersionUID"), (0, u "J"), (3, u "REPL"), (0, u "C"), (2, u "LATIN1"), (1, u "UTF16"), (105, u "(Ljava/lang/StringBuilder;)V")] 217

def k7m0 : Method := { name := "<init>", desc := "()V", sig := { parameters := [], returnType := none }, accessFlags := 1, code := none }
def k7c1 : Code := { maxStack := 5, maxLocals := 2, code := jdk_42_method_3_code, exceptionTable := #[], attributes := #[] }
def k7m1 : Method := { name := "<init>", desc := "([C)V", sig := { parameters := [(.array .char)], returnType := none }, accessFlags := 1, code := some k7c1 }
def k7c2 : Code := { maxStack := 3, maxLocals := 2, code := jdk_42_method_53_code, exceptionTable := #[], attributes := #[] }
def k7m2 : Method := { name := "<init>", desc := "(Ljava/lang/StringBuilder;)V", sig := { parameters := [(.object "java/lang/StringBuilder")], returnType := none }, accessFlags := 1, code := some k7c2 }
def k7c3 : Code := { maxStack := 2, maxLocals := 1, code := jdk_42_method_54_code, exceptionTable := #[], attributes := #[] }
def k7m3 : Method := { name := "length", desc := "()I", sig := { parameters := [], returnType := some .int }, accessFlags := 1, code := some k7c3 }
def k7c4 : Code := { maxStack := 2, maxLocals := 3, code := jdk_42_method_66_code, exceptionTable := #[], attributes := #[] }
def k7m4 : Method := { name := "equals", desc := "(Ljava/lang/Object;)Z", sig := { parameters := [(.object "java/lang/Object")], returnType := some .boolean }, accessFlags := 1, code := some k7c4 }
def k7c5 : Code := { maxStack := 5, maxLocals := 4, code := jdk_42_method_147_code, exceptionTable := #[], attributes := #[] }
def k7m5 : Method := { name := "getBytes", desc := "([BIB)V", sig := { parameters := [(.array .byte), .int, .byte], returnType := none }, accessFlags := 0, code := some k7c5 }
def k7c6 : Code := { maxStack := 4, maxLocals := 6, code := jdk_42_method_149_code, exceptionTable := #[], attributes := #[] }
def k7m6 : Method := { name := "<init>", desc := "([CIILjava/lang/Void;)V", sig := { parameters := [(.array .char), .int, .int, (.object "java/lang/Void")], returnType := none }, accessFlags := 2, code := some k7c6 }
def k7c7 : Code := { maxStack := 5, maxLocals := 5, code := jdk_42_method_150_code, exceptionTable := #[], attributes := #[] }
def k7m7 : Method := { name := "<init>", desc := "(Ljava/lang/AbstractStringBuilder;Ljava/lang/Void;)V", sig := { parameters := [(.object "java/lang/AbstractStringBuilder"), (.object "java/lang/Void")], returnType := none }, accessFlags := 0, code := some k7c7 }
def k7c8 : Code := { maxStack := 1, maxLocals := 1, code := jdk_42_method_152_code, exceptionTable := #[], attributes := #[] }
def k7m8 : Method := { name := "coder", desc := "()B", sig := { parameters := [], returnType := some .byte }, accessFlags := 0, code := some k7c8 }
/-- java/lang/String -/
def k7 : Class := { plain "java/lang/String" (some 0) with
  accessFlags := 49
  interfaces := #[2, 3, 4, 5, 6]
  cf := some (fileOf pool7 10 #[.nestMembers #[1103]] #[{ accessFlags := 1, nameIndex := 5, descriptorIndex := 6, attributes := #[] }, { accessFlags := 1, nameIndex := 5, descriptorIndex := 1010, attributes := #[] }, { accessFlags := 1, nameIndex := 5, descriptorIndex := 1233, attributes := #[] }, { accessFlags := 1, nameIndex := 507, descriptorIndex := 334, attributes := #[] }, { accessFlags := 1, nameIndex := 543, descriptorIndex := 573, attributes := #[] }, { accessFlags := 0, nameIndex := 532, descriptorIndex := 821, attributes := #[] }, { accessFlags := 2, nameIndex := 5, descriptorIndex := 29, attributes := #[] }, { accessFlags := 0, nameIndex := 5, descriptorIndex := 491, attributes := #[] }, { accessFlags := 0, nameIndex := 17, descriptorIndex := 337, attributes := #[] }] 49 2 #[1106, 1108, 575, 1110, 1112] #[{ accessFlags := 18, nameIndex := 13, descriptorIndex := 14, attributes := #[] }, { accessFlags := 18, nameIndex := 17, descriptorIndex := 18, attributes := #[] }, { accessFlags := 2, nameIndex := 21, descriptorIndex := 22, attributes := #[] }, { accessFlags := 2, nameIndex := 25, descriptorIndex := 26, attributes := #[] }, { accessFlags := 26, nameIndex := 1116, descriptorIndex := 1117, attributes := #[] }, { accessFlags := 24, nameIndex := 40, descriptorIndex := 26, attributes := #[] }, { accessFlags := 26, nameIndex := 1101, descriptorIndex := 1102, attributes := #[] }, { accessFlags := 26, nameIndex := 1121, descriptorIndex := 1122, attributes := #[] }, { accessFlags := 25, nameIndex := 599, descriptorIndex := 600, attributes := #[] }, { accessFlags := 24, nameIndex := 1125, descriptorIndex := 18, attributes := #[] }, { accessFlags := 24, nameIndex := 1127, descriptorIndex := 18, attributes := #[] }])
  fields := #[{ name := "value", type := (.array .byte), accessFlags := 18, slot := 0, constantValue := 0 }, { name := "coder", type := .byte, accessFlags := 18, slot := 1, constantValue := 0 }, { name := "hash", type := .int, accessFlags := 2, slot := 2, constantValue := 0 }, { name := "hashIsZero", type := .boolean, accessFlags := 2, slot := 3, constantValue := 0 }, { name := "serialVersionUID", type := .long, accessFlags := 26, slot := 0, constantValue := 0 }, { name := "COMPACT_STRINGS", type := .boolean, accessFlags := 24, slot := 1, constantValue := 0 }, { name := "serialPersistentFields", type := (.array (.object "java/io/ObjectStreamField")), accessFlags := 26, slot := 2, constantValue := 0 }, { name := "REPL", type := .char, accessFlags := 26, slot := 3, constantValue := 0 }, { name := "CASE_INSENSITIVE_ORDER", type := (.object "java/util/Comparator"), accessFlags := 25, slot := 4, constantValue := 0 }, { name := "LATIN1", type := .byte, accessFlags := 24, slot := 5, constantValue := 0 }, { name := "UTF16", type := .byte, accessFlags := 24, slot := 6, constantValue := 0 }]
  methods := #[k7m0, k7m1, k7m2, k7m3, k7m4, k7m5, k7m6, k7m7, k7m8]
  instanceTypes := #[(.array .byte), .byte, .int, .boolean]
  staticTypes := #[.long, .boolean, (.array (.object "java/io/ObjectStreamField")), .char, (.object "java/util/Comparator"), .byte, .byte]
  resolved := Array.replicate 1451 none
  statics := some 0 }

def pool8 : Array CpInfo := pool [(6, .class_ 8), (1, u "java/lang/Object"), (0, u "<init>"), (0, u "()V"), (1, .class_ 14), (1, u "java/lang/StringUTF16"), (31, u "$assertionsDisabled"), (0, u "Z"), (13, u "HI_BYTE_SHIFT"), (0, u "I"), (2, u "LO_BYTE_SHIFT"), (49, .methodref 12 116), (0, .nameAndType 117 118), (0, u "compress"), (0, u "([CI[BII)I"), (3, u "([CII)[B"), (138, u "coderFromArrayLen"), (0, u "([BI)B"), (106, .class_ 371), (1, u "java/lang/StringUTF16$LinesSpliterator"), (58, u "MAX_LENGTH"), (196, .class_ 628), (0, u "java/lang/StringUTF16$CodePointsSpliterator"), (0, .class_ 630), (0, u "java/lang/StringUTF16$CharsSpliterator")] 4

def k8m0 : Method := { name := "<init>", desc := "()V", sig := { parameters := [], returnType := none }, accessFlags := 0, code := none }
def k8c1 : Code := { maxStack := 2, maxLocals := 2, code := jdk_52_method_15_code, exceptionTable := #[], attributes := #[] }
def k8m1 : Method := { name := "coderFromArrayLen", desc := "([BI)B", sig := { parameters := [(.array .byte), .int], returnType := some .byte }, accessFlags := 8, code := some k8c1 }
def k8c2 : Code := { maxStack := 5, maxLocals := 6, code := jdk_52_method_16_code, exceptionTable := #[], attributes := #[] }
def k8m2 : Method := { name := "compress", desc := "([CII)[B", sig := { parameters := [(.array .char), .int, .int], returnType := some (.array .byte) }, accessFlags := 9, code := some k8c2 }
def k8c3 : Code := { maxStack := 3, maxLocals := 7, code := jdk_52_method_21_code, exceptionTable := #[], attributes := #[] }
def k8m3 : Method := { name := "compress", desc := "([CI[BII)I", sig := { parameters := [(.array .char), .int, (.array .byte), .int, .int], returnType := some .int }, accessFlags := 9, code := some k8c3 }
/-- java/lang/StringUTF16 -/
def k8 : Class := { plain "java/lang/StringUTF16" (some 0) with
  accessFlags := 48
  interfaces := #[]
  cf := some (fileOf pool8 12 #[.nestMembers #[627, 629, 369]] #[{ accessFlags := 0, nameIndex := 9, descriptorIndex := 10, attributes := #[] }, { accessFlags := 8, nameIndex := 261, descriptorIndex := 262, attributes := #[] }, { accessFlags := 9, nameIndex := 117, descriptorIndex := 122, attributes := #[] }, { accessFlags := 9, nameIndex := 117, descriptorIndex := 118, attributes := #[] }] 48 6 #[] #[{ accessFlags := 26, nameIndex := 61, descriptorIndex := 62, attributes := #[] }, { accessFlags := 26, nameIndex := 65, descriptorIndex := 62, attributes := #[] }, { accessFlags := 24, nameIndex := 430, descriptorIndex := 62, attributes := #[] }, { accessFlags := 4120, nameIndex := 46, descriptorIndex := 47, attributes := #[] }])
  fields := #[{ name := "HI_BYTE_SHIFT", type := .int, accessFlags := 26, slot := 0, constantValue := 0 }, { name := "LO_BYTE_SHIFT", type := .int, accessFlags := 26, slot := 1, constantValue := 0 }, { name := "MAX_LENGTH", type := .int, accessFlags := 24, slot := 2, constantValue := 0 }, { name := "$assertionsDisabled", type := .boolean, accessFlags := 4120, slot := 3, constantValue := 0 }]
  methods := #[k8m0, k8m1, k8m2, k8m3]
  instanceTypes := #[]
  staticTypes := #[.int, .int, .int, .boolean]
  resolved := Array.replicate 635 none
  statics := none }

def pool9 : Array CpInfo := pool [(1, .methodref 2 3), (0, .class_ 4), (0, .nameAndType 5 6), (0, u "java/lang/Object"), (0, u "<init>"), (0, u "()V"), (0, .class_ 8), (0, u "java/lang/Record")] 13

def k9c0 : Code := { maxStack := 1, maxLocals := 1, code := jdk_30_method_1_code, exceptionTable := #[], attributes := #[] }
def k9m0 : Method := { name := "<init>", desc := "()V", sig := { parameters := [], returnType := none }, accessFlags := 4, code := some k9c0 }
/-- java/lang/Record -/
def k9 : Class := { plain "java/lang/Record" (some 0) with
  accessFlags := 1057
  interfaces := #[]
  cf := some (fileOf pool9 7 #[] #[{ accessFlags := 4, nameIndex := 5, descriptorIndex := 6, attributes := #[] }] 1057 2 #[] #[])
  fields := #[]
  methods := #[k9m0]
  instanceTypes := #[]
  staticTypes := #[]
  resolved := Array.replicate 22 none
  statics := none }

def pool10 : Array CpInfo := pool [(1, .methodref 2 3), (0, .class_ 4), (0, .nameAndType 5 6), (0, u "java/lang/Record"), (0, u "<init>"), (0, u "()V"), (0, .string 8), (0, u "table"), (0, .methodref 10 11), (0, .class_ 12), (0, .nameAndType 13 14), (0, u "java/util/Objects"), (0, u "requireNonNull"), (0, u "(Ljava/lang/Object;Ljava/lang/String;)Ljava/lang/Object;"), (0, .fieldref 16 17), (0, .class_ 18), (0, .nameAndType 8 19), (0, u "com/example/sessionsmith/sessionsmith/SchemaProblem"), (0, u "Ljava/lang/String;"), (0, .fieldref 16 21), (0, .nameAndType 22 19), (0, u "column"), (0, .class_ 24), (0, u "java/lang/StringBuilder"), (0, .methodref 23 3), (0, .string 27), (0, u "table "), (0, .methodref 23 29), (0, .nameAndType 30 31), (0, u "append"), (0, u "(Ljava/lang/String;)Ljava/lang/StringBuilder;"), (0, .string 33), (0, u " is missing"), (0, .methodref 23 35), (0, .nameAndType 36 37), (0, u "toString"), (0, u "()Ljava/lang/String;"), (0, .string 39), (0, u "column "), (0, .string 41), (0, u " of table "), (8, u "(Ljava/lang/String;Ljava/lang/String;)V")] 29

def k10c0 : Code := { maxStack := 2, maxLocals := 3, code := prog_8_method_1_code, exceptionTable := #[], attributes := #[] }
def k10m0 : Method := { name := "<init>", desc := "(Ljava/lang/String;Ljava/lang/String;)V", sig := { parameters := [(.object "java/lang/String"), (.object "java/lang/String")], returnType := none }, accessFlags := 1, code := some k10c0 }
def k10c1 : Code := { maxStack := 2, maxLocals := 1, code := prog_8_method_2_code, exceptionTable := #[], attributes := #[] }
def k10m1 : Method := { name := "toString", desc := "()Ljava/lang/String;", sig := { parameters := [], returnType := some (.object "java/lang/String") }, accessFlags := 1, code := some k10c1 }
/-- com/example/sessionsmith/sessionsmith/SchemaProblem -/
def k10 : Class := { plain "com/example/sessionsmith/sessionsmith/SchemaProblem" (some 9) with
  accessFlags := 49
  interfaces := #[]
  cf := some (fileOf pool10 16 #[] #[{ accessFlags := 1, nameIndex := 5, descriptorIndex := 50, attributes := #[] }, { accessFlags := 1, nameIndex := 36, descriptorIndex := 37, attributes := #[] }] 49 2 #[] #[{ accessFlags := 18, nameIndex := 8, descriptorIndex := 19, attributes := #[] }, { accessFlags := 18, nameIndex := 22, descriptorIndex := 19, attributes := #[] }])
  fields := #[{ name := "table", type := (.object "java/lang/String"), accessFlags := 18, slot := 0, constantValue := 0 }, { name := "column", type := (.object "java/lang/String"), accessFlags := 18, slot := 1, constantValue := 0 }]
  methods := #[k10m0, k10m1]
  instanceTypes := #[(.object "java/lang/String"), (.object "java/lang/String")]
  staticTypes := #[]
  resolved := Array.replicate 80 none
  statics := none }

def pool11 : Array CpInfo := pool [(2, .class_ 4), (1, u "java/lang/Object"), (0, u "<init>"), (0, u "()V"), (35, .class_ 44), (1, u "java/util/Objects"), (0, u "requireNonNull"), (48, u "(Ljava/lang/Object;Ljava/lang/String;)Ljava/lang/Object;")] 89

def k11m0 : Method := { name := "<init>", desc := "()V", sig := { parameters := [], returnType := none }, accessFlags := 2, code := none }
def k11c1 : Code := { maxStack := 3, maxLocals := 2, code := jdk_31_method_11_code, exceptionTable := #[], attributes := #[] }
def k11m1 : Method := { name := "requireNonNull", desc := "(Ljava/lang/Object;Ljava/lang/String;)Ljava/lang/Object;", sig := { parameters := [(.object "java/lang/Object"), (.object "java/lang/String")], returnType := some (.object "java/lang/Object") }, accessFlags := 9, code := some k11c1 }
/-- java/util/Objects -/
def k11 : Class := { plain "java/util/Objects" (some 0) with
  accessFlags := 49
  interfaces := #[]
  cf := some (fileOf pool11 42 #[] #[{ accessFlags := 2, nameIndex := 5, descriptorIndex := 6, attributes := #[] }, { accessFlags := 9, nameIndex := 45, descriptorIndex := 94, attributes := #[] }] 49 2 #[] #[])
  fields := #[]
  methods := #[k11m0, k11m1]
  instanceTypes := #[]
  staticTypes := #[]
  resolved := Array.replicate 184 none
  statics := none }

def pool12 : Array CpInfo := pool [(1, .class_ 2), (0, u "java/lang/Appendable"), (0, .class_ 4), (0, u "java/lang/Object")] 9

/-- java/lang/Appendable -/
def k12 : Class := { plain "java/lang/Appendable" (some 0) with
  accessFlags := 1537
  interfaces := #[]
  cf := some (fileOf pool12 1 #[] #[] 1537 3 #[] #[])
  fields := #[]
  methods := #[]
  instanceTypes := #[]
  staticTypes := #[]
  resolved := Array.replicate 14 none
  statics := none }

def pool13 : Array CpInfo := pool [(1, .class_ 2), (0, u "java/lang/String"), (0, .methodref 4 5), (0, .class_ 6), (0, .nameAndType 7 8), (0, u "java/lang/Object"), (0, u "<init>"), (0, u "()V"), (1, .class_ 12), (1, u "java/lang/AbstractStringBuilder"), (0, u "EMPTYVALUE"), (0, u "[B"), (0, .fieldref 10 16), (0, .nameAndType 17 14), (0, u "value"), (0, .fieldref 1 19), (0, .nameAndType 20 21), (0, u "COMPACT_STRINGS"), (0, u "Z"), (0, .fieldref 10 23), (0, .nameAndType 24 25), (0, u "coder"), (0, u "B"), (6, .methodref 1 33), (0, .nameAndType 34 35), (0, u "length"), (0, u "()I"), (3, .integer 2147483647), (0, .methodref 1 41), (0, .nameAndType 24 42), (0, u "()B"), (2, u "append"), (0, u "(Ljava/lang/String;)Ljava/lang/AbstractStringBuilder;"), (1, .class_ 49), (0, u "java/lang/CharSequence"), (19, u "(Ljava/lang/String;)V"), (5, u "maybeLatin1"), (3, .fieldref 10 80), (0, .nameAndType 81 82), (0, u "count"), (0, u "I"), (2, u "isLatin1"), (0, u "()Z"), (13, .methodref 10 101), (0, .nameAndType 102 103), (0, u "ensureCapacityInternal"), (0, u "(I)V"), (0, .methodref 10 105), (0, .nameAndType 106 107), (0, u "newCapacity"), (0, u "(I)I"), (0, .methodref 109 110), (0, .class_ 111), (0, .nameAndType 112 113), (0, u "java/util/Arrays"), (0, u "copyOf"), (0, u "([BI)[B"), (0, .methodref 115 116), (0, .class_ 117), (0, .nameAndType 118 119), (0, u "jdk/internal/util/ArraysSupport"), (0, u "newLength"), (0, u "(III)I"), (88, .methodref 10 209), (0, .nameAndType 210 211), (0, u "putStringAt"), (0, u "(ILjava/lang/String;)V"), (5, u "inflateIfNeededFor"), (2, .nameAndType 221 222), (0, u "getBytes"), (0, u "([BIB)V"), (174, .methodref 10 398), (0, .nameAndType 217 69), (0, .methodref 1 220), (3, u "()[B"), (40, .class_ 445), (0, u "java/lang/Appendable"), (106, u "getValue")] 56

def k13m0 : Method := { name := "<init>", desc := "()V", sig := { parameters := [], returnType := none }, accessFlags := 0, code := none }
def k13c1 : Code := { maxStack := 2, maxLocals := 2, code := jdk_68_method_2_code, exceptionTable := #[], attributes := #[] }
def k13m1 : Method := { name := "<init>", desc := "(I)V", sig := { parameters := [.int], returnType := none }, accessFlags := 0, code := some k13c1 }
def k13c2 : Code := { maxStack := 1, maxLocals := 1, code := jdk_68_method_6_code, exceptionTable := #[], attributes := #[] }
def k13m2 : Method := { name := "length", desc := "()I", sig := { parameters := [], returnType := some .int }, accessFlags := 1, code := some k13c2 }
def k13c3 : Code := { maxStack := 4, maxLocals := 3, code := jdk_68_method_9_code, exceptionTable := #[], attributes := #[] }
def k13m3 : Method := { name := "ensureCapacityInternal", desc := "(I)V", sig := { parameters := [.int], returnType := none }, accessFlags := 2, code := some k13c3 }
def k13c4 : Code := { maxStack := 5, maxLocals := 6, code := jdk_68_method_10_code, exceptionTable := #[], attributes := #[] }
def k13m4 : Method := { name := "newCapacity", desc := "(I)I", sig := { parameters := [.int], returnType := some .int }, accessFlags := 2, code := some k13c4 }
def k13c5 : Code := { maxStack := 3, maxLocals := 3, code := jdk_68_method_22_code, exceptionTable := #[], attributes := #[] }
def k13m5 : Method := { name := "append", desc := "(Ljava/lang/String;)Ljava/lang/AbstractStringBuilder;", sig := { parameters := [(.object "java/lang/String")], returnType := some (.object "java/lang/AbstractStringBuilder") }, accessFlags := 1, code := some k13c5 }
def k13c6 : Code := { maxStack := 1, maxLocals := 1, code := jdk_68_method_64_code, exceptionTable := #[], attributes := #[] }
def k13m6 : Method := { name := "getValue", desc := "()[B", sig := { parameters := [], returnType := some (.array .byte) }, accessFlags := 16, code := some k13c6 }
def k13c7 : Code := { maxStack := 1, maxLocals := 1, code := jdk_68_method_68_code, exceptionTable := #[], attributes := #[] }
def k13m7 : Method := { name := "isLatin1", desc := "()Z", sig := { parameters := [], returnType := some .boolean }, accessFlags := 16, code := some k13c7 }
def k13c8 : Code := { maxStack := 2, maxLocals := 2, code := jdk_68_method_71_code, exceptionTable := #[], attributes := #[] }
def k13m8 : Method := { name := "inflateIfNeededFor", desc := "(Ljava/lang/String;)V", sig := { parameters := [(.object "java/lang/String")], returnType := none }, accessFlags := 2, code := some k13c8 }
def k13c9 : Code := { maxStack := 4, maxLocals := 3, code := jdk_68_method_73_code, exceptionTable := #[], attributes := #[] }
def k13m9 : Method := { name := "putStringAt", desc := "(ILjava/lang/String;)V", sig := { parameters := [.int, (.object "java/lang/String")], returnType := none }, accessFlags := 2, code := some k13c9 }
/-- java/lang/AbstractStringBuilder -/
def k13 : Class := { plain "java/lang/AbstractStringBuilder" (some 0) with
  accessFlags := 1056
  interfaces := #[12, 4]
  cf := some (fileOf pool13 10 #[] #[{ accessFlags := 0, nameIndex := 7, descriptorIndex := 8, attributes := #[] }, { accessFlags := 0, nameIndex := 7, descriptorIndex := 103, attributes := #[] }, { accessFlags := 1, nameIndex := 34, descriptorIndex := 35, attributes := #[] }, { accessFlags := 2, nameIndex := 102, descriptorIndex := 103, attributes := #[] }, { accessFlags := 2, nameIndex := 106, descriptorIndex := 107, attributes := #[] }, { accessFlags := 1, nameIndex := 45, descriptorIndex := 46, attributes := #[] }, { accessFlags := 16, nameIndex := 552, descriptorIndex := 403, attributes := #[] }, { accessFlags := 16, nameIndex := 85, descriptorIndex := 86, attributes := #[] }, { accessFlags := 2, nameIndex := 217, descriptorIndex := 69, attributes := #[] }, { accessFlags := 2, nameIndex := 210, descriptorIndex := 211, attributes := #[] }] 1056 4 #[444, 48] #[{ accessFlags := 0, nameIndex := 17, descriptorIndex := 14, attributes := #[] }, { accessFlags := 0, nameIndex := 24, descriptorIndex := 25, attributes := #[] }, { accessFlags := 0, nameIndex := 75, descriptorIndex := 21, attributes := #[] }, { accessFlags := 0, nameIndex := 81, descriptorIndex := 82, attributes := #[] }, { accessFlags := 26, nameIndex := 13, descriptorIndex := 14, attributes := #[] }])
  fields := #[{ name := "value", type := (.array .byte), accessFlags := 0, slot := 0, constantValue := 0 }, { name := "coder", type := .byte, accessFlags := 0, slot := 1, constantValue := 0 }, { name := "maybeLatin1", type := .boolean, accessFlags := 0, slot := 2, constantValue := 0 }, { name := "count", type := .int, accessFlags := 0, slot := 3, constantValue := 0 }, { name := "EMPTYVALUE", type := (.array .byte), accessFlags := 26, slot := 0, constantValue := 0 }]
  methods := #[k13m0, k13m1, k13m2, k13m3, k13m4, k13m5, k13m6, k13m7, k13m8, k13m9]
  instanceTypes := #[(.array .byte), .byte, .boolean, .int]
  staticTypes := #[(.array .byte)]
  resolved := Array.replicate 609 none
  statics := none }

def pool14 : Array CpInfo := pool [(1, .methodref 2 3), (0, .class_ 4), (0, .nameAndType 5 6), (0, u "java/lang/AbstractStringBuilder"), (0, u "<init>"), (0, u "(I)V"), (11, .class_ 20), (1, u "java/lang/String"), (3, .class_ 26), (1, u "java/lang/StringBuilder"), (0, u "append"), (0, u "(Ljava/lang/String;)Ljava/lang/StringBuilder;"), (0, .methodref 2 30), (0, .nameAndType 27 31), (0, u "(Ljava/lang/String;)Ljava/lang/AbstractStringBuilder;"), (105, .methodref 18 138), (0, .nameAndType 5 139), (0, u "(Ljava/lang/StringBuilder;)V"), (5, u "()V"), (10, u "()I"), (186, .methodref 2 344), (0, .nameAndType 345 156), (0, u "length"), (3, .class_ 350), (0, u "java/lang/Appendable"), (0, .class_ 352), (0, u "java/io/Serializable"), (0, .class_ 354), (0, u "java/lang/Comparable"), (0, .class_ 356), (0, u "java/lang/CharSequence"), (0, u "serialVersionUID"), (0, u "J"), (40, u "toString"), (0, u "()Ljava/lang/String;")] 21

def k14c0 : Code := { maxStack := 2, maxLocals := 1, code := jdk_67_method_1_code, exceptionTable := #[], attributes := #[] }
def k14m0 : Method := { name := "<init>", desc := "()V", sig := { parameters := [], returnType := none }, accessFlags := 1, code := some k14c0 }
def k14c1 : Code := { maxStack := 2, maxLocals := 2, code := jdk_67_method_7_code, exceptionTable := #[], attributes := #[] }
def k14m1 : Method := { name := "append", desc := "(Ljava/lang/String;)Ljava/lang/StringBuilder;", sig := { parameters := [(.object "java/lang/String")], returnType := some (.object "java/lang/StringBuilder") }, accessFlags := 1, code := some k14c1 }
def k14c2 : Code := { maxStack := 3, maxLocals := 1, code := jdk_67_method_42_code, exceptionTable := #[], attributes := #[] }
def k14m2 : Method := { name := "toString", desc := "()Ljava/lang/String;", sig := { parameters := [], returnType := some (.object "java/lang/String") }, accessFlags := 1, code := some k14c2 }
def k14c3 : Code := { maxStack := 1, maxLocals := 1, code := jdk_67_method_93_code, exceptionTable := #[], attributes := #[] }
def k14m3 : Method := { name := "length", desc := "()I", sig := { parameters := [], returnType := some .int }, accessFlags := 4161, code := some k14c3 }
/-- java/lang/StringBuilder -/
def k14 : Class := { plain "java/lang/StringBuilder" (some 13) with
  accessFlags := 49
  interfaces := #[12, 2, 3, 4]
  cf := some (fileOf pool14 24 #[] #[{ accessFlags := 1, nameIndex := 5, descriptorIndex := 145, attributes := #[] }, { accessFlags := 1, nameIndex := 27, descriptorIndex := 28, attributes := #[] }, { accessFlags := 1, nameIndex := 399, descriptorIndex := 400, attributes := #[] }, { accessFlags := 4161, nameIndex := 345, descriptorIndex := 156, attributes := #[] }] 49 2 #[349, 351, 353, 355] #[{ accessFlags := 24, nameIndex := 357, descriptorIndex := 358, attributes := #[] }])
  fields := #[{ name := "serialVersionUID", type := .long, accessFlags := 24, slot := 0, constantValue := 0 }]
  methods := #[k14m0, k14m1, k14m2, k14m3]
  instanceTypes := #[(.array .byte), .byte, .boolean, .int]
  staticTypes := #[.long]
  resolved := Array.replicate 422 none
  statics := none }

def pool15 : Array CpInfo := pool [(2, .class_ 4), (1, u "java/lang/Object"), (0, u "<init>"), (0, u "()V"), (1, .class_ 10), (1, u "java/lang/System"), (0, u "allowSecurityManager"), (0, u "I"), (16, u "cons"), (0, u "Ljava/io/Console;"), (77, .class_ 110), (1, u "java/lang/System$CallersHolder"), (43, u "initialErrStream"), (0, u "Ljava/io/PrintStream;"), (19, u "security"), (0, u "Ljava/lang/SecurityManager;"), (31, .class_ 209), (0, u "java/lang/System$1"), (7, u "props"), (0, u "Ljava/util/Properties;"), (2, u "lineSeparator"), (0, u "Ljava/lang/String;"), (96, .class_ 321), (1, u "java/lang/System$LoggerFinder"), (5, .class_ 328), (0, u "java/lang/System$Logger"), (67, u "err"), (2, u "out"), (91, u "notSupportedJnuEncoding"), (15, u "in"), (17, u "initialIn"), (0, u "Ljava/io/InputStream;"), (35, u "bootLayer"), (0, u "Ljava/lang/ModuleLayer;"), (99, .class_ 664), (0, u "java/lang/System$2"), (9, u "NEVER"), (2, u "MAYBE"), (49, u "arraycopy"), (0, u "(Ljava/lang/Object;ILjava/lang/Object;II)V"), (72, .class_ 802), (0, u "java/lang/System$Logger$Level")] 31

def k15m0 : Method := { name := "<init>", desc := "()V", sig := { parameters := [], returnType := none }, accessFlags := 2, code := none }
def k15m1 : Method := { name := "arraycopy", desc := "(Ljava/lang/Object;ILjava/lang/Object;II)V", sig := { parameters := [(.object "java/lang/Object"), .int, (.object "java/lang/Object"), .int, .int], returnType := none }, accessFlags := 265, code := none }
/-- java/lang/System -/
def k15 : Class := { plain "java/lang/System" (some 0) with
  accessFlags := 49
  interfaces := #[]
  cf := some (fileOf pool15 8 #[.nestMembers #[319, 327, 801, 108, 663, 208]] #[{ accessFlags := 2, nameIndex := 5, descriptorIndex := 6, attributes := #[] }, { accessFlags := 265, nameIndex := 727, descriptorIndex := 728, attributes := #[] }] 49 2 #[] #[{ accessFlags := 25, nameIndex := 507, descriptorIndex := 526, attributes := #[] }, { accessFlags := 25, nameIndex := 399, descriptorIndex := 155, attributes := #[] }, { accessFlags := 25, nameIndex := 396, descriptorIndex := 155, attributes := #[] }, { accessFlags := 10, nameIndex := 525, descriptorIndex := 526, attributes := #[] }, { accessFlags := 26, nameIndex := 674, descriptorIndex := 12, attributes := #[] }, { accessFlags := 26, nameIndex := 677, descriptorIndex := 12, attributes := #[] }, { accessFlags := 10, nameIndex := 11, descriptorIndex := 12, attributes := #[] }, { accessFlags := 74, nameIndex := 175, descriptorIndex := 176, attributes := #[] }, { accessFlags := 10, nameIndex := 491, descriptorIndex := 222, attributes := #[] }, { accessFlags := 74, nameIndex := 29, descriptorIndex := 30, attributes := #[] }, { accessFlags := 74, nameIndex := 154, descriptorIndex := 155, attributes := #[] }, { accessFlags := 10, nameIndex := 217, descriptorIndex := 218, attributes := #[] }, { accessFlags := 10, nameIndex := 221, descriptorIndex := 222, attributes := #[] }, { accessFlags := 8, nameIndex := 562, descriptorIndex := 563, attributes := #[] }])
  fields := #[{ name := "in", type := (.object "java/io/InputStream"), accessFlags := 25, slot := 0, constantValue := 0 }, { name := "out", type := (.object "java/io/PrintStream"), accessFlags := 25, slot := 1, constantValue := 0 }, { name := "err", type := (.object "java/io/PrintStream"), accessFlags := 25, slot := 2, constantValue := 0 }, { name := "initialIn", type := (.object "java/io/InputStream"), accessFlags := 10, slot := 3, constantValue := 0 }, { name := "NEVER", type := .int, accessFlags := 26, slot := 4, constantValue := 0 }, { name := "MAYBE", type := .int, accessFlags := 26, slot := 5, constantValue := 0 }, { name := "allowSecurityManager", type := .int, accessFlags := 10, slot := 6, constantValue := 0 }, { name := "security", type := (.object "java/lang/SecurityManager"), accessFlags := 74, slot := 7, constantValue := 0 }, { name := "notSupportedJnuEncoding", type := (.object "java/lang/String"), accessFlags := 10, slot := 8, constantValue := 0 }, { name := "cons", type := (.object "java/io/Console"), accessFlags := 74, slot := 9, constantValue := 0 }, { name := "initialErrStream", type := (.object "java/io/PrintStream"), accessFlags := 74, slot := 10, constantValue := 0 }, { name := "props", type := (.object "java/util/Properties"), accessFlags := 10, slot := 11, constantValue := 0 }, { name := "lineSeparator", type := (.object "java/lang/String"), accessFlags := 10, slot := 12, constantValue := 0 }, { name := "bootLayer", type := (.object "java/lang/ModuleLayer"), accessFlags := 8, slot := 13, constantValue := 0 }]
  methods := #[k15m0, k15m1]
  instanceTypes := #[]
  staticTypes := #[(.object "java/io/InputStream"), (.object "java/io/PrintStream"), (.object "java/io/PrintStream"), (.object "java/io/InputStream"), .int, .int, .int, (.object "java/lang/SecurityManager"), (.object "java/lang/String"), (.object "java/io/Console"), (.object "java/io/PrintStream"), (.object "java/util/Properties"), (.object "java/lang/String"), (.object "java/lang/ModuleLayer")]
  resolved := Array.replicate 834 none
  statics := none }

def pool16 : Array CpInfo := pool [(9, u "<init>"), (6, .class_ 18), (1, u "java/lang/Object"), (0, u "()V"), (1, .class_ 23), (1, u "jdk/internal/util/ArraysSupport"), (0, u "LOG2_ARRAY_LONG_INDEX_SCALE"), (0, u "I"), (2, u "U"), (0, u "Ljdk/internal/misc/Unsafe;"), (8, u "BIG_ENDIAN"), (0, u "Z"), (8, u "LOG2_BYTE_BIT_SIZE"), (4, u "LOG2_ARRAY_INT_INDEX_SCALE"), (54, u "JLA"), (0, u "Ljdk/internal/access/JavaLangAccess;"), (11, u "LOG2_ARRAY_BOOLEAN_INDEX_SCALE"), (9, u "LOG2_ARRAY_BYTE_INDEX_SCALE"), (5, u "LOG2_ARRAY_CHAR_INDEX_SCALE"), (5, u "LOG2_ARRAY_SHORT_INDEX_SCALE"), (18, u "LOG2_ARRAY_FLOAT_INDEX_SCALE"), (24, u "LOG2_ARRAY_DOUBLE_INDEX_SCALE"), (6, .methodref 195 196), (0, .class_ 197), (0, .nameAndType 198 199), (0, u "java/lang/Math"), (0, u "max"), (0, u "(II)I"), (0, .integer 2147483639), (76, u "T_BOOLEAN"), (2, u "T_CHAR"), (1, u "T_FLOAT"), (1, u "T_DOUBLE"), (1, u "T_BYTE"), (1, u "T_SHORT"), (1, u "T_INT"), (1, u "T_LONG"), (1, u "SOFT_MAX_ARRAY_LENGTH"), (56, u "newLength"), (0, u "(III)I")] 25

def k16m0 : Method := { name := "<init>", desc := "()V", sig := { parameters := [], returnType := none }, accessFlags := 2, code := none }
def k16c1 : Code := { maxStack := 3, maxLocals := 4, code := jdk_48_method_27_code, exceptionTable := #[], attributes := #[] }
def k16m1 : Method := { name := "newLength", desc := "(III)I", sig := { parameters := [.int, .int, .int], returnType := some .int }, accessFlags := 9, code := some k16c1 }
/-- jdk/internal/util/ArraysSupport -/
def k16 : Class := { plain "jdk/internal/util/ArraysSupport" (some 0) with
  accessFlags := 33
  interfaces := #[]
  cf := some (fileOf pool16 21 #[] #[{ accessFlags := 2, nameIndex := 9, descriptorIndex := 19, attributes := #[] }, { accessFlags := 9, nameIndex := 351, descriptorIndex := 352, attributes := #[] }] 33 16 #[] #[{ accessFlags := 24, nameIndex := 28, descriptorIndex := 29, attributes := #[] }, { accessFlags := 26, nameIndex := 38, descriptorIndex := 39, attributes := #[] }, { accessFlags := 25, nameIndex := 121, descriptorIndex := 25, attributes := #[] }, { accessFlags := 25, nameIndex := 131, descriptorIndex := 25, attributes := #[] }, { accessFlags := 25, nameIndex := 137, descriptorIndex := 25, attributes := #[] }, { accessFlags := 25, nameIndex := 143, descriptorIndex := 25, attributes := #[] }, { accessFlags := 25, nameIndex := 53, descriptorIndex := 25, attributes := #[] }, { accessFlags := 25, nameIndex := 24, descriptorIndex := 25, attributes := #[] }, { accessFlags := 25, nameIndex := 162, descriptorIndex := 25, attributes := #[] }, { accessFlags := 25, nameIndex := 187, descriptorIndex := 25, attributes := #[] }, { accessFlags := 26, nameIndex := 48, descriptorIndex := 25, attributes := #[] }, { accessFlags := 25, nameIndex := 277, descriptorIndex := 25, attributes := #[] }, { accessFlags := 25, nameIndex := 280, descriptorIndex := 25, attributes := #[] }, { accessFlags := 25, nameIndex := 282, descriptorIndex := 25, attributes := #[] }, { accessFlags := 25, nameIndex := 284, descriptorIndex := 25, attributes := #[] }, { accessFlags := 25, nameIndex := 286, descriptorIndex := 25, attributes := #[] }, { accessFlags := 25, nameIndex := 288, descriptorIndex := 25, attributes := #[] }, { accessFlags := 25, nameIndex := 290, descriptorIndex := 25, attributes := #[] }, { accessFlags := 25, nameIndex := 292, descriptorIndex := 25, attributes := #[] }, { accessFlags := 26, nameIndex := 108, descriptorIndex := 109, attributes := #[] }, { accessFlags := 25, nameIndex := 294, descriptorIndex := 25, attributes := #[] }])
  fields := #[{ name := "U", type := (.object "jdk/internal/misc/Unsafe"), accessFlags := 24, slot := 0, constantValue := 0 }, { name := "BIG_ENDIAN", type := .boolean, accessFlags := 26, slot := 1, constantValue := 0 }, { name := "LOG2_ARRAY_BOOLEAN_INDEX_SCALE", type := .int, accessFlags := 25, slot := 2, constantValue := 0 }, { name := "LOG2_ARRAY_BYTE_INDEX_SCALE", type := .int, accessFlags := 25, slot := 3, constantValue := 0 }, { name := "LOG2_ARRAY_CHAR_INDEX_SCALE", type := .int, accessFlags := 25, slot := 4, constantValue := 0 }, { name := "LOG2_ARRAY_SHORT_INDEX_SCALE", type := .int, accessFlags := 25, slot := 5, constantValue := 0 }, { name := "LOG2_ARRAY_INT_INDEX_SCALE", type := .int, accessFlags := 25, slot := 6, constantValue := 0 }, { name := "LOG2_ARRAY_LONG_INDEX_SCALE", type := .int, accessFlags := 25, slot := 7, constantValue := 0 }, { name := "LOG2_ARRAY_FLOAT_INDEX_SCALE", type := .int, accessFlags := 25, slot := 8, constantValue := 0 }, { name := "LOG2_ARRAY_DOUBLE_INDEX_SCALE", type := .int, accessFlags := 25, slot := 9, constantValue := 0 }, { name := "LOG2_BYTE_BIT_SIZE", type := .int, accessFlags := 26, slot := 10, constantValue := 0 }, { name := "T_BOOLEAN", type := .int, accessFlags := 25, slot := 11, constantValue := 0 }, { name := "T_CHAR", type := .int, accessFlags := 25, slot := 12, constantValue := 0 }, { name := "T_FLOAT", type := .int, accessFlags := 25, slot := 13, constantValue := 0 }, { name := "T_DOUBLE", type := .int, accessFlags := 25, slot := 14, constantValue := 0 }, { name := "T_BYTE", type := .int, accessFlags := 25, slot := 15, constantValue := 0 }, { name := "T_SHORT", type := .int, accessFlags := 25, slot := 16, constantValue := 0 }, { name := "T_INT", type := .int, accessFlags := 25, slot := 17, constantValue := 0 }, { name := "T_LONG", type := .int, accessFlags := 25, slot := 18, constantValue := 0 }, { name := "JLA", type := (.object "jdk/internal/access/JavaLangAccess"), accessFlags := 26, slot := 19, constantValue := 0 }, { name := "SOFT_MAX_ARRAY_LENGTH", type := .int, accessFlags := 25, slot := 20, constantValue := 0 }]
  methods := #[k16m0, k16m1]
  instanceTypes := #[]
  staticTypes := #[(.object "jdk/internal/misc/Unsafe"), .boolean, .int, .int, .int, .int, .int, .int, .int, .int, .int, .int, .int, .int, .int, .int, .int, .int, .int, (.object "jdk/internal/access/JavaLangAccess"), .int]
  resolved := Array.replicate 378 none
  statics := none }

def pool17 : Array CpInfo := pool [(1, .class_ 2), (0, u "java/lang/Math"), (1, .class_ 6), (1, u "java/lang/Object"), (0, u "<init>"), (0, u "()V"), (89, .class_ 100), (1, u "java/lang/Math$RandomNumberGeneratorHolder"), (71, u "negativeZeroFloatBits"), (0, u "J"), (2, u "negativeZeroDoubleBits"), (21, u "max"), (2, u "min"), (43, u "$assertionsDisabled"), (0, u "Z"), (88, u "(II)I"), (2, u "twoToTheDoubleScaleDown"), (0, u "D"), (4, u "twoToTheDoubleScaleUp"), (9, u "E"), (3, u "PI"), (2, u "TAU"), (2, u "DEGREES_TO_RADIANS"), (0, u "RADIANS_TO_DEGREES")] 94

def k17m0 : Method := { name := "<init>", desc := "()V", sig := { parameters := [], returnType := none }, accessFlags := 2, code := none }
def k17c1 : Code := { maxStack := 2, maxLocals := 2, code := jdk_29_method_65_code, exceptionTable := #[], attributes := #[] }
def k17m1 : Method := { name := "max", desc := "(II)I", sig := { parameters := [.int, .int], returnType := some .int }, accessFlags := 9, code := some k17c1 }
def k17c2 : Code := { maxStack := 2, maxLocals := 2, code := jdk_29_method_69_code, exceptionTable := #[], attributes := #[] }
def k17m2 : Method := { name := "min", desc := "(II)I", sig := { parameters := [.int, .int], returnType := some .int }, accessFlags := 9, code := some k17c2 }
/-- java/lang/Math -/
def k17 : Class := { plain "java/lang/Math" (some 0) with
  accessFlags := 49
  interfaces := #[]
  cf := some (fileOf pool17 1 #[.nestMembers #[98]] #[{ accessFlags := 2, nameIndex := 7, descriptorIndex := 8, attributes := #[] }, { accessFlags := 9, nameIndex := 198, descriptorIndex := 335, attributes := #[] }, { accessFlags := 9, nameIndex := 201, descriptorIndex := 335, attributes := #[] }] 49 4 #[] #[{ accessFlags := 25, nameIndex := 354, descriptorIndex := 339, attributes := #[] }, { accessFlags := 25, nameIndex := 358, descriptorIndex := 339, attributes := #[] }, { accessFlags := 25, nameIndex := 361, descriptorIndex := 339, attributes := #[] }, { accessFlags := 26, nameIndex := 364, descriptorIndex := 339, attributes := #[] }, { accessFlags := 26, nameIndex := 365, descriptorIndex := 339, attributes := #[] }, { accessFlags := 26, nameIndex := 172, descriptorIndex := 173, attributes := #[] }, { accessFlags := 26, nameIndex := 176, descriptorIndex := 173, attributes := #[] }, { accessFlags := 8, nameIndex := 344, descriptorIndex := 339, attributes := #[] }, { accessFlags := 8, nameIndex := 338, descriptorIndex := 339, attributes := #[] }, { accessFlags := 4120, nameIndex := 245, descriptorIndex := 246, attributes := #[] }])
  fields := #[{ name := "E", type := .double, accessFlags := 25, slot := 0, constantValue := 0 }, { name := "PI", type := .double, accessFlags := 25, slot := 1, constantValue := 0 }, { name := "TAU", type := .double, accessFlags := 25, slot := 2, constantValue := 0 }, { name := "DEGREES_TO_RADIANS", type := .double, accessFlags := 26, slot := 3, constantValue := 0 }, { name := "RADIANS_TO_DEGREES", type := .double, accessFlags := 26, slot := 4, constantValue := 0 }, { name := "negativeZeroFloatBits", type := .long, accessFlags := 26, slot := 5, constantValue := 0 }, { name := "negativeZeroDoubleBits", type := .long, accessFlags := 26, slot := 6, constantValue := 0 }, { name := "twoToTheDoubleScaleUp", type := .double, accessFlags := 8, slot := 7, constantValue := 0 }, { name := "twoToTheDoubleScaleDown", type := .double, accessFlags := 8, slot := 8, constantValue := 0 }, { name := "$assertionsDisabled", type := .boolean, accessFlags := 4120, slot := 9, constantValue := 0 }]
  methods := #[k17m0, k17m1, k17m2]
  instanceTypes := #[]
  staticTypes := #[.double, .double, .double, .double, .double, .long, .long, .double, .double, .boolean]
  resolved := Array.replicate 460 none
  statics := none }

def pool18 : Array CpInfo := pool [(2, .class_ 4), (1, u "java/lang/Object"), (0, u "<init>"), (0, u "()V"), (7, .class_ 16), (1, u "java/util/Arrays"), (57, .class_ 76), (1, u "java/util/Arrays$NaturalOrder"), (36, .class_ 115), (1, u "java/util/Arrays$LegacyMergeSort"), (1, u "Z"), (21, u "copyOfRange"), (10, .methodref 151 152), (0, .class_ 153), (0, .nameAndType 154 155), (0, u "java/lang/System"), (0, u "arraycopy"), (0, u "(Ljava/lang/Object;ILjava/lang/Object;II)V"), (146, u "copyOf"), (1, .methodref 305 306), (0, .class_ 307), (0, .nameAndType 308 309), (0, u "java/lang/Math"), (0, u "min"), (0, u "(II)I"), (29, .methodref 14 340), (0, .nameAndType 341 342), (0, u "copyOfRangeByte"), (0, u "([BII)[B"), (0, .methodref 14 344), (0, .nameAndType 345 346), (0, u "checkLength"), (0, u "(II)V"), (28, .class_ 376), (0, u "java/util/Arrays$ArrayList"), (68, u "$assertionsDisabled"), (269, u "MIN_ARRAY_SORT_GRAN"), (0, u "I"), (2, u "INSERTIONSORT_THRESHOLD"), (149, u "([BI)[B"), (105, .class_ 976), (0, u "java/util/Arrays$ArrayItr")] 52

def k18m0 : Method := { name := "<init>", desc := "()V", sig := { parameters := [], returnType := none }, accessFlags := 2, code := none }
def k18c1 : Code := { maxStack := 6, maxLocals := 3, code := jdk_65_method_121_code, exceptionTable := #[], attributes := #[] }
def k18m1 : Method := { name := "copyOf", desc := "([BI)[B", sig := { parameters := [(.array .byte), .int], returnType := some (.array .byte) }, accessFlags := 9, code := some k18c1 }
def k18c2 : Code := { maxStack := 4, maxLocals := 2, code := jdk_65_method_131_code, exceptionTable := #[], attributes := #[] }
def k18m2 : Method := { name := "checkLength", desc := "(II)V", sig := { parameters := [.int, .int], returnType := none }, accessFlags := 10, code := some k18c2 }
def k18c3 : Code := { maxStack := 3, maxLocals := 3, code := jdk_65_method_132_code, exceptionTable := #[], attributes := #[] }
def k18m3 : Method := { name := "copyOfRange", desc := "([BII)[B", sig := { parameters := [(.array .byte), .int, .int], returnType := some (.array .byte) }, accessFlags := 9, code := some k18c3 }
def k18c4 : Code := { maxStack := 6, maxLocals := 5, code := jdk_65_method_133_code, exceptionTable := #[], attributes := #[] }
def k18m4 : Method := { name := "copyOfRangeByte", desc := "([BII)[B", sig := { parameters := [(.array .byte), .int, .int], returnType := some (.array .byte) }, accessFlags := 10, code := some k18c4 }
/-- java/util/Arrays -/
def k18 : Class := { plain "java/util/Arrays" (some 0) with
  accessFlags := 49
  interfaces := #[]
  cf := some (fileOf pool18 14 #[.nestMembers #[975, 375, 113, 74]] #[{ accessFlags := 2, nameIndex := 5, descriptorIndex := 6, attributes := #[] }, { accessFlags := 9, nameIndex := 302, descriptorIndex := 869, attributes := #[] }, { accessFlags := 10, nameIndex := 345, descriptorIndex := 346, attributes := #[] }, { accessFlags := 9, nameIndex := 139, descriptorIndex := 342, attributes := #[] }, { accessFlags := 10, nameIndex := 341, descriptorIndex := 342, attributes := #[] }] 49 2 #[] #[{ accessFlags := 26, nameIndex := 715, descriptorIndex := 716, attributes := #[] }, { accessFlags := 26, nameIndex := 719, descriptorIndex := 716, attributes := #[] }, { accessFlags := 4120, nameIndex := 445, descriptorIndex := 117, attributes := #[] }])
  fields := #[{ name := "MIN_ARRAY_SORT_GRAN", type := .int, accessFlags := 26, slot := 0, constantValue := 0 }, { name := "INSERTIONSORT_THRESHOLD", type := .int, accessFlags := 26, slot := 1, constantValue := 0 }, { name := "$assertionsDisabled", type := .boolean, accessFlags := 4120, slot := 2, constantValue := 0 }]
  methods := #[k18m0, k18m1, k18m2, k18m3, k18m4]
  instanceTypes := #[]
  staticTypes := #[.int, .int, .boolean]
  resolved := Array.replicate 1029 none
  statics := none }

def pool19 : Array CpInfo := pool [(4, .class_ 6), (1, u "java/lang/Object"), (0, u "<init>"), (0, u "()V"), (5, .class_ 16), (1, u "java/lang/StringLatin1"), (104, u "$assertionsDisabled"), (0, u "Z"), (98, .class_ 223), (1, u "java/lang/StringLatin1$LinesSpliterator"), (57, u "equals"), (0, u "([B[B)Z"), (107, .class_ 391), (0, u "java/lang/StringLatin1$CharsSpliterator")] 3

def k19m0 : Method := { name := "<init>", desc := "()V", sig := { parameters := [], returnType := none }, accessFlags := 0, code := none }
def k19c1 : Code := { maxStack := 3, maxLocals := 3, code := jdk_43_method_13_code, exceptionTable := #[], attributes := #[] }
def k19m1 : Method := { name := "equals", desc := "([B[B)Z", sig := { parameters := [(.array .byte), (.array .byte)], returnType := some .boolean }, accessFlags := 9, code := some k19c1 }
/-- java/lang/StringLatin1 -/
def k19 : Class := { plain "java/lang/StringLatin1" (some 0) with
  accessFlags := 48
  interfaces := #[]
  cf := some (fileOf pool19 14 #[.nestMembers #[390, 221]] #[{ accessFlags := 0, nameIndex := 7, descriptorIndex := 8, attributes := #[] }, { accessFlags := 9, nameIndex := 281, descriptorIndex := 282, attributes := #[] }] 48 4 #[] #[{ accessFlags := 4120, nameIndex := 121, descriptorIndex := 122, attributes := #[] }])
  fields := #[{ name := "$assertionsDisabled", type := .boolean, accessFlags := 4120, slot := 0, constantValue := 0 }]
  methods := #[k19m0, k19m1]
  instanceTypes := #[]
  staticTypes := #[.boolean]
  resolved := Array.replicate 395 none
  statics := none }

def pool20 : Array CpInfo := pool [(2, .class_ 4), (1, u "java/lang/Object"), (0, u "<init>"), (0, u "()V"), (17, .class_ 26), (1, u "jdk/internal/util/Preconditions"), (28, .class_ 56), (0, u "jdk/internal/util/Preconditions$4"), (57, .class_ 115), (0, u "jdk/internal/util/Preconditions$1"), (7, u "SIOOBE_FORMATTER"), (0, u "Ljava/util/function/BiFunction;"), (0, .class_ 126), (0, u "jdk/internal/util/Preconditions$2"), (3, u "AIOOBE_FORMATTER"), (0, .class_ 132), (0, u "jdk/internal/util/Preconditions$3"), (3, u "IOOBE_FORMATTER")] 57

def k20m0 : Method := { name := "<init>", desc := "()V", sig := { parameters := [], returnType := none }, accessFlags := 1, code := none }
/-- jdk/internal/util/Preconditions -/
def k20 : Class := { plain "jdk/internal/util/Preconditions" (some 0) with
  accessFlags := 33
  interfaces := #[]
  cf := some (fileOf pool20 24 #[.nestMembers #[55, 131, 125, 114]] #[{ accessFlags := 1, nameIndex := 5, descriptorIndex := 6, attributes := #[] }] 33 2 #[] #[{ accessFlags := 25, nameIndex := 123, descriptorIndex := 124, attributes := #[] }, { accessFlags := 25, nameIndex := 130, descriptorIndex := 124, attributes := #[] }, { accessFlags := 25, nameIndex := 136, descriptorIndex := 124, attributes := #[] }])
  fields := #[{ name := "SIOOBE_FORMATTER", type := (.object "java/util/function/BiFunction"), accessFlags := 25, slot := 0, constantValue := 0 }, { name := "AIOOBE_FORMATTER", type := (.object "java/util/function/BiFunction"), accessFlags := 25, slot := 1, constantValue := 0 }, { name := "IOOBE_FORMATTER", type := (.object "java/util/function/BiFunction"), accessFlags := 25, slot := 2, constantValue := 0 }]
  methods := #[k20m0]
  instanceTypes := #[]
  staticTypes := #[(.object "java/util/function/BiFunction"), (.object "java/util/function/BiFunction"), (.object "java/util/function/BiFunction")]
  resolved := Array.replicate 194 none
  statics := some 1 }

def pool21 : Array CpInfo := pool [(1, u "java/lang/Cloneable"), (0, .class_ 1), (0, u "java/lang/Object"), (0, .class_ 3)] 3

/-- java/lang/Cloneable -/
def k21 : Class := { plain "java/lang/Cloneable" (some 0) with
  accessFlags := 1537
  interfaces := #[]
  cf := some (fileOf pool21 2 #[] #[] 1537 4 #[] #[])
  fields := #[]
  methods := #[]
  instanceTypes := #[]
  staticTypes := #[]
  resolved := Array.replicate 8 none
  statics := none }

/-- the primitive byte -/
def k22 : Class := { plain "byte" none with kind := .primitive 'B', accessFlags := 0x411 }
/-- [B -/
def k23 : Class := { plain "[B" (some 0) with kind := .array 22 .byte, interfaces := #[21, 2], accessFlags := 1041 }

/-- the primitive char -/
def k24 : Class := { plain "char" none with kind := .primitive 'C', accessFlags := 0x411 }
/-- [C -/
def k25 : Class := { plain "[C" (some 0) with kind := .array 24 .char, interfaces := #[21, 2], accessFlags := 1041 }

/-- the primitive int -/
def k26 : Class := { plain "int" none with kind := .primitive 'I', accessFlags := 0x411 }
/-- [I -/
def k27 : Class := { plain "[I" (some 0) with kind := .array 26 .int, interfaces := #[21, 2], accessFlags := 1041 }

def heap : Heap := #[{ cls := 7, slots := #[.long 0, .int 1, .null, .int 0, .null, .int 0, .int 0], vm := .statics 7 },
  { cls := 20, slots := #[.null, .null, .null], vm := .statics 20 }]
def classes : Array Class := #[k0, k1, k2, k3, k4, k5, k6, k7, k8, k9, k10, k11, k12, k13, k14, k15, k16, k17, k18, k19, k20, k21, k22, k23, k24, k25, k26, k27]
def interned : List (Array UInt16 × Addr) := []
def slotsUsed : Nat := 10
def theMethod : MethodId := ⟨1, 3⟩
def args0 : Array Value := #[.int 65, .int 66, .int 67, .int 68, .int 1]
def aboutOver (below : List Frame) : State where
  vm := { classes := classes, interned := interned.toArray }
  heap := heap
  slotsUsed := slotsUsed
  threads := #[{ frames := .invoking theMethod args0 :: below }]
def below0 : List Frame := [.native { method := ⟨0, 0⟩, args := #[] }]
def about1 : State := aboutOver below0
def p0 : Program := .bare "" "" ""
def e0 : Env := launch0.env 0 0 0
theorem w_frames : about1.frames = Frame.invoking theMethod args0 :: below0 := rfl
set_option maxRecDepth 65536 in
theorem w_args : argsFit about1.vm theMethod args0 = true := by decide +kernel
set_option maxRecDepth 65536 in
theorem w_heap : heapFits about1 = true := by decide +kernel
set_option maxRecDepth 65536 in
theorem w_runnable : about1.curStatus? = some .runnable := by decide +kernel
set_option maxRecDepth 65536 in
theorem w_alone : about1.alone = true := by decide +kernel
set_option maxRecDepth 65536 in
theorem w_named : about1.methodNamed? x = some theMethod := by decide +kernel
set_option maxRecDepth 65536 in
theorem w_hears : about1.hears theMethod below0 = true := by decide +kernel
set_option maxRecDepth 65536 in
theorem w_ripe : about1.ripe theMethod args0 below0 = true := by decide +kernel
theorem w_running : about1.status = .running := rfl
set_option maxRecDepth 65536 in
theorem w_room : about1.hasRoom e0.platform room_1 = true :=
  launch0.hasRoom_least _ room_1 (by decide +kernel) (by decide +kernel) (by decide +kernel) (by decide +kernel) (by decide +kernel) (by decide +kernel)
theorem allAtoms_all (ts : List Jvm.Cond) (a : Array Jvm.Value) (st : Jvm.State) : (allAtoms ts).before a st = ts.all (fun c => c.before a st) := by
  induction ts with
  | nil => rfl
  | cons c t ih =>
    show (Jvm.Cond.and c (allAtoms t)).before a st = _
    rw [Jvm.Cond.before_and, ih, List.all_cons]
def words1 : List Jvm.Cond := Jvm.Cond.code x code maxLocals ret :: tables_1
/-- a 'code' word, met by the world's own term for the bytes: nothing is compared byte by byte -/
theorem code_word {y : MethodName} {bytes : ByteArray} {mx : Nat} {rt : Option FieldType} {a : Array Value} {s : State} {m : MethodId} {meth : Method} {c : Code} (h1 : s.methodNamed? y = some m) (h2 : s.vm.method? m = some meth) (h3 : meth.code = some c) (h4 : c.code = bytes)
    (h5 : (c.maxLocals == mx && c.exceptionTable.isEmpty && decide (c.maxStack ≤ mostOperands) && decide (meth.sig.returnType = rt) && !meth.locks && decide (parseMethodDescriptor y.desc = some meth.sig)) = true) : (Jvm.Cond.code y bytes mx rt).before a s = true := by
  simp only [Bool.and_eq_true, beq_iff_eq, Bool.not_eq_true', decide_eq_true_eq] at h5
  obtain ⟨⟨⟨⟨⟨g1, g2⟩, g3⟩, g4⟩, g5⟩, g6⟩ := h5
  simp [Cond.before, Cond.holds, Cond.value, h1, h2, h3, h4, g1, g2, g3, g4, g5, g6]
def isCode : Jvm.Cond → Bool
  | .code _ _ _ _ => true
  | _ => false
theorem all_split {L : List Jvm.Cond} {P : Jvm.Cond → Bool} (h1 : L.all (fun c => isCode c || P c) = true) (h2 : ∀ c ∈ L.filter isCode, P c = true) : L.all P = true := by
  refine List.all_eq_true.mpr fun c hc => ?_
  have h := List.all_eq_true.mp h1 c hc
  rcases Bool.eq_false_or_eq_true (isCode c) with hi | hi
  · exact h2 c (List.mem_filter.mpr ⟨hc, hi⟩)
  · simpa [hi] using h
set_option maxRecDepth 65536 in
theorem w_c0 : (Jvm.Cond.code x code maxLocals ret).before args0 about1 = true := code_word (m := ⟨1, 3⟩) (meth := k1m3) (c := k1c3) (by decide +kernel) rfl rfl rfl (by decide +kernel)
set_option maxRecDepth 65536 in
theorem w_c1 : (Jvm.Cond.code ({ cls := "java/lang/String", name := "<init>", desc := "([C)V" } : Jvm.MethodName) jdk_42_method_3_code (2 : Nat) (Option.none : Option Jvm.ClassFile.FieldType)).before args0 about1 = true := code_word (m := ⟨7, 1⟩) (meth := k7m1) (c := k7c1) (by decide +kernel) rfl rfl rfl (by decide +kernel)
set_option maxRecDepth 65536 in
theorem w_c2 : (Jvm.Cond.code ({ cls := "java/lang/String", name := "<init>", desc := "([CIILjava/lang/Void;)V" } : Jvm.MethodName) jdk_42_method_149_code (6 : Nat) (Option.none : Option Jvm.ClassFile.FieldType)).before args0 about1 = true := code_word (m := ⟨7, 6⟩) (meth := k7m6) (c := k7c6) (by decide +kernel) rfl rfl rfl (by decide +kernel)
set_option maxRecDepth 65536 in
theorem w_c3 : (Jvm.Cond.code ({ cls := "java/lang/Object", name := "<init>", desc := "()V" } : Jvm.MethodName) object_method_1_code (1 : Nat) (Option.none : Option Jvm.ClassFile.FieldType)).before args0 about1 = true := code_word (m := ⟨0, 0⟩) (meth := k0m0) (c := k0c0) (by decide +kernel) rfl rfl rfl (by decide +kernel)
set_option maxRecDepth 65536 in
theorem w_c4 : (Jvm.Cond.code ({ cls := "java/lang/StringUTF16", name := "compress", desc := "([CII)[B" } : Jvm.MethodName) jdk_52_method_16_code (6 : Nat) (Option.some (Jvm.ClassFile.FieldType.array Jvm.ClassFile.FieldType.byte))).before args0 about1 = true := code_word (m := ⟨8, 2⟩) (meth := k8m2) (c := k8c2) (by decide +kernel) rfl rfl rfl (by decide +kernel)
set_option maxRecDepth 65536 in
theorem w_c5 : (Jvm.Cond.code ({ cls := "java/lang/StringUTF16", name := "compress", desc := "([CI[BII)I" } : Jvm.MethodName) jdk_52_method_21_code (7 : Nat) (Option.some Jvm.ClassFile.FieldType.int)).before args0 about1 = true := code_word (m := ⟨8, 3⟩) (meth := k8m3) (c := k8c3) (by decide +kernel) rfl rfl rfl (by decide +kernel)
set_option maxRecDepth 65536 in
theorem w_c6 : (Jvm.Cond.code ({ cls := "java/lang/StringUTF16", name := "coderFromArrayLen", desc := "([BI)B" } : Jvm.MethodName) jdk_52_method_15_code (2 : Nat) (Option.some Jvm.ClassFile.FieldType.byte)).before args0 about1 = true := code_word (m := ⟨8, 1⟩) (meth := k8m1) (c := k8c1) (by decide +kernel) rfl rfl rfl (by decide +kernel)
set_option maxRecDepth 65536 in
theorem w_c7 : (Jvm.Cond.code ({ cls := "com/example/sessionsmith/sessionsmith/SchemaProblemToStringPinLaw", name := "putTableWord", desc := "([CI)V" } : Jvm.MethodName) method_3_code (2 : Nat) (Option.none : Option Jvm.ClassFile.FieldType)).before args0 about1 = true := code_word (m := ⟨1, 2⟩) (meth := k1m2) (c := k1c2) (by decide +kernel) rfl rfl rfl (by decide +kernel)
set_option maxRecDepth 65536 in
theorem w_c8 : (Jvm.Cond.code ({ cls := "com/example/sessionsmith/sessionsmith/SchemaProblemToStringPinLaw", name := "putIsMissing", desc := "([CI)V" } : Jvm.MethodName) method_2_code (2 : Nat) (Option.none : Option Jvm.ClassFile.FieldType)).before args0 about1 = true := code_word (m := ⟨1, 1⟩) (meth := k1m1) (c := k1c1) (by decide +kernel) rfl rfl rfl (by decide +kernel)
set_option maxRecDepth 65536 in
theorem w_c9 : (Jvm.Cond.code ({ cls := "com/example/sessionsmith/sessionsmith/SchemaProblem", name := "<init>", desc := "(Ljava/lang/String;Ljava/lang/String;)V" } : Jvm.MethodName) prog_8_method_1_code (3 : Nat) (Option.none : Option Jvm.ClassFile.FieldType)).before args0 about1 = true := code_word (m := ⟨10, 0⟩) (meth := k10m0) (c := k10c0) (by decide +kernel) rfl rfl rfl (by decide +kernel)
set_option maxRecDepth 65536 in
theorem w_c10 : (Jvm.Cond.code ({ cls := "java/lang/Record", name := "<init>", desc := "()V" } : Jvm.MethodName) jdk_30_method_1_code (1 : Nat) (Option.none : Option Jvm.ClassFile.FieldType)).before args0 about1 = true := code_word (m := ⟨9, 0⟩) (meth := k9m0) (c := k9c0) (by decide +kernel) rfl rfl rfl (by decide +kernel)
set_option maxRecDepth 65536 in
theorem w_c11 : (Jvm.Cond.code ({ cls := "java/util/Objects", name := "requireNonNull", desc := "(Ljava/lang/Object;Ljava/lang/String;)Ljava/lang/Object;" } : Jvm.MethodName) jdk_31_method_11_code (2 : Nat) (Option.some (Jvm.ClassFile.FieldType.object "java/lang/Object"))).before args0 about1 = true := code_word (m := ⟨11, 1⟩) (meth := k11m1) (c := k11c1) (by decide +kernel) rfl rfl rfl (by decide +kernel)
set_option maxRecDepth 65536 in
theorem w_c12 : (Jvm.Cond.code ({ cls := "com/example/sessionsmith/sessionsmith/SchemaProblem", name := "toString", desc := "()Ljava/lang/String;" } : Jvm.MethodName) prog_8_method_2_code (1 : Nat) (Option.some (Jvm.ClassFile.FieldType.object "java/lang/String"))).before args0 about1 = true := code_word (m := ⟨10, 1⟩) (meth := k10m1) (c := k10c1) (by decide +kernel) rfl rfl rfl (by decide +kernel)
set_option maxRecDepth 65536 in
theorem w_c13 : (Jvm.Cond.code ({ cls := "java/lang/StringBuilder", name := "<init>", desc := "()V" } : Jvm.MethodName) jdk_67_method_1_code (1 : Nat) (Option.none : Option Jvm.ClassFile.FieldType)).before args0 about1 = true := code_word (m := ⟨14, 0⟩) (meth := k14m0) (c := k14c0) (by decide +kernel) rfl rfl rfl (by decide +kernel)
set_option maxRecDepth 65536 in
theorem w_c14 : (Jvm.Cond.code ({ cls := "java/lang/AbstractStringBuilder", name := "<init>", desc := "(I)V" } : Jvm.MethodName) jdk_68_method_2_code (2 : Nat) (Option.none : Option Jvm.ClassFile.FieldType)).before args0 about1 = true := code_word (m := ⟨13, 1⟩) (meth := k13m1) (c := k13c1) (by decide +kernel) rfl rfl rfl (by decide +kernel)
set_option maxRecDepth 65536 in
theorem w_c15 : (Jvm.Cond.code ({ cls := "java/lang/StringBuilder", name := "append", desc := "(Ljava/lang/String;)Ljava/lang/StringBuilder;" } : Jvm.MethodName) jdk_67_method_7_code (2 : Nat) (Option.some (Jvm.ClassFile.FieldType.object "java/lang/StringBuilder"))).before args0 about1 = true := code_word (m := ⟨14, 1⟩) (meth := k14m1) (c := k14c1) (by decide +kernel) rfl rfl rfl (by decide +kernel)
set_option maxRecDepth 65536 in
theorem w_c16 : (Jvm.Cond.code ({ cls := "java/lang/AbstractStringBuilder", name := "append", desc := "(Ljava/lang/String;)Ljava/lang/AbstractStringBuilder;" } : Jvm.MethodName) jdk_68_method_22_code (3 : Nat) (Option.some (Jvm.ClassFile.FieldType.object "java/lang/AbstractStringBuilder"))).before args0 about1 = true := code_word (m := ⟨13, 5⟩) (meth := k13m5) (c := k13c5) (by decide +kernel) rfl rfl rfl (by decide +kernel)
set_option maxRecDepth 65536 in
theorem w_c17 : (Jvm.Cond.code ({ cls := "java/lang/String", name := "length", desc := "()I" } : Jvm.MethodName) jdk_42_method_54_code (1 : Nat) (Option.some Jvm.ClassFile.FieldType.int)).before args0 about1 = true := code_word (m := ⟨7, 3⟩) (meth := k7m3) (c := k7c3) (by decide +kernel) rfl rfl rfl (by decide +kernel)
set_option maxRecDepth 65536 in
theorem w_c18 : (Jvm.Cond.code ({ cls := "java/lang/String", name := "coder", desc := "()B" } : Jvm.MethodName) jdk_42_method_152_code (1 : Nat) (Option.some Jvm.ClassFile.FieldType.byte)).before args0 about1 = true := code_word (m := ⟨7, 8⟩) (meth := k7m8) (c := k7c8) (by decide +kernel) rfl rfl rfl (by decide +kernel)
set_option maxRecDepth 65536 in
theorem w_c19 : (Jvm.Cond.code ({ cls := "java/lang/AbstractStringBuilder", name := "ensureCapacityInternal", desc := "(I)V" } : Jvm.MethodName) jdk_68_method_9_code (3 : Nat) (Option.none : Option Jvm.ClassFile.FieldType)).before args0 about1 = true := code_word (m := ⟨13, 3⟩) (meth := k13m3) (c := k13c3) (by decide +kernel) rfl rfl rfl (by decide +kernel)
set_option maxRecDepth 65536 in
theorem w_c20 : (Jvm.Cond.code ({ cls := "java/lang/AbstractStringBuilder", name := "putStringAt", desc := "(ILjava/lang/String;)V" } : Jvm.MethodName) jdk_68_method_73_code (3 : Nat) (Option.none : Option Jvm.ClassFile.FieldType)).before args0 about1 = true := code_word (m := ⟨13, 9⟩) (meth := k13m9) (c := k13c9) (by decide +kernel) rfl rfl rfl (by decide +kernel)
set_option maxRecDepth 65536 in
theorem w_c21 : (Jvm.Cond.code ({ cls := "java/lang/AbstractStringBuilder", name := "inflateIfNeededFor", desc := "(Ljava/lang/String;)V" } : Jvm.MethodName) jdk_68_method_71_code (2 : Nat) (Option.none : Option Jvm.ClassFile.FieldType)).before args0 about1 = true := code_word (m := ⟨13, 8⟩) (meth := k13m8) (c := k13c8) (by decide +kernel) rfl rfl rfl (by decide +kernel)
set_option maxRecDepth 65536 in
theorem w_c22 : (Jvm.Cond.code ({ cls := "java/lang/String", name := "getBytes", desc := "([BIB)V" } : Jvm.MethodName) jdk_42_method_147_code (4 : Nat) (Option.none : Option Jvm.ClassFile.FieldType)).before args0 about1 = true := code_word (m := ⟨7, 5⟩) (meth := k7m5) (c := k7c5) (by decide +kernel) rfl rfl rfl (by decide +kernel)
set_option maxRecDepth 65536 in
theorem w_c23 : (Jvm.Cond.code ({ cls := "java/lang/AbstractStringBuilder", name := "newCapacity", desc := "(I)I" } : Jvm.MethodName) jdk_68_method_10_code (6 : Nat) (Option.some Jvm.ClassFile.FieldType.int)).before args0 about1 = true := code_word (m := ⟨13, 4⟩) (meth := k13m4) (c := k13c4) (by decide +kernel) rfl rfl rfl (by decide +kernel)
set_option maxRecDepth 65536 in
theorem w_c24 : (Jvm.Cond.code ({ cls := "jdk/internal/util/ArraysSupport", name := "newLength", desc := "(III)I" } : Jvm.MethodName) jdk_48_method_27_code (4 : Nat) (Option.some Jvm.ClassFile.FieldType.int)).before args0 about1 = true := code_word (m := ⟨16, 1⟩) (meth := k16m1) (c := k16c1) (by decide +kernel) rfl rfl rfl (by decide +kernel)
set_option maxRecDepth 65536 in
theorem w_c25 : (Jvm.Cond.code ({ cls := "java/lang/Math", name := "max", desc := "(II)I" } : Jvm.MethodName) jdk_29_method_65_code (2 : Nat) (Option.some Jvm.ClassFile.FieldType.int)).before args0 about1 = true := code_word (m := ⟨17, 1⟩) (meth := k17m1) (c := k17c1) (by decide +kernel) rfl rfl rfl (by decide +kernel)
set_option maxRecDepth 65536 in
theorem w_c26 : (Jvm.Cond.code ({ cls := "java/util/Arrays", name := "copyOf", desc := "([BI)[B" } : Jvm.MethodName) jdk_65_method_121_code (3 : Nat) (Option.some (Jvm.ClassFile.FieldType.array Jvm.ClassFile.FieldType.byte))).before args0 about1 = true := code_word (m := ⟨18, 1⟩) (meth := k18m1) (c := k18c1) (by decide +kernel) rfl rfl rfl (by decide +kernel)
set_option maxRecDepth 65536 in
theorem w_c27 : (Jvm.Cond.code ({ cls := "java/lang/Math", name := "min", desc := "(II)I" } : Jvm.MethodName) jdk_29_method_69_code (2 : Nat) (Option.some Jvm.ClassFile.FieldType.int)).before args0 about1 = true := code_word (m := ⟨17, 2⟩) (meth := k17m2) (c := k17c2) (by decide +kernel) rfl rfl rfl (by decide +kernel)
set_option maxRecDepth 65536 in
theorem w_c28 : (Jvm.Cond.code ({ cls := "java/lang/StringBuilder", name := "toString", desc := "()Ljava/lang/String;" } : Jvm.MethodName) jdk_67_method_42_code (1 : Nat) (Option.some (Jvm.ClassFile.FieldType.object "java/lang/String"))).before args0 about1 = true := code_word (m := ⟨14, 2⟩) (meth := k14m2) (c := k14c2) (by decide +kernel) rfl rfl rfl (by decide +kernel)
set_option maxRecDepth 65536 in
theorem w_c29 : (Jvm.Cond.code ({ cls := "java/lang/String", name := "<init>", desc := "(Ljava/lang/StringBuilder;)V" } : Jvm.MethodName) jdk_42_method_53_code (2 : Nat) (Option.none : Option Jvm.ClassFile.FieldType)).before args0 about1 = true := code_word (m := ⟨7, 2⟩) (meth := k7m2) (c := k7c2) (by decide +kernel) rfl rfl rfl (by decide +kernel)
set_option maxRecDepth 65536 in
theorem w_c30 : (Jvm.Cond.code ({ cls := "java/lang/String", name := "<init>", desc := "(Ljava/lang/AbstractStringBuilder;Ljava/lang/Void;)V" } : Jvm.MethodName) jdk_42_method_150_code (5 : Nat) (Option.none : Option Jvm.ClassFile.FieldType)).before args0 about1 = true := code_word (m := ⟨7, 7⟩) (meth := k7m7) (c := k7c7) (by decide +kernel) rfl rfl rfl (by decide +kernel)
set_option maxRecDepth 65536 in
theorem w_c31 : (Jvm.Cond.code ({ cls := "java/lang/AbstractStringBuilder", name := "getValue", desc := "()[B" } : Jvm.MethodName) jdk_68_method_64_code (1 : Nat) (Option.some (Jvm.ClassFile.FieldType.array Jvm.ClassFile.FieldType.byte))).before args0 about1 = true := code_word (m := ⟨13, 6⟩) (meth := k13m6) (c := k13c6) (by decide +kernel) rfl rfl rfl (by decide +kernel)
set_option maxRecDepth 65536 in
theorem w_c32 : (Jvm.Cond.code ({ cls := "java/lang/StringBuilder", name := "length", desc := "()I" } : Jvm.MethodName) jdk_67_method_93_code (1 : Nat) (Option.some Jvm.ClassFile.FieldType.int)).before args0 about1 = true := code_word (m := ⟨14, 3⟩) (meth := k14m3) (c := k14c3) (by decide +kernel) rfl rfl rfl (by decide +kernel)
set_option maxRecDepth 65536 in
theorem w_c33 : (Jvm.Cond.code ({ cls := "java/lang/AbstractStringBuilder", name := "length", desc := "()I" } : Jvm.MethodName) jdk_68_method_6_code (1 : Nat) (Option.some Jvm.ClassFile.FieldType.int)).before args0 about1 = true := code_word (m := ⟨13, 2⟩) (meth := k13m2) (c := k13c2) (by decide +kernel) rfl rfl rfl (by decide +kernel)
set_option maxRecDepth 65536 in
theorem w_c34 : (Jvm.Cond.code ({ cls := "java/lang/AbstractStringBuilder", name := "isLatin1", desc := "()Z" } : Jvm.MethodName) jdk_68_method_68_code (1 : Nat) (Option.some Jvm.ClassFile.FieldType.boolean)).before args0 about1 = true := code_word (m := ⟨13, 7⟩) (meth := k13m7) (c := k13c7) (by decide +kernel) rfl rfl rfl (by decide +kernel)
set_option maxRecDepth 65536 in
theorem w_c35 : (Jvm.Cond.code ({ cls := "java/util/Arrays", name := "copyOfRange", desc := "([BII)[B" } : Jvm.MethodName) jdk_65_method_132_code (3 : Nat) (Option.some (Jvm.ClassFile.FieldType.array Jvm.ClassFile.FieldType.byte))).before args0 about1 = true := code_word (m := ⟨18, 3⟩) (meth := k18m3) (c := k18c3) (by decide +kernel) rfl rfl rfl (by decide +kernel)
set_option maxRecDepth 65536 in
theorem w_c36 : (Jvm.Cond.code ({ cls := "java/util/Arrays", name := "copyOfRangeByte", desc := "([BII)[B" } : Jvm.MethodName) jdk_65_method_133_code (5 : Nat) (Option.some (Jvm.ClassFile.FieldType.array Jvm.ClassFile.FieldType.byte))).before args0 about1 = true := code_word (m := ⟨18, 4⟩) (meth := k18m4) (c := k18c4) (by decide +kernel) rfl rfl rfl (by decide +kernel)
set_option maxRecDepth 65536 in
theorem w_c37 : (Jvm.Cond.code ({ cls := "java/util/Arrays", name := "checkLength", desc := "(II)V" } : Jvm.MethodName) jdk_65_method_131_code (2 : Nat) (Option.none : Option Jvm.ClassFile.FieldType)).before args0 about1 = true := code_word (m := ⟨18, 2⟩) (meth := k18m2) (c := k18c2) (by decide +kernel) rfl rfl rfl (by decide +kernel)
set_option maxRecDepth 65536 in
theorem w_c38 : (Jvm.Cond.code ({ cls := "java/lang/String", name := "equals", desc := "(Ljava/lang/Object;)Z" } : Jvm.MethodName) jdk_42_method_66_code (3 : Nat) (Option.some Jvm.ClassFile.FieldType.boolean)).before args0 about1 = true := code_word (m := ⟨7, 4⟩) (meth := k7m4) (c := k7c4) (by decide +kernel) rfl rfl rfl (by decide +kernel)
set_option maxRecDepth 65536 in
theorem w_c39 : (Jvm.Cond.code ({ cls := "java/lang/StringLatin1", name := "equals", desc := "([B[B)Z" } : Jvm.MethodName) jdk_43_method_13_code (3 : Nat) (Option.some Jvm.ClassFile.FieldType.boolean)).before args0 about1 = true := code_word (m := ⟨19, 1⟩) (meth := k19m1) (c := k19c1) (by decide +kernel) rfl rfl rfl (by decide +kernel)
def codes1 : List Jvm.Cond := [Jvm.Cond.code x code maxLocals ret, Jvm.Cond.code ({ cls := "java/lang/String", name := "<init>", desc := "([C)V" } : Jvm.MethodName) jdk_42_method_3_code (2 : Nat) (Option.none : Option Jvm.ClassFile.FieldType), Jvm.Cond.code ({ cls := "java/lang/String", name := "<init>", desc := "([CIILjava/lang/Void;)V" } : Jvm.MethodName) jdk_42_method_149_code (6 : Nat) (Option.none : Option Jvm.ClassFile.FieldType), Jvm.Cond.code ({ cls := "java/lang/Object", name := "<init>", desc := "()V" } : Jvm.MethodName) object_method_1_code (1 : Nat) (Option.none : Option Jvm.ClassFile.FieldType), Jvm.Cond.code ({ cls := "java/lang/StringUTF16", name := "compress", desc := "([CII)[B" } : Jvm.MethodName) jdk_52_method_16_code (6 : Nat) (Option.some (Jvm.ClassFile.FieldType.array Jvm.ClassFile.FieldType.byte)), Jvm.Cond.code ({ cls := "java/lang/StringUTF16", name := "compress", desc := "([CI[BII)I" } : Jvm.MethodName) jdk_52_method_21_code (7 : Nat) (Option.some Jvm.ClassFile.FieldType.int), Jvm.Cond.code ({ cls := "java/lang/StringUTF16", name := "coderFromArrayLen", desc := "([BI)B" } : Jvm.MethodName) jdk_52_method_15_code (2 : Nat) (Option.some Jvm.ClassFile.FieldType.byte), Jvm.Cond.code ({ cls := "com/example/sessionsmith/sessionsmith/SchemaProblemToStringPinLaw", name := "putTableWord", desc := "([CI)V" } : Jvm.MethodName) method_3_code (2 : Nat) (Option.none : Option Jvm.ClassFile.FieldType), Jvm.Cond.code ({ cls := "com/example/sessionsmith/sessionsmith/SchemaProblemToStringPinLaw", name := "putIsMissing", desc := "([CI)V" } : Jvm.MethodName) method_2_code (2 : Nat) (Option.none : Option Jvm.ClassFile.FieldType), Jvm.Cond.code ({ cls := "com/example/sessionsmith/sessionsmith/SchemaProblem", name := "<init>", desc := "(Ljava/lang/String;Ljava/lang/String;)V" } : Jvm.MethodName) prog_8_method_1_code (3 : Nat) (Option.none : Option Jvm.ClassFile.FieldType), Jvm.Cond.code ({ cls := "java/lang/Record", name := "<init>", desc := "()V" } : Jvm.MethodName) jdk_30_method_1_code (1 : Nat) (Option.none : Option Jvm.ClassFile.FieldType), Jvm.Cond.code ({ cls := "java/util/Objects", name := "requireNonNull", desc := "(Ljava/lang/Object;Ljava/lang/String;)Ljava/lang/Object;" } : Jvm.MethodName) jdk_31_method_11_code (2 : Nat) (Option.some (Jvm.ClassFile.FieldType.object "java/lang/Object")), Jvm.Cond.code ({ cls := "com/example/sessionsmith/sessionsmith/SchemaProblem", name := "toString", desc := "()Ljava/lang/String;" } : Jvm.MethodName) prog_8_method_2_code (1 : Nat) (Option.some (Jvm.ClassFile.FieldType.object "java/lang/String")), Jvm.Cond.code ({ cls := "java/lang/StringBuilder", name := "<init>", desc := "()V" } : Jvm.MethodName) jdk_67_method_1_code (1 : Nat) (Option.none : Option Jvm.ClassFile.FieldType), Jvm.Cond.code ({ cls := "java/lang/AbstractStringBuilder", name := "<init>", desc := "(I)V" } : Jvm.MethodName) jdk_68_method_2_code (2 : Nat) (Option.none : Option Jvm.ClassFile.FieldType), Jvm.Cond.code ({ cls := "java/lang/StringBuilder", name := "append", desc := "(Ljava/lang/String;)Ljava/lang/StringBuilder;" } : Jvm.MethodName) jdk_67_method_7_code (2 : Nat) (Option.some (Jvm.ClassFile.FieldType.object "java/lang/StringBuilder")), Jvm.Cond.code ({ cls := "java/lang/AbstractStringBuilder", name := "append", desc := "(Ljava/lang/String;)Ljava/lang/AbstractStringBuilder;" } : Jvm.MethodName) jdk_68_method_22_code (3 : Nat) (Option.some (Jvm.ClassFile.FieldType.object "java/lang/AbstractStringBuilder")), Jvm.Cond.code ({ cls := "java/lang/String", name := "length", desc := "()I" } : Jvm.MethodName) jdk_42_method_54_code (1 : Nat) (Option.some Jvm.ClassFile.FieldType.int), Jvm.Cond.code ({ cls := "java/lang/String", name := "coder", desc := "()B" } : Jvm.MethodName) jdk_42_method_152_code (1 : Nat) (Option.some Jvm.ClassFile.FieldType.byte), Jvm.Cond.code ({ cls := "java/lang/AbstractStringBuilder", name := "ensureCapacityInternal", desc := "(I)V" } : Jvm.MethodName) jdk_68_method_9_code (3 : Nat) (Option.none : Option Jvm.ClassFile.FieldType), Jvm.Cond.code ({ cls := "java/lang/AbstractStringBuilder", name := "putStringAt", desc := "(ILjava/lang/String;)V" } : Jvm.MethodName) jdk_68_method_73_code (3 : Nat) (Option.none : Option Jvm.ClassFile.FieldType), Jvm.Cond.code ({ cls := "java/lang/AbstractStringBuilder", name := "inflateIfNeededFor", desc := "(Ljava/lang/String;)V" } : Jvm.MethodName) jdk_68_method_71_code (2 : Nat) (Option.none : Option Jvm.ClassFile.FieldType), Jvm.Cond.code ({ cls := "java/lang/String", name := "getBytes", desc := "([BIB)V" } : Jvm.MethodName) jdk_42_method_147_code (4 : Nat) (Option.none : Option Jvm.ClassFile.FieldType), Jvm.Cond.code ({ cls := "java/lang/AbstractStringBuilder", name := "newCapacity", desc := "(I)I" } : Jvm.MethodName) jdk_68_method_10_code (6 : Nat) (Option.some Jvm.ClassFile.FieldType.int), Jvm.Cond.code ({ cls := "jdk/internal/util/ArraysSupport", name := "newLength", desc := "(III)I" } : Jvm.MethodName) jdk_48_method_27_code (4 : Nat) (Option.some Jvm.ClassFile.FieldType.int), Jvm.Cond.code ({ cls := "java/lang/Math", name := "max", desc := "(II)I" } : Jvm.MethodName) jdk_29_method_65_code (2 : Nat) (Option.some Jvm.ClassFile.FieldType.int), Jvm.Cond.code ({ cls := "java/util/Arrays", name := "copyOf", desc := "([BI)[B" } : Jvm.MethodName) jdk_65_method_121_code (3 : Nat) (Option.some (Jvm.ClassFile.FieldType.array Jvm.ClassFile.FieldType.byte)), Jvm.Cond.code ({ cls := "java/lang/Math", name := "min", desc := "(II)I" } : Jvm.MethodName) jdk_29_method_69_code (2 : Nat) (Option.some Jvm.ClassFile.FieldType.int), Jvm.Cond.code ({ cls := "java/lang/StringBuilder", name := "toString", desc := "()Ljava/lang/String;" } : Jvm.MethodName) jdk_67_method_42_code (1 : Nat) (Option.some (Jvm.ClassFile.FieldType.object "java/lang/String")), Jvm.Cond.code ({ cls := "java/lang/String", name := "<init>", desc := "(Ljava/lang/StringBuilder;)V" } : Jvm.MethodName) jdk_42_method_53_code (2 : Nat) (Option.none : Option Jvm.ClassFile.FieldType), Jvm.Cond.code ({ cls := "java/lang/String", name := "<init>", desc := "(Ljava/lang/AbstractStringBuilder;Ljava/lang/Void;)V" } : Jvm.MethodName) jdk_42_method_150_code (5 : Nat) (Option.none : Option Jvm.ClassFile.FieldType), Jvm.Cond.code ({ cls := "java/lang/AbstractStringBuilder", name := "getValue", desc := "()[B" } : Jvm.MethodName) jdk_68_method_64_code (1 : Nat) (Option.some (Jvm.ClassFile.FieldType.array Jvm.ClassFile.FieldType.byte)), Jvm.Cond.code ({ cls := "java/lang/StringBuilder", name := "length", desc := "()I" } : Jvm.MethodName) jdk_67_method_93_code (1 : Nat) (Option.some Jvm.ClassFile.FieldType.int), Jvm.Cond.code ({ cls := "java/lang/AbstractStringBuilder", name := "length", desc := "()I" } : Jvm.MethodName) jdk_68_method_6_code (1 : Nat) (Option.some Jvm.ClassFile.FieldType.int), Jvm.Cond.code ({ cls := "java/lang/AbstractStringBuilder", name := "isLatin1", desc := "()Z" } : Jvm.MethodName) jdk_68_method_68_code (1 : Nat) (Option.some Jvm.ClassFile.FieldType.boolean), Jvm.Cond.code ({ cls := "java/util/Arrays", name := "copyOfRange", desc := "([BII)[B" } : Jvm.MethodName) jdk_65_method_132_code (3 : Nat) (Option.some (Jvm.ClassFile.FieldType.array Jvm.ClassFile.FieldType.byte)), Jvm.Cond.code ({ cls := "java/util/Arrays", name := "copyOfRangeByte", desc := "([BII)[B" } : Jvm.MethodName) jdk_65_method_133_code (5 : Nat) (Option.some (Jvm.ClassFile.FieldType.array Jvm.ClassFile.FieldType.byte)), Jvm.Cond.code ({ cls := "java/util/Arrays", name := "checkLength", desc := "(II)V" } : Jvm.MethodName) jdk_65_method_131_code (2 : Nat) (Option.none : Option Jvm.ClassFile.FieldType), Jvm.Cond.code ({ cls := "java/lang/String", name := "equals", desc := "(Ljava/lang/Object;)Z" } : Jvm.MethodName) jdk_42_method_66_code (3 : Nat) (Option.some Jvm.ClassFile.FieldType.boolean), Jvm.Cond.code ({ cls := "java/lang/StringLatin1", name := "equals", desc := "([B[B)Z" } : Jvm.MethodName) jdk_43_method_13_code (3 : Nat) (Option.some Jvm.ClassFile.FieldType.boolean)]
set_option maxRecDepth 65536 in
theorem codes_eq : words1.filter isCode = codes1 := rfl
theorem w_codes : ∀ c ∈ words1.filter isCode, c.before args0 about1 = true := by
  rw [codes_eq]
  intro c hc
  simp only [codes1, List.mem_cons, List.not_mem_nil, or_false] at hc
  rcases hc with rfl | rfl | rfl | rfl | rfl | rfl | rfl | rfl | rfl | rfl | rfl | rfl | rfl | rfl | rfl | rfl | rfl | rfl | rfl | rfl | rfl | rfl | rfl | rfl | rfl | rfl | rfl | rfl | rfl | rfl | rfl | rfl | rfl | rfl | rfl | rfl | rfl | rfl | rfl | rfl
  · exact w_c0
  · exact w_c1
  · exact w_c2
  · exact w_c3
  · exact w_c4
  · exact w_c5
  · exact w_c6
  · exact w_c7
  · exact w_c8
  · exact w_c9
  · exact w_c10
  · exact w_c11
  · exact w_c12
  · exact w_c13
  · exact w_c14
  · exact w_c15
  · exact w_c16
  · exact w_c17
  · exact w_c18
  · exact w_c19
  · exact w_c20
  · exact w_c21
  · exact w_c22
  · exact w_c23
  · exact w_c24
  · exact w_c25
  · exact w_c26
  · exact w_c27
  · exact w_c28
  · exact w_c29
  · exact w_c30
  · exact w_c31
  · exact w_c32
  · exact w_c33
  · exact w_c34
  · exact w_c35
  · exact w_c36
  · exact w_c37
  · exact w_c38
  · exact w_c39
set_option maxRecDepth 65536 in
theorem w_t1 : (words1.take 24).all (fun c => isCode c || c.before args0 about1) = true := by decide +kernel
set_option maxRecDepth 65536 in
theorem w_t2 : ((words1.drop 24).take 24).all (fun c => isCode c || c.before args0 about1) = true := by decide +kernel
set_option maxRecDepth 65536 in
theorem w_t3 : (((words1.drop 24).drop 24).take 24).all (fun c => isCode c || c.before args0 about1) = true := by decide +kernel
set_option maxRecDepth 65536 in
theorem w_t4 : ((((words1.drop 24).drop 24).drop 24).take 24).all (fun c => isCode c || c.before args0 about1) = true := by decide +kernel
set_option maxRecDepth 65536 in
theorem w_t5 : (((((words1.drop 24).drop 24).drop 24).drop 24).take 24).all (fun c => isCode c || c.before args0 about1) = true := by decide +kernel
set_option maxRecDepth 65536 in
theorem w_t6 : ((((((words1.drop 24).drop 24).drop 24).drop 24).drop 24).take 24).all (fun c => isCode c || c.before args0 about1) = true := by decide +kernel
set_option maxRecDepth 65536 in
theorem w_t7 : (((((((words1.drop 24).drop 24).drop 24).drop 24).drop 24).drop 24).take 24).all (fun c => isCode c || c.before args0 about1) = true := by decide +kernel
set_option maxRecDepth 65536 in
theorem w_t8 : ((((((((words1.drop 24).drop 24).drop 24).drop 24).drop 24).drop 24).drop 24).take 24).all (fun c => isCode c || c.before args0 about1) = true := by decide +kernel
set_option maxRecDepth 65536 in
theorem w_t9 : ((((((((words1.drop 24).drop 24).drop 24).drop 24).drop 24).drop 24).drop 24).drop 24).all (fun c => isCode c || c.before args0 about1) = true := by decide +kernel
theorem w_tables : (allAtoms (Jvm.Cond.code x code maxLocals ret :: tables_1)).before args0 about1 = true := by
  rw [allAtoms_all]
  show words1.all (fun c => c.before args0 about1) = true
  refine all_split ?_ w_codes
  rw [← List.take_append_drop 24 words1, List.all_append, w_t1, ← List.take_append_drop 24 (words1.drop 24), List.all_append, w_t2, ← List.take_append_drop 24 ((words1.drop 24).drop 24), List.all_append, w_t3, ← List.take_append_drop 24 (((words1.drop 24).drop 24).drop 24), List.all_append, w_t4, ← List.take_append_drop 24 ((((words1.drop 24).drop 24).drop 24).drop 24), List.all_append, w_t5, ← List.take_append_drop 24 (((((words1.drop 24).drop 24).drop 24).drop 24).drop 24), List.all_append, w_t6, ← List.take_append_drop 24 ((((((words1.drop 24).drop 24).drop 24).drop 24).drop 24).drop 24), List.all_append, w_t7, ← List.take_append_drop 24 (((((((words1.drop 24).drop 24).drop 24).drop 24).drop 24).drop 24).drop 24), List.all_append, w_t8, w_t9]
  rfl
set_option maxRecDepth 65536 in
theorem w_rest : rest_1_c.before args0 about1 = true := by decide +kernel
set_option maxRecDepth 65536 in
theorem w_case : (Jvm.Cond.and given_1 narrow_1).before args0 about1 = true := by decide +kernel
set_option maxRecDepth 65536 in
theorem w_consts : constsHeld consts_1 about1 := Jvm.Lit.constsHeldB_iff.mp (by decide +kernel)
theorem w_applies : (headSpec (Jvm.Cond.code x code maxLocals ret :: tables_1) room_1).applies x e0.platform about1 = true :=
  (Spec.applies_iff w_frames).mpr ⟨w_running, w_runnable, w_alone, w_named, w_hears, w_ripe, w_room, w_tables⟩
theorem atStart : AtStart classFile x code maxLocals ret World_1 tables_1 room_1 Calls_1 rest_1 Pre_1 launch0 p0 e0 about1 theMethod args0 below0 :=
  ⟨lists_1, trivial, launch0.admits_env _ _ _, launch0.least_env, fairChoices_fair.cas, fairChoices_fair.clock, w_frames, w_args, w_heap, w_applies, ⟨w_consts, trivial⟩, w_rest, w_case⟩
end start1
theorem witness_1 : WitnessClaimed_1 := ⟨start1.p0, start1.e0, start1.about1, start1.theMethod, start1.args0, start1.below0, start1.atStart⟩
end Jvm.Pilot.@@N@@
